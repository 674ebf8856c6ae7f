import PyProof.Rows.All
import PyProof.ExcFactsAll.ValueError
import PyProof.ExcStrAll.ValueError
import PyProof.Rows.Catch
import PyProof.Rows.SumAny
import PyProof.Rows.SortShell
import PyProof.Rows.SortWalk
import Flt.RightOps
import Flt.RightMore
import Flt.Ops
import Flt.Calls
import KE.BytesMake
import KE.KCallOwn
import KE.KLam
import KE.KFromBytes
import KE.KPairComp
import KE.KxPercentT
import Wide.FinOn
import OpenK.AllK
import Wide.Txt2
import Wide.All
import PySem.Challenge.RW_wv0059_01
set_option Elab.async false
set_option maxRecDepth 100000
set_option linter.unusedVariables false
set_option tactic.hygienic false
open Option renaming some->aa,none->az,bind_eq_some_iff->bd,map_eq_some_iff->dT,bind_some->gF,none->jo,isSome_iff_exists->jR
open PySem.Challenge renaming pw_wv0059_01->ms
open PySem renaming wpAny_mono->ab,wpAny_bind->ae,wpAny_pure->aj,Shared->aq,World->av,sizeLine_eq->aw,Value->ay,wpAny->aC,starEach->aE,Addr->aF,Program->aH,model->aI,Params->aQ,Heap->aW,Around->aX,callEnvC->bf,mainGlobals->bm,sizeLine->bn,cellsFrom->bu,FuncData->bz,builtinLookup_eq_fast->bA,Keeps->bB,wpAny_of_eq->bD,eval->bJ,wpAny_holding->bL,compareOp->bP,keywordEach->bR,wpAny_ite_true->bT,wpAny_ite_false->bY,binaryOp->ca,execs_cons->ch,wpAny_Call_Name_kw->cj,typeLookup_type->cz,wpAny_items_cons->cB,wpAny_items_nil->cF,swapsWith->cJ,partValue->cK,backToKw->cM,wpAny_Assign_Name->cN,foldedSetIterable->cO,letOwnedTupleGo->cS,OsState->cY,strValues->c8,attributeBase->db,builtinsNs->dg,wpAny_call_entry->dA,recursionLimit->dC,wpAny_assign_Name->dM,wpAny_Call_method->dN,clipAt->dQ,typeIs_str->dR,wpAny_seqItems->dY,isSubtype_type->dZ,wpAny_field->ec,Stmt->ef,wpAny_call->ei,wpAny_pyIter_tuple->eo,bindArgs->ew,wpAny_standAt->eC,wpAny_newObj_type->eH,rawInt->eO,Keyword->eV,backTo->fa,wpAny_updateSeq->fg,wpAny_specialOf->fh,call->ft,typeLookup->fu,cLine->fv,wpAny_callSpecial?_slot->fw,wpAny_Expr_any->fM,wpAny_truthy_bool->fO,slot_list_getitem->fP,wpAny_mkStr->ge,codeAny_builtin->gq,codeAny->gx,callWith->gI,wpAny_rule->gJ,closureFor->gK,call_meets->gL,holding->gV,IsPair->gY,wpAny_getItem_list_slice->g5,Flow->hG,treeTable->hZ,getMethod->ia,entryFor_of_tree->ic,PyData->ir,standAt->iu,bootBuiltins->iw,execs->iA,wpAny_loadPart'->iF,wpAny_execs_nil->iG,wpAny_storeName_local->iO,wpAny_allTrue_Or_cons->iP,compEnvC->iX,cStatics->iY,ZipApart->iZ,interactive->i5,letTemporaryGo->i7,codeAny_call_builtin->i8,seqIndex?->jc,DictEntry->jd,plainId_quiet->jt,wpAny_Name->jy,wpAny_List->jz,PlainAttrs->jA,wpAny_isTrue_value->jB,wpAny_Return_some->jL,isSubtype->jT,wpAny_isInstance->jW,wpAny_letOwnedTupleGo_listiter->jY,wpAny_Slice->j7,wpAny_BinOp->j8,pushCells_keeps->kj,linesOf->kr,typeOf->kE,NameKind->kF,wpAny_loadPart->kI,wpAny_attempt->lk,signature?_of->ll,rangeSize_one->lq,evalPart_none->lr,behindInMarks->lu,stripSame->lH,compTests->lI,wpAny_list_append_plain->lK,wpAny_callSpecial?_none->lL,pyNext->lV,assign->lW,argBest->lZ,BindsTo->l0,wpAny_nextOf_list_item->me
open List renaming length_append->af,range->ag,length_map->ah,mem_singleton->ak,mem_cons->ao,mem_append->ar,mem_append_left->ax,getElem?_eq_getElem->aA,map_map->aB,lookup->aD,replicate->aG,append_assoc->aJ,mem_map->aK,mem_range->aL,mem_append_right->aM,getElem?_eq_some_iff->aT,length_cons->aU,map_congr_left->aV,length_eq_zero_iff->aY,getD_eq_getElem?_getD->aZ,getElem?_map->a7,length_replicate->a8,map_cons->ba,length_range->be,flatMap_cons->bg,map_append->bh,length->bj,size_toArray->bo,all_eq_true->bq,mem_of_getElem?->br,cons_append->bx,take_of_length_le->bF,length_drop->bH,append_nil->bK,length_nil->bQ,flatMap_append->bV,filter_eq_self->bW,flatMap_def->cm,replicate_succ->cq,flatten_cons->cu,range_succ->cy,eq_nil_of_length_eq_zero->cC,forIn_cons->cD,mem_flatMap->cT,getElem_range->cU,getLast?_eq_some_getLast->c7,foldl_append->dc,length_take->dk,getElem_mem->dm,mem_cons_self->dw,nil_append->dD,zip->dF,range'_append_1->dG,take_succ_eq_append_getElem->dH,length_pos_iff->dP,pairwise_cons->dU,mem_replicate->dW,lookup_append->dX,sum_cons->d9,drop_zero->eD,forall_mem_cons->eG,take_length->eI,take_succ_cons->eM,flatten_append->eN,map->eU,mem_filter->eW,foldl_cons->eX,map_singleton->eY,map_replicate->eZ,range'->fb,reverse_cons->fi,drop_of_length_le->fj,drop_eq_nil_of_le->fq,not_mem_nil->fB,cons_ne_nil->fD,mem_cons_of_mem->fU,length_dropLast->fV,getLastD_concat->fW,length_flatMap->fY,take_left->gm,getLastD_eq_getLast?->gv,drop_eq_getElem_cons->gw,take_add_one->gA,getLast?_map->gB,getElem_map->gN,ext_getElem->gO,filter_cons_of_pos->gR,filter_cons_of_neg->gS,map_nil->gW,flatMap_singleton->gX,contains_iff_mem->hF,forIn_nil->ii,filterMap->ik,length_take_le'->iq,length_take_le->iH,getD_cons_succ->iI,map_take->iK,all_cons->iL,zip_cons_cons->iT,zipWith->jf,getElem_drop->jg,flatMap_nil->jv,drop_length->jw,dropLast_concat_getLast->jJ,getElem?_append_right->jS,getLast?_eq_none_iff->j4,getLast?_eq_getElem?->j5,mem_of_elem_eq_true->kf,range_succ_eq_map->kz,take_append_drop->kQ,length_filter_le->kR,getElem?_zipWith->kS,getElem?_toArray->kT,map_id->kU,getLast?_concat->kY,getElem?_mapIdx->kZ,findIdx_getElem->la,dropLast_concat->lb,getElem_of_mem->lD,getD_cons_zero->lE,filter_flatMap->lF,length_mapIdx->lT,zip_nil_left->ml,pairwise_map->mm,map_inj_left->mo,map_dropLast->mr
open Bool renaming true->ai,and_eq_true_iff->aP,false_eq_true->a9,and_eq_true->bI,false_ne_true->dy,eq_iff_iff->dE,and_false->io,or_false->iM,not_true->iN,false_and->jP
open Exists renaming elim->al
open Option.some renaming inj->am,injEq->ke
open PySem.Heap renaming get?_push_size->au,get?_push_of_some->aO,lt_size->aR,get?_update_self->cr,size_push->cw,SameBut->cL,get?_update_other->df,size_update->gM,FlyingW->je
open Nat renaming le_refl->aN,lt_of_lt_of_le->bi,beq->bN,eq_of_beq_eq_true->bO,le_trans->cg,two_pow_pos->ci,lt_irrefl->cn,zero_le->cx,le_of_ble_eq_true->cR,lt_of_le_of_lt->cX,ne_of_gt->cZ,mul->de,ne_of_lt->di,pow_add->dj,lt_succ_self->du,ble->dz,lt_or_ge->dI,mul_assoc->dJ,div_lt_iff_lt_mul->eu,mul_comm->eK,mul_div_mul_right->fH,ble_eq_true_of_le->fI,mod_lt->fL,div->fQ,add->fR,min_eq_left->fX,le_of_eq->gh,mul_le_mul->gr,lt_succ_of_lt->gG,lt_of_succ_lt->gH,sub_zero->g4,le_div_iff_mul_le->ie,le_succ->ix,add_mul->iy,mul_lt_mul_right->iz,sub->iC,pow->iD,shiftLeft->iR,not_lt->i6,add_sub_cancel->ja,blt->jk,lt_of_not_le->jC,le_add_right->jD,mul_pos->jF,mul_add->jG,not_lt_zero->jN,mul_eq->jU,add_eq->jV,shiftRight->jX,eq_of_mul_eq_mul_right->j3,pow_lt_pow_iff_right->kq,mod->kG,mul_zero->kK,min_zero->kL,le_total->kM,sub_eq_zero_of_le->kW,pow_lt_pow_right->lz,not_succ_le_self->lA,mul_le_mul_right->lB,mul_lt_mul_left->lQ,mul_div_cancel'->lR,lt_mul_div_succ->lS,not_le->l8,ble_eq->l9,beq_eq->mc
open PySem.Str renaming ofString->aS,length->fJ,ext'->iv,join->jl
open PySem.Sre renaming forSearch->bk,Seen->cv,inSet->eb,Frame->iE
open PySem.World renaming withFollow->bv
open Pure renaming pure->bG
open Int renaming fmod_eq_emod_of_nonneg->bM,fdiv_eq_ediv_of_nonneg->bX,toNat_natCast->bZ,toNat_of_nonneg->eR,toNat_le_toNat->fc,natCast_nonneg->fe,mul_add->ff,mul_assoc->fS,zero_add->gi,mul_zero->gj,ofNat->gU,natCast_mul->g8,lt_trichotomy->jp,compare_eq_lt->jq,compare_eq_gt->jr,natCast_add->jO,le_of_lt->kP
open PySem.W renaming hideAll_get->bS,of_hideAll->bU,emptyDict->cA,hideAll_none->dK,tabObj->eh,segRun_of->ey,piece_app->ez,instObj->gd,lookIn->gp,findIn->iU,kla_obj->jb,methodCall_KW->ju,isNs_of_in->kH,method_fn->lJ,nsIn->lU,typeIn->lX,byRow2->lY
open PySem.Sem renaming wp_mono->cf,wp_bind'->dh,wp->iV,wp_cmd_standAt->i9
open PySem.Unicode renaming isLineBreak->cG,isSpace->c9
open PySem.Heap.UpToSlots renaming of_keeps->cP
open PySem.PyData renaming eqv->da,depthAll->fT,eqvAll->gu,keyHash->g7,canLayAll0->ly
open PySem.StrLaws renaming strSub_toList->dn,lines_weight->fA,partsFrom->iQ,lsEnd->jM,glued_eq_join->ka,occBody->lO,occ_eq->mh
open PySem.Value renaming type->dq,none->iJ,ref->jm,bool->jK
open PySem.Builtin.Str renaming strKind->dB,subAt->eQ,occurrences->gk,tooLong->gy,partsBetween->js,lineSpans->jH,occurrences->j9,glued->kd,strSliceIndices->km
open Array renaming toList_inj->dO,getElem?_eq_getElem->eJ,toList_append->lh,length_toList->lj,forIn_toList->lG
open PyProof.Rows renaming subscriptTail->dS,pickNums->i4,Below->j6
open PySem.Heap.SameBut renaming update->ed
open PySem.Builtin.Int renaming intBits->et
open Prod renaming ext->eS
open PySem.Float64 renaming sgn->fz,cmpInt->mj
open PySem.Obj renaming mapSeq_push_plain->fE,mapSeq->fK,data_mapFields->mi
open PySem.Around renaming under_plainId->fF,frames_deeper->fG
open Classical renaming byContradiction->fZ,em->gz
open LawfulBEq renaming eq_of_beq->gC
open PySem.Heap.IsSliceOf renaming new->gQ
open PySem.W.KFB renaming if_not->gZ
open PySem.Manifest renaming signature?->g9,find?->lP
open UInt8 renaming ofNat->ib
open PySem.Builtin.SmallTypes renaming nextOf->ig
open ForIn renaming forIn->iB
open PySem.Builtin.Range renaming rangeSize->jh,small->jI
open PySem.Builtin.List renaming listSameRef->ji
open PySem.AutoFloatOps renaming truediv_1->jx,eq_0->jZ
open PySem.W.WShape renaming has->jE,hasItems->mf
open PySem.AutoIntOps renaming truediv_2->jQ
open PyProof renaming noPylong_small->j0
open Inhabited renaming default->ku
open PySem.W.WTm renaming holds->ky
open LT renaming lt->kD
open PySem.Walks renaming tuple->kJ
open ForInStep renaming yield->lc
open PySem.W.FB renaming slot_bytes_decode->lN
open PySem PySem.W
namespace Mine
set_option compiler.extract_closed false
open Lean in
def q0q (t:String) (s:TSyntax `str):MacroM (TSyntax `tactic):=
 match (t.splitOn ";").find? (·.startsWith (s.getString ++"=")) with
 |none=>Macro.throwUnsupported
 |some b=>do
  let l ← ((b.splitOn "=").getD 1 "" |>.splitOn "|").mapM fun a=>do
   let as ← (a.splitOn " ").mapM fun x:String=>if x=="!" then `(by assumption) else if x=="_" then `(_) else if x.startsWith "?" then `(?_) else if x.startsWith "&" then `(by walk_at $(Syntax.mkStrLit (x.drop 1).toString)) else pure (mkIdent x.toName)
   let ts ← ((a.splitOn " ").filter (·.startsWith "?")).mapM fun x:String=>`(tactic| walk_at $(Syntax.mkStrLit (x.drop 1).toString))
   `(tacticSeq| refine $(Syntax.mkApp as.head! as.tail.toArray); $ts.toArray;*)
  `(tactic| first $[| $(l.toArray):tacticSeq]*)
def XQ:Lean.Syntax:=Lean.Unhygienic.run `(tacticSeq|kernel_rfl)
def XX:Lean.Syntax:=Lean.Unhygienic.run `(tacticSeq|with_unfolding_all rfl)
def XZ:Lean.Syntax:=Lean.Unhygienic.run `(tacticSeq|rfl)
def XJ:Lean.Syntax:=Lean.Unhygienic.run `(tacticSeq|exact .inl rfl)
def X1:Lean.Syntax:=Lean.Unhygienic.run `(tacticSeq|intro _;rfl)
def X2:Lean.Syntax:=Lean.Unhygienic.run `(tacticSeq|intro _ _;rfl)
noncomputable section
section
namespace LA
inductive T where
 |v (i:Nat)
 |c (k:Nat)
 |o (f:Nat) (x y:T)
noncomputable abbrev T.a (x y:T):T:=.o 0 x y
noncomputable abbrev T.s (x y:T):T:=.o 1 x y
noncomputable abbrev T.m (k:Nat) (x:T):T:=.o 2 (.c k) x
noncomputable abbrev T.r (x:T) (k:Nat):T:=.o 2 x (.c k)
noncomputable abbrev T.d (x:T) (k:Nat):T:=.o 3 x (.c k)
noncomputable abbrev T.e (x:T) (k:Nat):T:=.o 4 x (.c k)
noncomputable abbrev T.n (x y:T):T:=.o 5 x y
noncomputable abbrev T.x (x y:T):T:=.o 6 x y
noncomputable abbrev T.g (x:T):T:=.o 7 x x
noncomputable abbrev T.k (x:T):T:=.o 8 x x
noncomputable abbrev T.t (x:T):T:=.o 9 x x
inductive P where
 |r (f:Nat) (x y:T)
 |a (p q:P)
 |o (p q:P)
 |n (p:P)
 |i (p q:P)
noncomputable abbrev P.l (x y:T):P:=.r 0 x y
noncomputable abbrev P.b (x y:T):P:=.r 1 x y
noncomputable abbrev P.e (x y:T):P:=.r 2 x y
noncomputable abbrev P.L (x y:T):P:=.r 3 x y
noncomputable abbrev P.B (x y:T):P:=.r 4 x y
noncomputable abbrev P.E (x y:T):P:=.r 5 x y
noncomputable abbrev gt {α:Type} [Inhabited α]:List α->Nat->α
 |[],_=>ku
 |x::_,0=>x
 |_::l,i+1=>gt l i
noncomputable abbrev W (f:Nat) (x y:Nat×Int):Nat×Int:=match f with
 |0=>(x.1+y.1,x.2+y.2)
 |1=>(x.1 - y.1,x.2 - y.2)
 |2=>(x.1*y.1,x.2*y.2)
 |3=>(x.1/y.1,x.2/y.2)
 |4=>(x.1 % y.1,x.2 % y.2)
 |5=>(min x.1 y.1,min x.2 y.2)
 |6=>(max x.1 y.1,max x.2 y.2)
 |7=>(0,-x.2)
 |8=>(0,(x.1:Int))
 |_=>(x.2.toNat,0)
noncomputable abbrev D (ρ:List Nat) (σ:List Int):T->Nat×Int
 |.v i=>(gt ρ i,gt σ i)
 |.c k=>(k,gU k)
 |.o f x y=>W f (D ρ σ x) (D ρ σ y)
abbrev dp (ρ:List Nat) (σ:List Int):P->Prop
 |.r f x y=>match f with
  |0=>(D ρ σ x).1<=(D ρ σ y).1
  |1=>(D ρ σ x).1<(D ρ σ y).1
  |2=>(D ρ σ x).1=(D ρ σ y).1
  |3=>(D ρ σ x).2<=(D ρ σ y).2
  |4=>(D ρ σ x).2<(D ρ σ y).2
  |_=>(D ρ σ x).2=(D ρ σ y).2
 |.a p q=>dp ρ σ p/\dp ρ σ q
 |.o p q=>dp ρ σ p\/dp ρ σ q
 |.n p=> ¬dp ρ σ p
 |.i p q=>dp ρ σ p->dp ρ σ q
noncomputable def same:T->T->Bool
 |.v i,.v j=>bN i j
 |.c i,.c j=>bN i j
 |.o f x y,.o g u w=>bN f g&&(same x u&&same y w)
 |_,_=>false
theorem same_eq: ∀{x y:T},same x y=ai->x=y
 |.v _,.v _,h=>congrArg T.v (bO h)
 |.c _,.c _,h=>congrArg T.c (bO h)
 |.o f x y,.o g u w,h=>by
  have h:=aP.mp h
  have q:=aP.mp h.2
  rw [bO h.1,same_eq q.1,same_eq q.2]
abbrev K:=Bool×T
def sk (k j:K):Bool:=cond k.1 (cond j.1 (same k.2 j.2) false) (cond j.1 false (same k.2 j.2))
theorem sk_eq: ∀{k j:K},sk k j=ai->k=j
 |(ai,_),(ai,_),h=>congrArg _ (same_eq h)
 |(false,_),(false,_),h=>congrArg _ (same_eq h)
abbrev M:=List (Nat×Nat×K)
noncomputable abbrev L:=Nat×Nat×M
section
variable (ρ:List Nat) (σ:List Int)
def kv (k:K):Int:=cond k.1 (D ρ σ k.2).2 ((D ρ σ k.2).1:Int)
noncomputable def dot:M->Int
 |[]=>0
 |q::p=>((q.1:Int) - (q.2.1:Int))*kv ρ σ q.2.2+dot p
def ev (l:L):Int:=(l.1:Int) - (l.2.1:Int)+dot ρ σ l.2.2
end
noncomputable def put (a b:Nat) (k:K) (p:M):M:=cond (bN a b) p ((iC a b,iC b a,k)::p)
noncomputable def ins (a b:Nat) (k:K):M->M
 |[]=>put a b k []
 |q::p=>cond (sk k q.2.2) (put (fR a q.1) (fR b q.2.1) k p) (q::ins a b k p)
noncomputable def addM:M->M->M
 |[],q=>q
 |e::p,q=>ins e.1 e.2.1 e.2.2 (addM p q)
noncomputable def mulM (k:Nat):M->M
 |[]=>[]
 |e::p=>(de k e.1,de k e.2.1,e.2.2)::mulM k p
noncomputable def negM:M->M
 |[]=>[]
 |e::p=>(e.2.1,e.1,e.2.2)::negM p
def add (p q:L):L:=(fR p.1 q.1,fR p.2.1 q.2.1,addM p.2.2 q.2.2)
def mul (k:Nat) (p:L):L:=(de k p.1,de k p.2.1,mulM k p.2.2)
def neg (p:L):L:=(p.2.1,p.1,negM p.2.2)
noncomputable def at_ (k:K):L:=(0,0,[(1,0,k)])
variable {ρ:List Nat} {σ:List Int}
theorem nrm (a b:Nat):((a - b:Nat):Int) - ((b - a:Nat):Int)=(a:Int) - (b:Int):=by omega
theorem dot_put (a b:Nat) (k:K) (p:M):dot ρ σ (put a b k p)=((a:Int) - (b:Int))*kv ρ σ k+dot ρ σ p:=by
 unfold put
 cases q:bN a b with
 |true=>rw [bO q,Int.sub_self,Int.zero_mul,gi];rfl
 |false=>rw [<-nrm];rfl
theorem dot_ins (a b:Nat) (k:K): ∀p:M,dot ρ σ (ins a b k p)=((a:Int) - (b:Int))*kv ρ σ k+dot ρ σ p
 |[]=>dot_put ..
 |q::p=>by
  unfold ins
  cases e:sk k q.2.2 with
  |false=>show _+_=_;rw [dot_ins a b k p,dot,Int.add_left_comm]
  |true=>
   rw [cond_true,dot_put,dot,<-sk_eq e,<-Int.add_assoc,<-Int.add_mul,jV,jV,jO,jO,show ∀a b c d:Int,a+c - (b+d)=a - b+(c - d) by omega]
theorem dot_add: ∀p q:M,dot ρ σ (addM p q)=dot ρ σ p+dot ρ σ q
 |[],q=>(gi _).symm
 |e::p,q=>by rw [addM,dot_ins,dot_add p q,dot,Int.add_assoc]
theorem mulz (k a b:Nat):((de k a:Nat):Int) - ((de k b:Nat):Int)=(k:Int)*((a:Int) - (b:Int)):=by
 rw [Int.mul_sub];rfl
theorem dot_mul (k:Nat): ∀p:M,dot ρ σ (mulM k p)=(k:Int)*dot ρ σ p
 |[]=>(gj (k:Int)).symm
 |e::p=>by rw [mulM,dot,dot_mul k p,dot,ff,<-fS,mulz]
theorem dot_neg: ∀p:M,dot ρ σ (negM p)= -dot ρ σ p
 |[]=>rfl
 |e::p=>by rw [negM,dot,dot_neg p,dot,Int.neg_add,<-Int.neg_mul,Int.neg_sub]
theorem ev_add (p q:L):ev ρ σ (add p q)=ev ρ σ p+ev ρ σ q:=by
 show ((p.1+q.1:Nat):Int) - ((p.2.1+q.2.1:Nat):Int)+dot ρ σ (addM _ _)=((_:Int) - _+_)+(_ - _+_)
 rw [dot_add];omega
theorem ev_mul (k:Nat) (p:L):ev ρ σ (mul k p)=(k:Int)*ev ρ σ p:=by
 show _ - _+dot ρ σ (mulM _ _)=(k:Int)*(_+_)
 rw [dot_mul,ff,<-mulz];rfl
theorem ev_neg (p:L):ev ρ σ (neg p)= -ev ρ σ p:=by
 show (p.2.1:Int) - (p.1:Int)+dot ρ σ (negM _)= -((p.1:Int) - (p.2.1:Int)+_)
 rw [dot_neg];omega
theorem ev_at (k:K):ev ρ σ (at_ k)=kv ρ σ k:=by
 show (0:Int)+((1:Int)*kv ρ σ k+0)=_
 omega
def lo (b:Bool) (f:Nat) (x y:T) (p q r:L):L:=match f with
 |0=>add p q
 |1=>cond b (add p (neg q)) (at_ (b,.o 1 x y))
 |2=>match x,y with
  |.c k,_=>mul k q
  |_,.c k=>mul k p
  |_,_=>at_ (b,.o 2 x y)
 |4=>match y with
  |.c k=>add p (neg (mul k (at_ (b,.o 3 x y))))
  |_=>at_ (b,.o 4 x y)
 |7=>cond b (neg p) (at_ (b,.o 7 x y))
 |8=>cond b r (at_ (b,.o 8 x y))
 |f=>at_ (b,.o f x y)
set_option tactic.hygienic true in
theorem lo_ev {b:Bool} {f:Nat} {x y:T} {p q r:L} (hp:ev ρ σ p=kv ρ σ (b,x)) (hq:ev ρ σ q=kv ρ σ (b,y)) (hr:ev ρ σ r=kv ρ σ (false,x)):ev ρ σ (lo b f x y p q r)=kv ρ σ (b,.o f x y):=by
 unfold lo
 split
 ·rw [ev_add,hp,hq];cases b<;>rfl
 ·cases b with
  |false=>exact ev_at _
  |true=>rw [cond_true,ev_add,ev_neg,hp,hq];rfl
 ·split
  ·rw [ev_mul,hq];cases b<;>rfl
  ·rw [ev_mul,hp,Int.mul_comm];cases b<;>rfl
  ·exact ev_at _
 ·split
  ·next k=>
   rw [ev_add,ev_neg,ev_mul,hp,ev_at]
   have:=Int.emod_def (kv ρ σ (b,x)) (gU k)
   cases b<;>exact this.symm
  ·exact ev_at _
 ·cases b with
  |false=>exact ev_at _
  |true=>rw [cond_true,ev_neg,hp];rfl
 ·cases b with
  |false=>exact ev_at _
  |true=>exact hr
 ·exact ev_at _
noncomputable def lin:T->Bool->L
 |.c k,_=>(k,0,[])
 |.v i,b=>at_ (b,.v i)
 |.o f x y,b=>lo b f x y (lin x b) (lin y b) (lin x false)
theorem lin_ev: ∀(t:T) (b:Bool),ev ρ σ (lin t b)=kv ρ σ (b,t)
 |.c k,b=>by cases b<;>exact (Int.add_zero _).trans (Int.sub_zero _)
 |.v i,b=>ev_at _
 |.o f x y,b=>lo_ev (lin_ev x b) (lin_ev y b) (lin_ev x false)
abbrev R:=Bool×L
def Ok (ρ:List Nat) (σ:List Int) (r:R):Prop:=cond r.1 (ev ρ σ r.2=0) (0<=ev ρ σ r.2)
def Oks (ρ:List Nat) (σ:List Int) (rs:List R):Prop:= ∀r∈rs,Ok ρ σ r
abbrev Dn:=List (List R)
def Has (ρ:List Nat) (σ:List Int) (A:Dn):Prop:= ∃b∈A,Oks ρ σ b
def le (b:Bool) (x y:T) (k:Nat):R:=(false,add (lin y b) (add (neg (lin x b)) (0,k,[])))
def eq (b:Bool) (x y:T):R:=(ai,add (lin y b) (neg (lin x b)))
theorem le_ok {b:Bool} {x y:T} {k:Nat} (h:kv ρ σ (b,x)+k<=kv ρ σ (b,y)):Ok ρ σ (le b x y k):=by
 show 0<=ev ρ σ (add _ (add _ _))
 rw [ev_add,ev_add,ev_neg,lin_ev,lin_ev]
 show 0<=_+(_+(0 - (k:Int)+0))
 omega
theorem eq_ok {b:Bool} {x y:T} (h:kv ρ σ (b,x)=kv ρ σ (b,y)):Ok ρ σ (eq b x y):=by
 show ev ρ σ (add _ _)=_
 rw [ev_add,ev_neg,lin_ev,lin_ev,h]
 omega
theorem nil_ok:Oks ρ σ []:=λz h=>nomatch h
theorem cons_ok {r:R} {rs:List R} (h:Ok ρ σ r) (q:Oks ρ σ rs):Oks ρ σ (r::rs):=λc hc=>(ao.mp hc).elim (λe=>e▸h) (q c)
theorem app_ok {a b:List R} (h:Oks ρ σ a) (q:Oks ρ σ b):Oks ρ σ (a++b):=λc hc=>(ar.mp hc).elim (h c) (q c)
theorem has1 {a:List R} (h:Oks ρ σ a):Has ρ σ [a]:=⟨a,dw,h⟩
theorem has2 {p q:Prop} {a b:List R} (h:p\/q) (ha:p->Oks ρ σ a) (hb:q->Oks ρ σ b):Has ρ σ [a,b]:=h.elim (λh=>⟨a,dw,ha h⟩) λh=>⟨b,fU _ dw,hb h⟩
theorem nat1 {a b:Nat} (h:a<b):(a:Int)+1<=b:=by omega
theorem int0 {a b:Int} (h:a<=b):a+0<=b:=by omega
theorem nat0 {a b:Nat} (h:a<=b):(a:Int)+0<=b:=int0 (Int.ofNat_le.mpr h)
theorem sub1 {a b:Nat} (h:b<=a):((a - b+b:Nat):Int)=a:=by omega
theorem sub0 {a b:Nat} (h:a<b):((a - b:Nat):Int)=(0:Nat):=by omega
def fact (b:Bool) (f:Nat) (x y:T):Dn:=match f with
 |1=>cond b [[]] [[le false y x 0,eq false (.a (.s x y) y) x],[le false x y 1,eq false (.s x y) (.c 0)]]
 |3=>match y with
  |.c (k+1)=>[[le b (.m (k+1) (.d x (k+1))) x 0,le b x (.a (.m (k+1) (.d x (k+1))) (.c (k+1))) 1]]
  |_=>[[]]
 |5=>[[le b x y 0,eq b (.n x y) x],[le b y x 1,eq b (.n x y) y]]
 |6=>[[le b x y 0,eq b (.x x y) y],[le b y x 1,eq b (.x x y) x]]
 |9=>cond b [[]] [[le ai (.c 0) x 0,eq ai (.k (.o 9 x y)) x],[le ai x (.c 0) 1,eq false (.o 9 x y) (.c 0)]]
 |_=>[[]]
theorem ok2 {a b:R} (h:Ok ρ σ a) (q:Ok ρ σ b):Oks ρ σ [a,b]:=cons_ok h (cons_ok q nil_ok)
set_option tactic.hygienic true in
theorem fact_ok (b:Bool) (f:Nat) (x y:T):Has ρ σ (fact b f x y):=by
 have lg:=(Int.lt_or_le (kv ρ σ (b,y)) (kv ρ σ (b,x))).symm
 unfold fact
 split
 ·cases b with
  |true=>exact has1 nil_ok
  |false=>exact has2 (dI (D ρ σ x).1 (D ρ σ y).1).symm (λh=>ok2 (le_ok (nat0 h)) (eq_ok (sub1 h))) λh=>ok2 (le_ok (nat1 h)) (eq_ok (sub0 h))
 ·split
  ·next k=>
   have e:kv ρ σ (b,.m (k+1) (.d x (k+1)))=((k+1:Nat):Int)*(kv ρ σ (b,x)/((k+1:Nat):Int)):=by cases b<;>rfl
   have e2:kv ρ σ (b,.a (.m (k+1) (.d x (k+1))) (.c (k+1)))=kv ρ σ (b,.m (k+1) (.d x (k+1)))+((k+1:Nat):Int):=by cases b<;>rfl
   exact has1 (ok2 (le_ok (by rw [e];exact int0 (Int.mul_ediv_self_le (by omega)))) (le_ok (by rw [e2,e];exact Int.lt_mul_ediv_self_add (by omega))))
  ·exact has1 nil_ok
 ·have e:kv ρ σ (b,.n x y)=min (kv ρ σ (b,x)) (kv ρ σ (b,y)):=by
   cases b with
   |true=>rfl
   |false=>exact Lean.Omega.Int.ofNat_min _ _
  exact has2 lg (λh=>ok2 (le_ok (int0 h)) (eq_ok (e.trans (Int.min_eq_left h)))) λh=>ok2 (le_ok h) (eq_ok (e.trans (Int.min_eq_right (kP h))))
 ·have e:kv ρ σ (b,.x x y)=max (kv ρ σ (b,x)) (kv ρ σ (b,y)):=by
   cases b with
   |true=>rfl
   |false=>exact Lean.Omega.Int.ofNat_max _ _
  exact has2 lg (λh=>ok2 (le_ok (int0 h)) (eq_ok (e.trans (Int.max_eq_right h)))) λh=>ok2 (le_ok h) (eq_ok (e.trans (Int.max_eq_left (kP h))))
 ·cases b with
  |true=>exact has1 nil_ok
  |false=>exact has2 (Int.lt_or_le (D ρ σ x).2 0).symm (λh=>ok2 (le_ok (int0 h)) (eq_ok (eR h))) λh=>ok2 (le_ok h) (eq_ok (congrArg gU (Int.toNat_of_nonpos (kP h))))
 ·exact has1 nil_ok
def fk (k:K):Dn:=match k.2 with
 |.o f x y=>fact k.1 f x y
 |_=>[[]]
theorem fk_ok (k:K):Has ρ σ (fk k):=by
 unfold fk
 split
 ·exact fact_ok ..
 ·exact has1 nil_ok
def ps (k:K) (rs:List L):List L:=cond k.1 rs (at_ k::rs)
theorem ps_ok {rs:List L} (h: ∀r∈rs,0<=ev ρ σ r): ∀(k:K),∀r∈ps k rs,0<=ev ρ σ r
 |(ai,_)=>h
 |(false,_)=>λr hr=>(ao.mp hr).elim (λe=>by rw [e,ev_at];exact fe _) (h r)
noncomputable def conj (A B:Dn):Dn:=A.flatMap λa=>B.map (a++ ·)
theorem conj_ok {A B:Dn} (h:Has ρ σ A) (q:Has ρ σ B):Has ρ σ (conj A B):=
 let ⟨a,ha,h⟩:=h;let ⟨b,hb,q⟩:=q;⟨a++b,cT.mpr ⟨a,ha,aK.mpr ⟨b,hb,rfl⟩⟩,app_ok h q⟩
theorem or_l {A B:Dn} (h:Has ρ σ A):Has ρ σ (A++B):=let ⟨a,ha,h⟩:=h;⟨a,ax _ ha,h⟩
theorem or_r {A B:Dn} (h:Has ρ σ B):Has ρ σ (A++B):=let ⟨a,ha,h⟩:=h;⟨a,aM _ ha,h⟩
def nr (s:Bool) (f:Nat) (x y:T):Dn:=match f with
 |0=>cond s [[le false x y 0]] [[le false y x 1]]
 |1=>cond s [[le false x y 1]] [[le false y x 0]]
 |2=>cond s [[eq false x y]] [[le false x y 1],[le false y x 1]]
 |3=>cond s [[le ai x y 0]] [[le ai y x 1]]
 |4=>cond s [[le ai x y 1]] [[le ai y x 0]]
 |_=>cond s [[eq ai x y]] [[le ai x y 1],[le ai y x 1]]
noncomputable def nf:P->Bool->Dn
 |.r f x y,s=>nr s f x y
 |.a p q,s=>cond s (conj (nf p s) (nf q s)) (nf p s++nf q s)
 |.o p q,s=>cond s (nf p s++nf q s) (conj (nf p s) (nf q s))
 |.n p,s=>nf p (!s)
 |.i p q,s=>cond s (nf p (!s)++nf q s) (conj (nf p (!s)) (nf q s))
theorem on {r:R} (h:Ok ρ σ r):Oks ρ σ [r]:=cons_ok h nil_ok
theorem nf_ok: ∀p:P,(dp ρ σ p->Has ρ σ (nf p ai))/\(¬dp ρ σ p->Has ρ σ (nf p false))
 |.r f x y=>by
  simp only [nf]
  unfold nr dp
  split
  ·exact ⟨λh=>has1 (on (le_ok (nat0 h))),λh=>has1 (on (le_ok (nat1 (jC h))))⟩
  ·exact ⟨λh=>has1 (on (le_ok (nat1 h))),λh=>has1 (on (le_ok (nat0 (Nat.le_of_not_lt h))))⟩
  ·exact ⟨λh=>has1 (on (eq_ok (congrArg gU h))),λh=>has2 (Nat.lt_or_gt_of_ne h) (λh=>on (le_ok (nat1 h))) λh=>on (le_ok (nat1 h))⟩
  ·exact ⟨λh=>has1 (on (le_ok (int0 h))),λh=>has1 (on (le_ok (Int.lt_of_not_ge h)))⟩
  ·exact ⟨λh=>has1 (on (le_ok h)),λh=>has1 (on (le_ok (int0 (Int.le_of_not_gt h))))⟩
  ·exact ⟨λh=>has1 (on (eq_ok h)),λh=>has2 (Int.lt_or_gt_of_ne h) (λh=>on (le_ok h)) λh=>on (le_ok h)⟩
 |.a p q=>⟨λh=>conj_ok ((nf_ok p).1 h.1) ((nf_ok q).1 h.2),λh=>(gz (dp ρ σ p)).elim (λu=>or_r ((nf_ok q).2 λw=>h ⟨u,w⟩)) λu=>or_l ((nf_ok p).2 u)⟩
 |.o p q=>⟨λh=>h.elim (λu=>or_l ((nf_ok p).1 u)) λu=>or_r ((nf_ok q).1 u),λh=>conj_ok ((nf_ok p).2 λu=>h (.inl u)) ((nf_ok q).2 λu=>h (.inr u))⟩
 |.n p=>⟨λh=>(nf_ok p).2 h,λh=>(nf_ok p).1 (Classical.not_not.mp h)⟩
 |.i p q=>⟨λh=>(gz (dp ρ σ p)).elim (λu=>or_r ((nf_ok q).1 (h u))) λu=>or_l ((nf_ok p).2 u),λh=>conj_ok ((nf_ok p).1 (fZ λu=>h λw=>absurd w u)) ((nf_ok q).2 λw=>h λz=>w)⟩
noncomputable def gcds:M->Nat
 |[]=>0
 |a::l=>Nat.gcd (fR a.1 a.2.1) (gcds l)
noncomputable def nrmd:M->Bool
 |[]=>ai
 |a::l=>cond (bN (de a.1 a.2.1) 0) (nrmd l) false
noncomputable def quo (g:Nat):M->M
 |[]=>[]
 |a::l=>(fQ a.1 g,fQ a.2.1 g,a.2.2)::quo g l
theorem dot_quo {g:Nat}: ∀{p:M},g∣gcds p->nrmd p=ai->(g:Int)*dot ρ σ (quo g p)=dot ρ σ p
 |[],_,_=>gj _
 |a::l,h,q=>by
  unfold nrmd at q
  cases e:bN (de a.1 a.2.1) 0 with
  |false=>rw [e] at q;cases q
  |true=>
   rw [e] at q
   have h1:=Nat.dvd_trans h (Nat.gcd_dvd_left ..)
   have h2:g∣a.1/\g∣a.2.1:=by
    rcases Nat.mul_eq_zero.mp (bO e) with z|z
    ·rw [jV,z,Nat.zero_add] at h1;exact ⟨z▸Nat.dvd_zero g,h1⟩
    ·rw [jV,z,Nat.add_zero] at h1;exact ⟨h1,z▸Nat.dvd_zero g⟩
   rw [quo,dot,dot,ff,dot_quo (Nat.dvd_trans h (Nat.gcd_dvd_right ..)) q,<-fS,<-mulz,show de g (fQ a.1 g)=a.1 from lR h2.1,show de g (fQ a.2.1 g)=a.2.1 from lR h2.2]
def tight (p:L):L:=cond (dz (gcds p.2.2) 1) p (cond (nrmd p.2.2) (fQ (iC p.1 p.2.1) (gcds p.2.2),fQ (fR (iC p.2.1 p.1) (iC (gcds p.2.2) 1)) (gcds p.2.2),quo (gcds p.2.2) p.2.2) p)
theorem tight_ok {p:L} (h:0<=ev ρ σ p):0<=ev ρ σ (tight p):=by
 unfold tight
 cases e:dz (gcds p.2.2) 1 with
 |true=>exact h
 |false=>
  cases e2:nrmd p.2.2 with
  |false=>exact h
  |true=>
   have hg:1<gcds p.2.2:=jC λq=>by rw [fI q] at e;cases e
   have hq:=dot_quo (ρ:=ρ) (σ:=σ) (Nat.dvd_refl (gcds p.2.2)) e2
   generalize gcds p.2.2=g at*
   show 0<=(((p.1 - p.2.1)/g:Nat):Int) - (((p.2.1 - p.1+(g - 1))/g:Nat):Int)+dot ρ σ (quo g p.2.2)
   rw [ev,<-hq,<-nrm] at h
   generalize dot ρ σ (quo g p.2.2)=d at*
   have hz:p.1 - p.2.1=0\/p.2.1 - p.1=0:=by omega
   generalize p.1 - p.2.1=a at*
   generalize p.2.1 - p.1=b at*
   have h1:=lS a (show 0<g by omega)
   have h2:=Nat.mul_div_le (b+(g - 1)) g
   refine fZ λq=> ?_
   have h5:=Int.mul_le_mul_of_nonneg_left (show ((a/g:Nat):Int) - (((b+(g - 1))/g:Nat):Int)+d<= -1 by omega) (show (0:Int)<=(g:Int) by omega)
   rw [ff,Int.mul_sub,<-g8,<-g8] at h5
   rw [jG] at h1
   rcases hz with z|z
   ·subst z
    rw [Nat.zero_div,kK] at h5
    have h3:=lS (b+(g - 1)) (show 0<g by omega)
    rw [jG] at h3
    omega
   ·subst z
    rw [Nat.div_eq_of_lt (show 0+(g - 1)<g by omega),kK] at h5
    omega
noncomputable def coef (k:K):M->Nat×Nat
 |[]=>(0,0)
 |q::p=>cond (sk k q.2.2) (q.1,q.2.1) (coef k p)
def Pos (ρ:List Nat) (σ:List Int) (rs:List L):Prop:= ∀r∈rs,0<=ev ρ σ r
def comb (k:K) (p q:L):L:=tight (add (mul (coef k q.2.2).2 p) (mul (coef k p.2.2).1 q))
noncomputable def triv (p:L):Bool:=match p.2.2 with
 |[]=>jk p.1 p.2.1
 |_=>ai
noncomputable def nz (n:Nat):Bool:=cond (bN n 0) false ai
noncomputable def elim (k:K) (rs:List L):List L:=rs.filter (λr=>bN (fR (coef k r.2.2).1 (coef k r.2.2).2) 0)++
 ((rs.filter λr=>nz (coef k r.2.2).1).flatMap λp=>(rs.filter λr=>nz (coef k r.2.2).2).map (comb k p)).filter triv
theorem elim_ok {k:K} {rs:List L} (h:Pos ρ σ rs):Pos ρ σ (elim k rs):=λr hr=>by
 rcases ar.mp hr with hr|hr
 ·exact h r (eW.mp hr).1
 ·obtain ⟨p,hp,hr⟩:=cT.mp (eW.mp hr).1
  obtain ⟨q,hq,e⟩:=aK.mp hr
  rw [<-e]
  refine tight_ok ?_
  rw [ev_add,ev_mul,ev_mul]
  exact Int.add_nonneg (Int.mul_nonneg (fe _) (h p (eW.mp hp).1)) (Int.mul_nonneg (fe _) (h q (eW.mp hq).1))
noncomputable def bad (p:L):Bool:=match p.2.2 with
 |[]=>jk p.1 p.2.1
 |_=>false
theorem bad_no {p:L} (h:bad p=ai) (q:0<=ev ρ σ p):False:=by
 unfold bad at h
 split at h
 ·next e=>rw [ev,e,dot] at q;have:=cR h;omega
 ·cases h
noncomputable def fst:List L->Option K
 |[]=>az
 |r::l=>match r.2.2 with
  |[]=>fst l
  |q::_=>aa q.2.2
noncomputable def fm:Nat->List L->Bool
 |0,_=>false
 |n+1,rs=>cond (rs.any bad) ai (match fst rs with
  |none=>false
  |some k=>fm n (elim k rs))
theorem fm_no: ∀{n:Nat} {rs:List L},fm n rs=ai->Pos ρ σ rs->False
 |n+1,rs,h,q=>by
  unfold fm at h
  cases e:rs.any bad with
  |true=>
   obtain ⟨r,hr,h⟩:=List.any_eq_true.mp e
   exact bad_no h (q r hr)
  |false=>
   rw [e,cond_false] at h
   split at h
   ·cases h
   ·exact fm_no h (elim_ok q)
def sb (e:L) (k:K) (r:L):L:=add (add (mul (coef k r.2.2).1 e) (mul (coef k r.2.2).2 (neg e))) r
theorem sb_ev {e:L} {k:K} {r:L} (h:ev ρ σ e=0):ev ρ σ (sb e k r)=ev ρ σ r:=by
 rw [sb,ev_add,ev_add,ev_mul,ev_mul,ev_neg,h,Int.neg_zero,gj,gj,gi,gi]
noncomputable def piv (e:L):M->Option (L×K)
 |[]=>az
 |q::p=>cond (bN q.1 1) (aa (neg e,q.2.2)) (cond (bN q.2.1 1) (aa (e,q.2.2)) (piv e p))
theorem piv_ok {e:L} (h:ev ρ σ e=0): ∀{p:M} {q:L×K},piv e p=aa q->ev ρ σ q.1=0
 |a::p,q,k=>by
  unfold piv at k
  cases e1:bN a.1 1 with
  |true=>rw [e1] at k;cases k;exact (ev_neg e).trans (by rw [h];rfl)
  |false=>
   rw [e1] at k
   cases e2:bN a.2.1 1 with
   |true=>rw [e2] at k;cases k;exact h
   |false=>rw [e2] at k;exact piv_ok h k
noncomputable def gs:Nat->List L->List L->Bool
 |0,_,_=>false
 |n+1,[],rs=>fm n (rs.map tight)
 |n+1,e::es,rs=>match piv e e.2.2 with
  |some q=>gs n (es.map (sb q.1 q.2)) (rs.map (sb q.1 q.2))
  |none=>gs n es (e::neg e::rs)
theorem gs_no: ∀{n:Nat} {es rs:List L},gs n es rs=ai->(∀e∈es,ev ρ σ e=0)->Pos ρ σ rs->False
 |n+1,[],rs,h,_,q=>fm_no h λr hr=>by
  obtain ⟨u,hu,rfl⟩:=aK.mp hr
  exact tight_ok (q u hu)
 |n+1,e::es,rs,h,k,q=>by
  have he:=k e dw
  unfold gs at h
  split at h
  ·next e1=>
   have he:=piv_ok he e1
   refine gs_no h (λr hr=> ?_) λr hr=> ?_
   ·obtain ⟨u,hu,rfl⟩:=aK.mp hr
    rw [sb_ev he,k u (fU _ hu)]
   ·obtain ⟨u,hu,rfl⟩:=aK.mp hr
    rw [sb_ev he];exact q u hu
  ·refine gs_no h (λr hr=>k r (fU _ hr)) λr hr=> ?_
   rcases ao.mp hr with rfl|hr
   ·exact Int.le_of_eq he.symm
   ·rcases ao.mp hr with rfl|hr
    ·rw [ev_neg,he];exact Int.le_refl _
    ·exact q r hr
noncomputable def newM (done:List K):M->Option K
 |[]=>az
 |q::p=>cond (done.any (sk q.2.2)) (newM done p) (aa q.2.2)
noncomputable def srch:Nat->List K->List R->List L->List L->Bool
 |0,_,_,_,_=>false
 |n+1,done,[],es,rs=>gs 50 es rs
 |n+1,done,r::td,es,rs=>match newM done r.2.2.2 with
  |some k=>(fk k).all λb=>srch n (k::done) (b++r::td) es (ps k rs)
  |none=>cond r.1 (srch n done td (r.2::es) rs) (srch n done td es (r.2::rs))
set_option tactic.hygienic true in
theorem srch_no: ∀{n:Nat} {done:List K} {td:List R} {es rs:List L},srch n done td es rs=ai->Oks ρ σ td->(∀e∈es,ev ρ σ e=0)->Pos ρ σ rs->False
 |n+1,done,[],es,rs,h,_,k,q=>gs_no h k q
 |n+1,done,r::td,es,rs,h,o,k,q=>by
  unfold srch at h
  split at h
  ·next j _=>
   obtain ⟨b,hb,r⟩:=fk_ok (ρ:=ρ) (σ:=σ) j
   exact srch_no (bq.mp h b hb) (app_ok r o) k (ps_ok q j)
  ·have o2:Oks ρ σ td:=λr hr=>o r (fU _ hr)
   have o1:=o r dw
   obtain ⟨b,r⟩:=r
   cases b with
   |true=>exact srch_no h o2 (λe he=>(ao.mp he).elim (λz=>z▸o1) (k e)) q
   |false=>exact srch_no h o2 k λe he=>(ao.mp he).elim (λz=>z▸o1) (q e)
def chk (p:P):Bool:=(nf p false).all λb=>srch 100 [] b [] []
theorem chk_ok {p:P} (h:chk p=ai):dp ρ σ p:=fZ λq=>
 let ⟨b,hb,r⟩:=(nf_ok p).2 q;srch_no (bq.mp h b hb) r (λz h=>nomatch h) λz h=>nomatch h
end LA
theorem nB {α:Type} {a:α} {C:Prop} (h:az=aa a):C:=nomatch h
theorem tC {α:Type} {a:α} {C:Prop} (h:aa a=az):C:=nomatch h
theorem o8 {C:Prop} (h:false=ai):C:=nomatch h
theorem rj {C:Prop} (h:ai=false):C:=nomatch h
noncomputable abbrev xA:LA.T:=.v 0
noncomputable abbrev xB:LA.T:=.v 1
noncomputable abbrev xC:LA.T:=.v 2
noncomputable abbrev xD:LA.T:=.v 3
noncomputable abbrev xE:LA.T:=.v 4
noncomputable abbrev xF:LA.T:=.v 5
noncomputable abbrev xG:LA.T:=.v 6
noncomputable abbrev xH:LA.T:=.v 7
noncomputable abbrev xI:LA.T:=.c 1
noncomputable abbrev xJ:LA.T:=.c 0
noncomputable abbrev xK:LA.T:=.c 4
noncomputable abbrev xL:LA.T:=.c 16777216
noncomputable abbrev xM:LA.T:=.c 2
noncomputable abbrev xN:LA.T:=.c 5
noncomputable abbrev xO:LA.T:=.c 3
noncomputable abbrev xP:LA.T:=.c 100
noncomputable abbrev xQ:LA.T:=.c 1000
noncomputable abbrev xR:LA.T:=.c 128
noncomputable abbrev xS:LA.T:=.c 9223372036854775808
noncomputable abbrev NK:LA.T:=.c 4611686018427387904
theorem mu (p:LA.P) (ρ:List Nat) (σ:List Int:=[]) (h:autoParam (LA.chk p=ai) XQ):LA.dp ρ σ p:=LA.chk_ok h
end
section
open PySem.Float64
noncomputable def sX (c n a:Nat) (k:Nat->Nat->Nat):Nat:=cond (dz (iD 2 c) n) (k (jX n c) (fR a c)) (k n a)
def lg (n:Nat):Nat:=sX 1024 n 0 λn a=>sX 512 n a λn a=>sX 256 n a λn a=>sX 128 n a λn a=>sX 64 n a λn a=>sX 32 n a λn a=>sX 16 n a λn a=>sX 8 n a λn a=>sX 4 n a λn a=>sX 2 n a λn a=>sX 1 n a λz a=>a
def HY (c:Nat) (k:Nat->Nat->Nat):Prop:=(∀a,k 0 a=a)/\ ∀n a,0<n->n<2^c-> ∃j,k n a=a+j/\2^j<=n/\n<2^(j+1)
theorem tg (h:HY c k):HY (c+c) (λn a=>sX c n a k):=by
 have z:dz (iD 2 c) 0=false:=by
  cases e:dz (iD 2 c) 0 with
  |false=>rfl
  |true=>have:=cR e;have:0<2^c:=ci c;exact absurd (cR e) (by exact (mu (.i (.b xJ xA) (.n (.l xA xJ))) [_]) this)
 refine ⟨λa=> ?_,λn a h0 hn=> ?_⟩
 ·show cond _ _ _=_
  exact z▸(h.1 a)
 ·show ∃j,cond _ _ _=_/\_
  cases e:dz (iD 2 c) n with
  |true=>
   have hl:2^c<=n:=cR e
   have hs:jX n c=n/2^c:=Nat.shiftRight_eq_div_pow n c
   have h1:0<n/2^c:=Nat.div_pos hl (ci c)
   have h2:n/2^c<2^c:=by rw [eu (ci c),<-dj];exact hn
   obtain ⟨j,e1,e2,e3⟩:=h.2 _ (fR a c) h1 h2
   refine ⟨c+j,?_,?_,?_⟩
   ·show k (jX n c) (fR a c)=_
    rw [hs,e1];exact mu (.e (.a (.a xA xB) xC) (.a xA (.a xB xC))) [_,_,_]
   ·rw [dj,eK]
    exact (ie (ci c)).mp e2
   ·rw [show c+j+1=j+1+c by exact mu (.e (.a (.a xA xB) xI) (.a (.a xB xI) xA)) [_,_],dj]
    exact (eu (ci c)).mp e3
  |false=>
   have hl:n<2^c:=by
    have: ¬2^c<=n:=λq=>by rw [show dz (iD 2 c) n=ai from fI q] at e;exact rj e
    exact (mu (.i (.n (.l xB xA)) (.b xA xB)) [_,_]) this
   exact h.2 n a h0 hl
theorem NL:HY 2048 (λn a=>sX 1024 n a λn a=>sX 512 n a λn a=>sX 256 n a λn a=>sX 128 n a λn a=>sX 64 n a λn a=>sX 32 n a λn a=>sX 16 n a λn a=>sX 8 n a λn a=>sX 4 n a λn a=>sX 2 n a λn a=>sX 1 n a λz a=>a):=by
 have b:HY 1 (λz a=>a):=⟨λz=>rfl,λn a h0 h1=>⟨0,rfl,by exact (mu (.i (.b xJ xA) (.l xI xA)) [_]) h0,by omega⟩⟩
 exact tg (c:=1024) (tg (c:=512) (tg (c:=256) (tg (c:=128) (tg (c:=64) (tg (c:=32) (tg (c:=16) (tg (c:=8) (tg (c:=4) (tg (c:=2) (tg (c:=1) b))))))))))
theorem G7 (h0:0<n) (h:n<2^2048):2^lg n<=n/\n<2^(lg n+1):=by
 obtain ⟨j,e,a,b⟩:=NL.2 n 0 h0 h
 have:lg n=j:=by exact (show lg n=0+j from e)▸(mu (.e (.a xJ xA) xA) [_])
 exact this▸(⟨a,b⟩)
theorem GU:lg 0=0:=NL.1 0
theorem Rr (h:n<2^2048) (a:2^j<=n) (b:n<2^(j+1)):lg n=j:=by
 have h0:0<n:=bi (ci j) a
 obtain ⟨c,d⟩:=G7 h0 h
 have x: ∀{p q:Nat},2^p<2^(q+1)->p<=q:=λ{p q} z=>Nat.le_of_lt_succ ((kq (by decide)).mp z)
 have:=x (cX a d)
 have:=x (cX c b)
 exact (mu (.i (.l xB xA) (.i (.l xA xB) (.e xA xB))) [_,_]) (by assumption) this
def rn (n d:Nat):Nat:=
 let k:=iC (lg (fQ n d)) 52
 let D:=iR d k
 let q:=fQ n D
 let r:=de 2 (kG n D)
 iR (fR q (cond (dz r D) (cond (bN r D) (kG q 2) 0) 1)) k
theorem vE (n d:Nat):rn n d=halfEven n (d*2^(lg (n/d) - 52))*2^(lg (n/d) - 52):=by
 show iR _ _=_
 have e: ∀a b,iR a b=a*2^b:=λa b=>Nat.shiftLeft_eq a b
 rw [e,e]
 congr 1
 generalize d*2^(lg (n/d) - 52)=D
 unfold halfEven
 show n/D+cond (dz (2*(n % D)) D) (cond (bN (2*(n % D)) D) ((n/D) % 2) 0) 1=_
 simp only
 have hb:dz (2*(n % D)) D=decide (2*(n % D)<=D):=by
  rw [dE,l9,decide_eq_true_iff]
 have hq:bN (2*(n % D)) D=decide (2*(n % D)=D):=by
  rw [dE,mc,decide_eq_true_iff]
 rw [hb,hq]
 by_cases h:2*(n % D)<=D
 ·by_cases h2:2*(n % D)=D
  ·have:=Nat.mod_two_eq_zero_or_one (n/D)
   rcases this with h3|h3<;>simp [h,h2,h3]
  ·have: ¬D<2*(n % D):=by exact (mu (.i (.l (.m 2 xB) xA) (.n (.b xA (.m 2 xB)))) [_,_]) h
   simp [h,h2,this]
 ·have:D<2*(n % D):=by exact (mu (.i (.n (.l (.m 2 xB) xA)) (.b xA (.m 2 xB))) [_,_]) h
  simp [h,this]
theorem Bx (hb:0<b) (hd:0<d) (h:a*d=n*b):halfEven a b=halfEven n d:=by
 have hq:a/b=n/d:=by
  have h1:=fH a b hd
  have h2:=fH n d hb
  rw [<-h1,<-h2,h,eK d b]
 have hr:(a % b)*d=(n % d)*b:=by
  have h1:=Nat.div_add_mod a b
  have h2:=Nat.div_add_mod n d
  have h3:(b*(a/b)+a % b)*d=(d*(n/d)+n % d)*b:=by rw [h1,h2];exact h
  rw [iy,iy,hq] at h3
  have h4:b*(n/d)*d=d*(n/d)*b:=by ac_rfl
  exact (mu (.i (.e (.a xC xA) (.a xD xB)) (.i (.e xC xD) (.e xA xB))) [_,_,_,_]) h3 h4
 have Um:(2*(a % b)>b)=(2*(n % d)>d):=by
  apply propext
  have l:2*(a % b)>b↔2*(a % b)*d>b*d:=(iz hd).symm
  have r:2*(n % d)>d↔2*(n % d)*b>d*b:=(iz hb).symm
  rw [l,r,dJ,dJ,hr,eK b d]
 have heq:(2*(a % b)=b)=(2*(n % d)=d):=by
  apply propext
  have l:2*(a % b)=b↔2*(a % b)*d=b*d:=⟨λq=>by rw [q],λq=>j3 hd q⟩
  have r:2*(n % d)=d↔2*(n % d)*b=d*b:=⟨λq=>by rw [q],λq=>j3 hb q⟩
  rw [l,r,dJ,dJ,hr,eK b d]
 have UY:(2*(a % b)==b)=(2*(n % d)==d):=by
  rw [dE,beq_iff_eq,beq_iff_eq,heq]
 unfold halfEven
 simp only [Um,UY,hq]
noncomputable def U:Nat:=2^1074
theorem DO:0<U:=ci _
theorem TK {p:Int} (h: -1074<=p) (hk:(p+1074).toNat=k) (hz: -p>=0):1074=(-p).toNat+k:=by exact (mu (.i (.L (.g (.c 1074)) xA) (.i (.e (.t (.a xA (.c 1074))) xA) (.i (.L xJ (.g xA)) (.e (.c 1074) (.a (.t (.g xA)) xA))))) [_] [_]) h hk hz
theorem Q9 {p:Int} (hk:(p+1074).toNat=k) (hz: ¬ -p>=0):k=1074+(- -p).toNat:=by exact (mu (.i (.e (.t (.a xA (.c 1074))) xA) (.i (.n (.L xJ (.g xA))) (.e xA (.a (.c 1074) (.t (.g (.g xA))))))) [_] [_]) hk hz
theorem TA {p:Int} (hk:(p+1074).toNat=k) (h:p= -1074):k=0:=by exact (mu (.i (.e (.t (.a xA (.c 1074))) xA) (.i (.E xA (.g (.c 1074))) (.e xA xJ))) [_] [_]) hk h
theorem QD {a b:Nat} (h:min a b<a):min a b=b:=by exact (mu (.i (.b (.n xA xB) xA) (.e (.n xA xB) xB)) [_,_]) h
theorem TL {W a b c:Nat} (h1:a<b) (h2:b<c) (d1:W - a+(a - W)<=W - b+(b - W)) (d2:W - c+(c - W)<=W - b+(b - W)):False:=(kM W b).elim (λh=>(mu (.i (.l xA xB) (.i (.b xB xC) (.n (.l (.a (.s xA xC) (.s xC xA)) (.a (.s xA xB) (.s xB xA)))))) [_,_,_]) h h2 d2) λh=>(mu (.i (.l xB xA) (.i (.b xC xB) (.n (.l (.a (.s xA xC) (.s xC xA)) (.a (.s xA xB) (.s xB xA)))))) [_,_,_]) h h1 d1
theorem OP (h:x<y) (e1:x % 2=0) (e2:y % 2=0):x+1<y:=by exact (mu (.i (.b xA xB) (.i (.e (.e xA 2) xJ) (.i (.e (.e xB 2) xJ) (.b (.a xA xI) xB)))) [_,_]) h e1 e2
theorem N7 (hd:0<d) (Um:roundMag n d<infMag) (hs:n*U/d<2^2048):V (roundMag n d)=rn (n*U) d:=by
 by_cases hn:n=0
 ·subst hn
  have:roundMag 0 d=0:=by unfold roundMag;rfl
  rw [this,vE]
  simp [V,GU,halfEven]
 ·obtain ⟨p1,p2⟩:=place_spec hn hd
  have p3:=place_ge n d
  rw [roundMag_eq' hn] at Um ⊢
  generalize hA:(shift n d (-(place n d))).1=a at*
  generalize hB:(shift n d (-(place n d))).2=b at*
  have hb:0<b:=hB▸shift_pos n d _ hd
  generalize hK:(place n d+1074).toNat=k at*
  have WH:a*(d*2^k)=n*U*b:=by
   unfold shift at hA hB
   unfold U
   split at hA<;>rename_i hz
   ·rw [if_pos hz] at hB
    dsimp only at hA hB
    subst hA hB
    have:1074=(-place n d).toNat+k:=TK p3 hK hz
    rw [this,dj]
    ac_rfl
   ·rw [if_neg hz] at hB
    dsimp only at hA hB
    subst hA hB
    have:k=1074+(- -place n d).toNat:=Q9 hK hz
    rw [this,dj]
    ac_rfl
  generalize U=u at hs WH ⊢
  have hq1:halfEven a b<=2^53:=by
   have:=halfEven_le' a b hb
   have:a/b<2^53:=(eu hb).mpr p1
   omega
  have hq2:2^52<=halfEven a b\/k=0:=by
   rcases p2 with p2|p2
   ·exact .inr (TA hK p2)
   ·left
    have h1:2^52<=a/b:=(ie hb).mpr p2
    have:a/b<=halfEven a b:=by unfold halfEven;simp only;split<;>(first|exact mu (.l xA (.a xA xI)) [_]|exact mu (.l xA xA) [_])
    omega
  have hmin:min infMag (k*2^52+halfEven a b)=k*2^52+halfEven a b:=QD Um
  rw [hmin,V_at hq1 hq2,vE]
  have hD:0<d*2^k:=jF hd (ci k)
  have hk:lg (n*u/d) - 52=k:=by
   have up:n*u/d<2^(52+k+1):=by
    rw [eu hd]
    refine Nat.lt_of_mul_lt_mul_right (a:=b) ?_
    rw [<-WH]
    have h3:=(iz hD).mpr p1
    have h4:2^53*b*(d*2^k)=2^(52+k+1)*d*b:=by
     rw [show 52+k+1=53+k by exact mu (.e (.a (.a (.c 52) xA) xI) (.a (.c 53) xA)) [_],dj]
     generalize 2^53=z
     generalize 2^k=z'
     ac_rfl
    rw [h4] at h3
    exact h3
   by_cases h0:2^52*b<=a
   ·have lo:2^(52+k)<=n*u/d:=by
     rw [ie hd]
     refine Nat.le_of_mul_le_mul_right (c:=b) ?_ hb
     rw [<-WH]
     have h3:=lB (d*2^k) h0
     have h4:2^52*b*(d*2^k)=2^(52+k)*d*b:=by
      rw [dj]
      generalize 2^52=z
      generalize 2^k=z'
      ac_rfl
     rw [h4] at h3
     exact h3
    exact (Rr hs lo up)▸(mu (.e (.s (.a (.c 52) xA) (.c 52)) xA) [_])
   ·have hk0:k=0:=by rcases p2 with p2|p2<;>omega
    subst hk0
    by_cases hz:n*u/d=0
    ·rw [hz,GU]
    ·obtain ⟨l1,l2⟩:=G7 (Nat.pos_of_ne_zero hz) hs
     have:lg (n*u/d)<53:=by
      have:2^lg (n*u/d)<2^53:=cX l1 (by simpa using up)
      exact (kq (by decide)).mp this
     exact kW (Nat.le_of_lt_succ this)
  rw [hk,Bx hb hD WH]
theorem Fo {neg:Bool} (h:Right r neg W D) (hD:0<D) (hs:W/D<2^2048): ∃t,r=pack neg t/\t<infMag/\V t=rn W D:=by
 obtain ⟨t,e,Vm,hov,hr⟩:=h
 have UL: ¬D*((2^54 - 1)*2^2045)<=2*W:=by
  intro q
  have h1:W<D*2^2048:=by rw [eK];exact (eu hD).mp hs
  have h2:(2:Nat)^2048*2<=(2^54 - 1)*2^2045:=by decide+kernel
  have h3:=Nat.mul_le_mul_left D h2
  have h4:D*(2^2048*2)=2*(D*2^2048):=by generalize (2:Nat)^2048=z;rw [<-dJ,eK]
  rw [h4] at h3
  have h5:=cg h3 q
  omega
 have Um:t<infMag:=by
  rcases dI t infMag with q|q
  ·exact q
  ·exact absurd (hov.mp (by exact (mu (.i (.l xA xB) (.i (.l xB xA) (.e xA xB))) [_,_]) Vm q)) UL
 refine ⟨t,e,Um,?_⟩
 have hDU:0<D*U:=jF hD DO
 have hW:W*2^1074*D=W*(D*U):=by unfold U;rw [dJ,eK (2^1074) D]
 have hlt0:roundMag W (D*U)<infMag:=by
  rcases dI (roundMag W (D*U)) infMag with q|q
  ·exact q
  ·have hm:roundMag W (D*U)<=infMag:=by rw [roundMag_min];exact mu (.l (.n xA xB) xA) [_,_]
   exact absurd ((over_of hDU hW hD).mp (by exact (mu (.i (.l xB xA) (.i (.l xA xB) (.e xA xB))) [_,_]) q hm)) UL
 have WU:W*U/(D*U)=W/D:=fH W D DO
 have hV:=N7 hDU hlt0 (by exact WU▸hs)
 have hrn:rn (W*U) (D*U)=rn W D:=by
  rw [vE,vE,WU]
  congr 1
  refine Bx (jF hDU (ci _)) (jF hD (ci _)) ?_
  generalize 2^(lg (W/D) - 52)=z
  generalize U=u
  ac_rfl
 rw [hrn] at hV
 rw [<-hV]
 by_cases Uj:V t=V (roundMag W (D*U))
 ·exact Uj
 ·exfalso
  have r1:=hr Um
  have r2:=right_of hDU hW hD hlt0
  generalize roundMag W (D*U)=t0 at*
  have a1:=(r1 t0).1
  have a2:=(r2 t).1
  have ev1:=(r1 t0).2 (λq=>Uj q.symm) (by exact (mu (.i (.l xA xB) (.i (.l xB xA) (.e xA xB))) [_,_]) a1 a2)
  have ev2:=(r2 t).2 Uj (by exact (mu (.i (.l xB xA) (.i (.l xA xB) (.e xA xB))) [_,_]) a1 a2)
  have qq: ∀x y:Nat,x<y->x % 2=0->y % 2=0->dist W (D*V x)<=dist W (D*V (x+1))->dist W (D*V y)<=dist W (D*V (x+1))->dist W (D*V x)=dist W (D*V y)->False:=by
   intro x y hxy e1 e2 d1 d2 d3
   have v1:=(lQ hD).mpr (V_succ x)
   exact TL v1 ((lQ hD).mpr (V_lt (t:=x+1) (t':=y) (OP hxy e1 e2))) d1 d2
  rcases dI t t0 with q|q
  ·exact qq t t0 q ev1 ev2 (r1 _).1 (r2 _).1 (by exact (mu (.i (.l xA xB) (.i (.l xB xA) (.e xA xB))) [_,_]) a1 a2)
  ·have:t0≠t:=λz=>Uj (z▸rfl)
   exact qq t0 t (by exact (mu (.i (.l xA xB) (.i (.n (.e xA xB)) (.b xA xB))) [_,_]) q this) ev2 ev1 (r2 _).1 (r1 _).1 (by exact (mu (.i (.l xB xA) (.i (.l xA xB) (.e xA xB))) [_,_]) a1 a2)
structure Fx where
 s:Bool
 m:Nat
 deriving Inhabited
def Fn (x:UInt64):Prop:= ∃a k e,decode x= .fin a k e
def FR (f:Fx) (x:UInt64):Prop:=Fn x/\val x=sgn f.s f.m
noncomputable def BB:Nat:=2^1500
def wm (s:Bool) (W D:Nat):Option Fx:=cond (dz (fQ W D) BB) (aa ⟨s,rn W D⟩) az
theorem sW (h:Right r t W D) (hD:0<D) (e:wm s W D=aa f) (ht:t=s\/(W=0)):FR f r:=by
 unfold wm at e
 cases hb:dz (fQ W D) BB with
 |false=>rw [hb] at e;exact nB e
 |true=>
  rw [hb] at e
  obtain rfl:=am e
  have h1:W/D<=BB:=cR hb
  have h2:BB<2^2048:=by exact lz (by decide) (by decide)
  obtain ⟨t',rfl,lt,hv⟩:=Fo h hD (cX h1 h2)
  obtain ⟨m,k,hd,_⟩:=decode_pack t lt
  refine ⟨⟨_,_,_,hd⟩,?_⟩
  rw [val_pack t lt,hv]
  rcases ht with rfl|rfl
  ·rfl
  ·have:rn 0 D=0:=by rw [vE];simp [halfEven]
   rw [this];cases t<;>cases s<;>rfl
theorem A1 (b:Bool):Fn (zero b)/\val (zero b)=0:=by
 have h0:0<infMag:=by decide
 obtain ⟨m,k,hd,_⟩:=decode_pack b h0
 refine ⟨⟨_,_,_,hd⟩,?_⟩
 show val (pack b 0)=0
 rw [val_pack b h0]
 cases b<;>decide
theorem OZ (D:Nat):rn 0 D=0:=by rw [vE];simp [halfEven]
theorem Lk (e:wm s 0 D=aa f) (x:UInt64) (h:Fn x) (hv:val x=0):FR f x:=by
 unfold wm at e
 cases hb:dz (fQ 0 D) BB with
 |false=>rw [hb] at e;exact nB e
 |true=>
  rw [hb] at e
  obtain rfl:=am e
  refine ⟨h,?_⟩
  rw [hv,OZ]
  cases s<;>rfl
def Cs (f g:Fx):Option Fx:=match f,g with
 |⟨a,m⟩,⟨b,k⟩=>cond (cond a b (cond b false ai)) (wm a (fR m k) 1) (cond (dz k m) (wm a (iC m k) 1) (wm b (iC k m) 1))
noncomputable def L6 (f:Fx):Fx:=match f with|⟨a,m⟩=>⟨cond a false ai,m⟩
def Mp (f g:Fx):Option Fx:=Cs f (L6 g)
def KZ (f g:Fx):Option Fx:=match f,g with
 |⟨a,m⟩,⟨b,k⟩=>wm (cond a (cond b false ai) b) (de m k) U
def yU (f g:Fx):Option Fx:=match f,g with
 |⟨a,m⟩,⟨b,k⟩=>cond (bN k 0) az (wm (cond a (cond b false ai) b) (de m U) k)
def DV (f:Fx):Option Fx:=match f with
 |⟨a,m⟩=>match wm a (kG m U) 1 with
  |none=>az
  |some ⟨_,0⟩=>aa ⟨false,0⟩
  |some ⟨false,r⟩=>aa ⟨false,r⟩
  |some ⟨ai,r⟩=>Cs ⟨ai,r⟩ ⟨false,U⟩
noncomputable def vf (f g:Fx):Bool:=match f,g with
 |⟨false,m⟩,⟨false,k⟩=>jk m k
 |⟨ai,m⟩,⟨ai,k⟩=>jk k m
 |⟨ai,m⟩,⟨false,k⟩=> !(bN m 0&&bN k 0)
 |⟨false,_⟩,⟨ai,_⟩=>false
noncomputable def tm (f g:Fx):Bool:=match f,g with
 |⟨a,m⟩,⟨b,k⟩=>bN m k&&(cond a b (cond b false ai)||Nat.beq m 0)
def IR (f:Fx):Option Nat:=match f with
 |⟨false,m⟩=>aa (fQ m U)
 |⟨ai,_⟩=>az
def Ql (i:Int):Option Fx:=match i with
 |.ofNat n=>wm false (de n U) 1
 |.negSucc n=>wm ai (de (Nat.succ n) U) 1
theorem xk (hx:FR f x) (hy:FR g y) (e:Cs f g=aa r):FR r (add x y):=by
 obtain ⟨⟨a',m',e',U5⟩,WY⟩:=hx
 obtain ⟨⟨b',k',f',VQ⟩,hy2⟩:=hy
 obtain ⟨h0,h1⟩:=add_right U5 VQ
 obtain ⟨a,m⟩:=f
 obtain ⟨b,k⟩:=g
 dsimp only at WY hy2
 rw [WY,hy2] at h0 h1
 have Uz: ∀(s:Bool) (W:Nat),wm s W 1=aa r->sgn a m+sgn b k=sgn s W->FR r (add x y):=by
  intro s W e hz
  by_cases hW:W=0
  ·subst hW
   have z:sgn a m+sgn b k=0:=by rw [hz];cases s<;>rfl
   rw [h0 z]
   have:=A1 (a'&&b')
   exact Lk e _ this.1 this.2
  ·have nz:sgn a m+sgn b k≠0:=by rw [hz];unfold sgn;cases s<;>simp<;>omega
   have R:=h1 nz
   rw [hz] at R
   have e1:(sgn s W).natAbs=W:=sgn_natAbs s W
   have e2:decide (sgn s W<0)=s:=by unfold sgn;cases s<;>simp<;>omega
   rw [e1,e2] at R
   exact sW R (by decide) e (.inl rfl)
 unfold Cs at e
 dsimp only at e
 cases a<;>cases b<;>dsimp only [cond] at e
 ·exact Uz _ _ e (by unfold sgn;rfl)
 ·cases hb:dz k m with
  |true=>
   rw [hb] at e
   have:=cR hb
   exact Uz _ _ e (by simp;exact (mu (.i (.l xB xA) (.E (.a (.k xA) (.g (.k xB))) (.k (.s xA xB)))) [_,_]) this)
  |false=>
   rw [hb] at e
   have: ¬k<=m:=λq=>by rw [show dz k m=ai from fI q] at hb;exact rj hb
   exact Uz _ _ e (by simp;exact (mu (.i (.n (.l xB xA)) (.E (.a (.k xA) (.g (.k xB))) (.g (.k (.s xB xA))))) [_,_]) this)
 ·cases hb:dz k m with
  |true=>
   rw [hb] at e
   have:=cR hb
   exact Uz _ _ e (by simp;exact (mu (.i (.l xB xA) (.E (.a (.g (.k xA)) (.k xB)) (.g (.k (.s xA xB))))) [_,_]) this)
  |false=>
   rw [hb] at e
   have: ¬k<=m:=λq=>by rw [show dz k m=ai from fI q] at hb;exact rj hb
   exact Uz _ _ e (by simp;exact (mu (.i (.n (.l xB xA)) (.E (.a (.g (.k xA)) (.k xB)) (.k (.s xB xA)))) [_,_]) this)
 ·exact Uz _ _ e (by simp;exact mu (.E (.a (.g (.k xA)) (.g (.k xB))) (.g (.a (.k xA) (.k xB)))) [_,_])
theorem OD (hy:FR g y):FR (L6 g) (neg y):=by
 obtain ⟨⟨b',k',f',VQ⟩,hy2⟩:=hy
 refine ⟨⟨_,_,_,neg_decode VQ⟩,?_⟩
 rw [neg_val VQ,hy2]
 obtain ⟨b,k⟩:=g
 cases b<;>simp [sgn,L6]
theorem Cu (hx:FR f x) (hy:FR g y) (e:Mp f g=aa r):FR r (sub x y):=by with_unfolding_all exact xk hx (OD hy) e
theorem FR.sign (h:FR f x) (hx:decode x= .fin a m e):(val x).natAbs=f.m/\(a=f.s\/f.m=0):=by
 have e1:(val x).natAbs=f.m:=by rw [h.2,sgn_natAbs]
 refine ⟨e1,?_⟩
 by_cases hz:f.m=0
 ·exact .inr hz
 ·left
  have e2:=h.2
  rw [val_eq hx] at e2
  have:m*2^(e+1074).toNat=f.m:=by rw [<-val_natAbs hx,e1]
  rw [this] at e2
  revert e2
  cases a<;>cases f.s<;>simp<;>(first|exact (mu (.i (.n (.e xA xJ)) (.n (.E (.g (.k xA)) (.k xA)))) [_]) hz|exact (mu (.i (.n (.e xA xJ)) (.n (.E (.k xA) (.g (.k xA))))) [_]) hz)
theorem CD (hx:FR f x) (hy:FR g y) (e:KZ f g=aa r):FR r (mul x y):=by
 obtain ⟨a',m',e',U5⟩:=hx.1
 obtain ⟨b',k',f',VQ⟩:=hy.1
 have R:=mul_right U5 VQ
 obtain ⟨v1,s1⟩:=hx.sign U5
 obtain ⟨v2,s2⟩:=hy.sign VQ
 rw [v1,v2] at R
 obtain ⟨a,m⟩:=f
 obtain ⟨b,k⟩:=g
 dsimp only at*
 refine sW R DO e ?_
 rcases s1 with s1|s1
 ·rcases s2 with s2|s2
  ·left;subst s1 s2;cases a'<;>cases b'<;>rfl
  ·right;subst s2;rfl
 ·right;subst s1;exact mu (.e (.m 0 xA) xJ) [_]
theorem zW {α:Type} {a b:α}:cond false a b=b:=rfl
theorem E3 (h:bN k 0=false):k≠0:=λq=>by subst q;exact rj h
theorem zF (hx:FR f x) (hy:FR g y) (e:yU f g=aa r):FR r (div x y)/\isZero y=false:=by
 obtain ⟨a',m',e',U5⟩:=hx.1
 obtain ⟨b',k',f',VQ⟩:=hy.1
 obtain ⟨v1,s1⟩:=hx.sign U5
 obtain ⟨v2,s2⟩:=hy.sign VQ
 obtain ⟨a,m⟩:=f
 obtain ⟨b,k⟩:=g
 dsimp only at*
 unfold yU at e
 dsimp only at e
 cases hb:bN k 0 with
 |true=>rw [hb] at e;exact nB e
 |false=>
  rw [hb,zW] at e
  have hk:=E3 hb
  have XB:k'≠0:=λq=>by rw [val_natAbs VQ,q] at v2;simp at v2;exact (mu (.i (.n (.e xA xJ)) (.n (.e xJ xA))) [_]) hk v2
  have R:=div_right U5 VQ XB
  rw [v1,v2,show (2:Nat)^1074=U from rfl,<- @jU m U] at R
  refine ⟨sW R (by exact (mu (.i (.n (.e xA xJ)) (.b xJ xA)) [_]) hk) e ?_,?_⟩
  ·rcases s1 with s1|s1
   ·rcases s2 with s2|s2
    ·left;subst s1 s2;cases a'<;>cases b'<;>rfl
    ·exact absurd s2 hk
   ·right;subst s1;exact jU▸(Nat.zero_mul U)
  ·unfold isZero;rw [VQ]
   split
   ·rename_i h;cases h;exact absurd rfl XB
   ·rfl
theorem KH (hx:FR f x) (hy:FR g y):cmp x y=aa (compare (sgn f.s f.m) (sgn g.s g.m)):=by
 obtain ⟨a',m',e',U5⟩:=hx.1
 obtain ⟨b',k',f',VQ⟩:=hy.1
 rw [cmp_right U5 VQ,hx.2,hy.2]
theorem O9 (f g:Fx):vf f g=decide (sgn f.s f.m<sgn g.s g.m):=by
 obtain ⟨a,m⟩:=f
 obtain ⟨b,k⟩:=g
 have hblt: ∀p q:Nat,jk p q=decide (p<q):=λp q=>by rw [dE,Nat.blt_eq,decide_eq_true_iff]
 have UY: ∀p:Nat,bN p 0=decide (p=0):=λp=>by rw [dE,mc,decide_eq_true_iff]
 cases a<;>cases b
 ·show jk m k=decide ((m:Int)<(k:Int))
  rw [hblt];exact decide_eq_decide.mpr (by omega)
 ·show false=decide ((m:Int)< -(k:Int))
  exact (decide_eq_false (by exact mu (.n (.B (.k xA) (.g (.k xB)))) [_,_])).symm
 ·show (!(bN m 0&&bN k 0))=decide (-(m:Int)<(k:Int))
  rw [UY,UY]
  by_cases h1:m=0
  ·by_cases h2:k=0
   ·subst h1 h2;rfl
   ·rw [decide_eq_false h2,decide_eq_true (show -(m:Int)<(k:Int) by exact (mu (.i (.n (.e xB xJ)) (.B (.g (.k xA)) (.k xB))) [_,_]) h2),io];rfl
  ·rw [decide_eq_false h1,decide_eq_true (show -(m:Int)<(k:Int) by exact (mu (.i (.n (.e xA xJ)) (.B (.g (.k xA)) (.k xB))) [_,_]) h1),jP];rfl
 ·show jk k m=decide (-(m:Int)< -(k:Int))
  rw [hblt];exact decide_eq_decide.mpr (by omega)
theorem GE (f g:Fx):tm f g=decide (sgn f.s f.m=sgn g.s g.m):=by
 obtain ⟨a,m⟩:=f
 obtain ⟨b,k⟩:=g
 have UY: ∀p q:Nat,bN p q=decide (p=q):=λp q=>by rw [dE,mc,decide_eq_true_iff]
 have h2: ∀c:Bool,(decide (m=k)&&(c||decide (m=0)))=decide (m=k/\(c=ai\/m=0)):=λc=>by cases c<;>simp
 cases a<;>cases b
 ·show (bN m k&&(ai||Nat.beq m 0))=decide ((m:Int)=(k:Int))
  rw [UY,UY,h2];exact decide_eq_decide.mpr (by constructor<;>intro h<;>simp at* <;>(first|exact (mu (.i (.E (.k xA) (.k xB)) (.e xA xB)) [_,_]) h|exact (mu (.i (.e xA xB) (.E (.k xA) (.k xB))) [_,_]) h))
 ·show (bN m k&&(false||Nat.beq m 0))=decide ((m:Int)= -(k:Int))
  rw [UY,UY,h2];exact decide_eq_decide.mpr (by constructor<;>intro h<;>simp at* <;>(first|exact (mu (.i (.E (.k xA) (.g (.k xB))) (.a (.e xA xB) (.e xA xJ))) [_,_]) h|exact (mu (.i (.e xA xB) (.i (.e xA xJ) (.E (.k xA) (.g (.k xB))))) [_,_]) h.1 h.2))
 ·show (bN m k&&(false||Nat.beq m 0))=decide (-(m:Int)=(k:Int))
  rw [UY,UY,h2];exact decide_eq_decide.mpr (by constructor<;>intro h<;>simp at* <;>(first|exact (mu (.i (.E (.g (.k xA)) (.k xB)) (.a (.e xA xB) (.e xA xJ))) [_,_]) h|exact (mu (.i (.e xA xB) (.i (.e xA xJ) (.E (.g (.k xA)) (.k xB)))) [_,_]) h.1 h.2))
 ·show (bN m k&&(ai||Nat.beq m 0))=decide (-(m:Int)= -(k:Int))
  rw [UY,UY,h2];exact decide_eq_decide.mpr (by constructor<;>intro h<;>simp at* <;>(first|exact (mu (.i (.E (.k xA) (.k xB)) (.e xA xB)) [_,_]) h|exact (mu (.i (.e xA xB) (.E (.k xA) (.k xB))) [_,_]) h))
theorem DN (hx:FR f x) (hy:FR g y):(cmp x y==aa Ordering.lt)=vf f g:=by
 rw [KH hx hy,O9]
 rcases jp (sgn f.s f.m) (sgn g.s g.m) with h|h|h
 ·rw [jq.mpr h];simp [h]
 ·rw [h];simp
 ·rw [jr.mpr h]
  have: ¬sgn f.s f.m<sgn g.s g.m:=by exact (mu (.i (.B xB xA) (.n (.B xA xB))) [] [_,_]) h
  simp [this]
theorem IS (hx:FR f x) (hy:FR g y):(cmp x y==aa Ordering.eq)=tm f g:=by
 rw [KH hx hy,GE]
 rcases jp (sgn f.s f.m) (sgn g.s g.m) with h|h|h
 ·rw [jq.mpr h]
  have: ¬sgn f.s f.m=sgn g.s g.m:=by exact (mu (.i (.B xA xB) (.n (.E xA xB))) [] [_,_]) h
  simp [this]
 ·rw [h];simp
 ·rw [jr.mpr h]
  have: ¬sgn f.s f.m=sgn g.s g.m:=by exact (mu (.i (.B xB xA) (.n (.E xA xB))) [] [_,_]) h
  simp [this]
theorem Qd (e:Ql i=aa r):FR r (ofInt i):=by
 have R:=ofInt_right i
 cases i with
 |ofNat n=>exact sW (t:=decide ((gU n)<0)) (W:=n*U) R (by decide) e (.inl (decide_eq_false (Int.not_lt.mpr (fe n))))
 |negSucc n=>exact sW (t:=decide ((Int.negSucc n)<0)) (W:=(n+1)*U) R (by decide) e (.inl (decide_eq_true (Int.negSucc_lt_zero n)))
noncomputable abbrev r6:UInt64:=0x3FF0000000000000
theorem B5:decode r6= .fin false (2^52) (-52):=by with_unfolding_all rfl
theorem Dg:2^52*2^1022=U:=by unfold U;rw [<-dj]
theorem Qc:FR ⟨false,U⟩ r6:=by
 refine ⟨⟨_,_,_,B5⟩,?_⟩
 rw [val_eq B5,show ((-52:Int)+1074).toNat=1022 from rfl,Dg]
theorem G9:FR ⟨false,0⟩ (zero false):=⟨(A1 false).1,by rw [(A1 false).2];rfl⟩
theorem Km (h:FR f x):isZero x=bN f.m 0:=by
 obtain ⟨a,m,e,hx⟩:=h.1
 have v:=(h.sign hx).1
 rw [val_natAbs hx] at v
 unfold isZero
 rw [hx]
 have hp:0<2^(e+1074).toNat:=ci _
 generalize 2^(e+1074).toNat=z at*
 generalize f.m=k at*
 cases m with
 |zero=>
  have:k=0:=by rw [<-v,Nat.zero_mul]
  subst this;rfl
 |succ m=>
  have:k≠0:=by exact v▸(Nat.mul_ne_zero (by exact mu (.n (.e (.a xA xI) xJ)) [_]) (by exact (mu (.i (.b xJ xA) (.n (.e xA xJ))) [_]) hp))
  cases k with
  |zero=>exact absurd rfl this
  |succ k=>rfl
theorem LG (hx:decode x= .fin a m e):Right (fmod x r6) a (m*2^(e+1074).toNat % U) 1:=by
 have he:=decode_ge hx
 have hf:fmod x r6=ofBin a (m*2^(e - min e (-52)).toNat % (2^52*2^(-52 - min e (-52)).toNat)) (min e (-52)):=by
  unfold fmod
  rw [hx,B5]
  rfl
 rw [hf]
 generalize hg:min e (-52)=g
 have hg1: -1074<=g:=by exact (mu (.i (.L (.g (.c 1074)) xB) (.i (.E (.n xB (.g (.c 52))) xA) (.L (.g (.c 1074)) xA))) [] [_,_]) he hg
 have e1:m*2^(e+1074).toNat=m*2^(e - g).toNat*2^(g+1074).toNat:=by
  rw [dJ,<-dj];congr 2;exact (mu (.i (.E (.n xA (.g (.c 52))) xB) (.e (.t (.a xA (.c 1074))) (.a (.t (.s xA xB)) (.t (.a xB (.c 1074)))))) [] [_,_]) hg
 have e2:U=2^52*2^(-52 - g).toNat*2^(g+1074).toNat:=by
  rw [dJ,<-dj,<-Dg];congr 2;exact (mu (.i (.E (.n xB (.g (.c 52))) xA) (.i (.L (.g (.c 1074)) xA) (.e (.c 1022) (.a (.t (.s (.g (.c 52)) xA)) (.t (.a xA (.c 1074))))))) [] [_,_]) hg hg1
 rw [e1,e2,Nat.mul_mod_mul_right]
 generalize m*2^(e - g).toNat % (2^52*2^(-52 - g).toNat)=M
 refine ofFrac_right (shift_pos _ _ _ (by decide)) ?_ (by decide)
 have:=shift_one M g 1074 (by omega)
 rw [Nat.mul_one]
 exact this
theorem Lb (hx:FR f x) (e:DV f=aa r):FR r (divmod x r6).2:=by
 obtain ⟨a',m',e',U5⟩:=hx.1
 have R:=LG U5
 obtain ⟨v1,s1⟩:=hx.sign U5
 rw [val_natAbs U5] at v1
 rw [v1] at R
 obtain ⟨a,m⟩:=f
 dsimp only at*
 unfold DV at e
 dsimp only at e
 have hs:(divmod x r6).2=if isZero (fmod x r6) then copysign (zero false) r6 else if lt r6 (zero false)!=lt (fmod x r6) (zero false) then add (fmod x r6) r6 else fmod x r6:=by
  unfold divmod
  dsimp only
  split<;>rename_i h1
  ·rfl
  ·split<;>rename_i h2
   ·rfl
   ·rfl
 rw [hs]
 cases hg:wm a (kG m U) 1 with
 |none=>rw [hg] at e;exact nB e
 |some r0=>
  rw [hg] at e
  have F0:FR r0 (fmod x r6):=sW R (by decide) hg (by
   rcases s1 with s1|s1
   ·exact .inl s1
   ·right;subst s1;exact Nat.zero_mod U)
  rw [Km F0]
  have hl0:lt r6 (zero false)=false:=by decide+kernel
  have hl:lt (fmod x r6) (zero false)=vf r0 ⟨false,0⟩:=DN F0 G9
  rw [hl0,hl]
  obtain ⟨b,k⟩:=r0
  cases k with
  |zero=>
   skip
   obtain rfl:=am e
   have hc:copysign (zero false) r6=zero false:=by decide+kernel
   rw [hc]
   exact G9
  |succ k=>
   show FR _ (if (false:Bool)=ai then _ else _)
   rw [if_neg (by decide)]
   cases b with
   |false=>
    skip
    obtain rfl:=am e
    exact F0
   |true=>
    skip
    exact xk F0 Qc e
theorem Pe (hx:FR f x) (e:IR f=aa n): ∃a m k,decode x= .fin a m k/\truncOf a m k=n:=by
 obtain ⟨a,m,k,h⟩:=hx.1
 refine ⟨a,m,k,h,?_⟩
 have hk:=decode_ge h
 obtain ⟨v,s⟩:=hx.sign h
 rw [val_natAbs h] at v
 obtain ⟨b,M⟩:=f
 cases b with
 |true=>exact nB e
 |false=>
  obtain rfl:=am e
  dsimp only at*
  have fl:floorOf false m k=((M/U:Nat):Int):=by
   unfold floorOf sgn
   split
   ·rename_i h0
    simp only [a9,if_false]
    have:M=m*2^k.toNat*U:=by
     rw [<-v];unfold U;rw [dJ,<-dj];congr 2;exact (mu (.i (.L xJ xA) (.e (.t (.a xA (.c 1074))) (.a (.t xA) (.c 1074)))) [] [_]) h0
    rw [this,Nat.mul_div_cancel _ DO,g8]
    simp
   ·rename_i h0
    simp only [a9,if_false]
    have hU:U=2^(-k).toNat*2^(k+1074).toNat:=by unfold U;rw [<-dj];congr 1;exact (mu (.i (.L (.g (.c 1074)) xA) (.i (.n (.L xJ xA)) (.e (.c 1074) (.a (.t (.g xA)) (.t (.a xA (.c 1074))))))) [] [_]) hk h0
    have:M/U=m/2^(-k).toNat:=by
     rw [<-v,hU,fH _ _ (ci _)]
    rw [this]
    have e1:(2:Int)^(-k).toNat=((2^(-k).toNat:Nat):Int):=by rfl
    rw [e1,bX _ (fe _)]
    rfl
  cases a with
  |false=>exact fl
  |true=>
   rcases s with s|s
   ·exact rj s
   ·subst s
    have hp:0<2^(k+1074).toNat:=ci _
    have hm:m=0:=by
     rcases Nat.mul_eq_zero.mp v with q|q
     ·exact q
     ·exact (mu (.i (.b xJ xB) (.i (.e xB xJ) (.e xA xJ))) [_,_]) hp q
    subst hm
    unfold truncOf ceilOf
    simp only [if_true,iN]
    rw [fl,Nat.zero_div];rfl
end
section
open PySem.Calls PyProof.Rows
theorem eA {G:Prop} (h:p0/\p1) (k:p0->p1->G):G:=k h.1 h.2
theorem rN {G:Prop} (h:p0/\p1/\p2) (k:p0->p1->p2->G):G:=k h.1 h.2.1 h.2.2
theorem B4 {G:Prop} (h:p0/\p1/\p2/\p3) (k:p0->p1->p2->p3->G):G:=k h.1 h.2.1 h.2.2.1 h.2.2.2
theorem NH {G:Prop} (h:p0/\p1/\p2/\p3/\p4) (k:p0->p1->p2->p3->p4->G):G:=k h.1 h.2.1 h.2.2.1 h.2.2.2.1 h.2.2.2.2
theorem LQ {G:Prop} (h:p0/\p1/\p2/\p3/\p4/\p5/\p6/\p7) (k:p0->p1->p2->p3->p4->p5->p6->p7->G):G:=k h.1 h.2.1 h.2.2.1 h.2.2.2.1 h.2.2.2.2.1 h.2.2.2.2.2.1 h.2.2.2.2.2.2.1 h.2.2.2.2.2.2.2
theorem M5 {p3:Aa->Prop} {G:Prop} (h:p0/\p1/\p2/\ ∃a,p3 a) (k:p0->p1->p2-> ∀a,p3 a->G):G:=al h.2.2.2 λa h0=>k h.1 h.2.1 h.2.2.1 a h0
theorem zT {Aa:Sort u0} {Ab:Sort u1} {Ac:Sort u2} {Ad:Sort u3} {p3:Aa->Ab->Ac->Ad->Ae->Prop} {p4:Aa->Ab->Ac->Ad->Ae->Prop} {p5:Aa->Ab->Ac->Ad->Ae->Prop} {p6:Aa->Ab->Ac->Ad->Ae->Prop} {p7:Aa->Ab->Ac->Ad->Ae->Prop} {p8:Aa->Ab->Ac->Ad->Ae->Prop} {p9:Aa->Ab->Ac->Ad->Ae->Prop} {p10:Aa->Ab->Ac->Ad->Ae->Prop} {p11:Aa->Ab->Ac->Ad->Ae->Prop} {G:Prop} (h:p0/\p1/\p2/\ ∃a,∃b,∃c,∃d,∃e,p3 a b c d e/\p4 a b c d e/\p5 a b c d e/\p6 a b c d e/\p7 a b c d e/\p8 a b c d e/\p9 a b c d e/\p10 a b c d e/\p11 a b c d e) (k:p0->p1->p2-> ∀a,∀b,∀c,∀d,∀e,p3 a b c d e->p4 a b c d e->p5 a b c d e->p6 a b c d e->p7 a b c d e->p8 a b c d e->p9 a b c d e->p10 a b c d e->p11 a b c d e->G):G:=al h.2.2.2 λa h0=>al h0 λb h1=>al h1 λc h2=>al h2 λd h3=>al h3 λe h4=>k h.1 h.2.1 h.2.2.1 a b c d e h4.1 h4.2.1 h4.2.2.1 h4.2.2.2.1 h4.2.2.2.2.1 h4.2.2.2.2.2.1 h4.2.2.2.2.2.2.1 h4.2.2.2.2.2.2.2.1 h4.2.2.2.2.2.2.2.2
theorem HR {p2:Aa->Prop} {p3:Aa->Prop} {G:Prop} (h:p0/\p1/\ ∃a,p2 a/\p3 a) (k:p0->p1-> ∀a,p2 a->p3 a->G):G:=al h.2.2 λa h0=>k h.1 h.2.1 a h0.1 h0.2
theorem Rf {p2:Aa->Prop} {p3:Aa->Prop} {p4:Aa->Prop} {G:Prop} (h:p0/\p1/\ ∃a,p2 a/\p3 a/\p4 a) (k:p0->p1-> ∀a,p2 a->p3 a->p4 a->G):G:=al h.2.2 λa h0=>k h.1 h.2.1 a h0.1 h0.2.1 h0.2.2
theorem NT {Aa:Sort u0} {p2:Aa->Ab->Prop} {p3:Aa->Ab->Prop} {p4:Aa->Ab->Prop} {G:Prop} (h:p0/\p1/\ ∃a,∃b,p2 a b/\p3 a b/\p4 a b) (k:p0->p1-> ∀a,∀b,p2 a b->p3 a b->p4 a b->G):G:=al h.2.2 λa h0=>al h0 λb h1=>k h.1 h.2.1 a b h1.1 h1.2.1 h1.2.2
theorem MI {Aa:Sort u0} {Ab:Sort u1} {p2:Aa->Ab->Ac->Prop} {p3:Aa->Ab->Ac->Prop} {p4:Aa->Ab->Ac->Prop} {G:Prop} (h:p0/\p1/\ ∃a,∃b,∃c,p2 a b c/\p3 a b c/\p4 a b c) (k:p0->p1-> ∀a,∀b,∀c,p2 a b c->p3 a b c->p4 a b c->G):G:=al h.2.2 λa h0=>al h0 λb h1=>al h1 λc h2=>k h.1 h.2.1 a b c h2.1 h2.2.1 h2.2.2
theorem oV {p1:Aa->Prop} {p2:Aa->Prop} {G:Prop} (h:p0/\ ∃a,p1 a/\p2 a) (k:p0-> ∀a,p1 a->p2 a->G):G:=al h.2 λa h0=>k h.1 a h0.1 h0.2
theorem NI {p1:Aa->Prop} {p2:Aa->Prop} {p3:Aa->Prop} {G:Prop} (h:p0/\ ∃a,p1 a/\p2 a/\p3 a) (k:p0-> ∀a,p1 a->p2 a->p3 a->G):G:=al h.2 λa h0=>k h.1 a h0.1 h0.2.1 h0.2.2
theorem H4 {Aa:Sort u0} {Ab:Sort u1} {p1:Aa->Ab->Ac->Prop} {p2:Aa->Ab->Ac->Prop} {p3:Aa->Ab->Ac->Prop} {p4:Aa->Ab->Ac->Prop} {p5:Aa->Ab->Ac->Prop} {p6:Aa->Ab->Ac->Prop} {G:Prop} (h:p0/\ ∃a,∃b,∃c,p1 a b c/\p2 a b c/\p3 a b c/\p4 a b c/\p5 a b c/\p6 a b c) (k:p0-> ∀a,∀b,∀c,p1 a b c->p2 a b c->p3 a b c->p4 a b c->p5 a b c->p6 a b c->G):G:=al h.2 λa h0=>al h0 λb h1=>al h1 λc h2=>k h.1 a b c h2.1 h2.2.1 h2.2.2.1 h2.2.2.2.1 h2.2.2.2.2.1 h2.2.2.2.2.2
theorem eE {p0:Aa->Prop} {G:Prop} (h: ∃a,p0 a) (k: ∀a,p0 a->G):G:=al h λa h0=>k a h0
theorem mQ {p0:Aa->Prop} {p1:Aa->Prop} {G:Prop} (h: ∃a,p0 a/\p1 a) (k: ∀a,p0 a->p1 a->G):G:=al h λa h0=>k a h0.1 h0.2
theorem tE {p0:Aa->Prop} {p1:Aa->Prop} {p2:Aa->Prop} {G:Prop} (h: ∃a,p0 a/\p1 a/\p2 a) (k: ∀a,p0 a->p1 a->p2 a->G):G:=al h λa h0=>k a h0.1 h0.2.1 h0.2.2
theorem RL {p0:Aa->Prop} {p1:Aa->Prop} {p2:Aa->Prop} {p3:Aa->Prop} {G:Prop} (h: ∃a,p0 a/\p1 a/\p2 a/\p3 a) (k: ∀a,p0 a->p1 a->p2 a->p3 a->G):G:=al h λa h0=>k a h0.1 h0.2.1 h0.2.2.1 h0.2.2.2
theorem Mb {p0:Aa->Prop} {p1:Aa->Prop} {p2:Aa->Prop} {p3:Aa->Prop} {p4:Aa->Prop} {p5:Aa->Prop} {p6:Aa->Prop} {G:Prop} (h: ∃a,p0 a/\p1 a/\p2 a/\p3 a/\p4 a/\p5 a/\p6 a) (k: ∀a,p0 a->p1 a->p2 a->p3 a->p4 a->p5 a->p6 a->G):G:=al h λa h0=>k a h0.1 h0.2.1 h0.2.2.1 h0.2.2.2.1 h0.2.2.2.2.1 h0.2.2.2.2.2.1 h0.2.2.2.2.2.2
theorem HK {Aa:Sort u0} {p0:Aa->Prop} {p1:Aa->Prop} {p2:Aa->Ab->Prop} {G:Prop} (h: ∃a,p0 a/\p1 a/\ ∃b,p2 a b) (k: ∀a,p0 a->p1 a-> ∀b,p2 a b->G):G:=al h λa h0=>al h0.2.2 λb h1=>k a h0.1 h0.2.1 b h1
theorem MY {Aa:Sort u0} {p0:Aa->Prop} {p1:Aa->Ab->Prop} {p2:Aa->Ab->Prop} {G:Prop} (h: ∃a,p0 a/\ ∃b,p1 a b/\p2 a b) (k: ∀a,p0 a-> ∀b,p1 a b->p2 a b->G):G:=al h λa h0=>al h0.2 λb h1=>k a h0.1 b h1.1 h1.2
theorem yJ {Aa:Sort u0} {p0:Aa->Prop} {p1:Aa->Ab->Prop} {p2:Aa->Ab->Prop} {p3:Aa->Ab->Prop} {G:Prop} (h: ∃a,p0 a/\ ∃b,p1 a b/\p2 a b/\p3 a b) (k: ∀a,p0 a-> ∀b,p1 a b->p2 a b->p3 a b->G):G:=al h λa h0=>al h0.2 λb h1=>k a h0.1 b h1.1 h1.2.1 h1.2.2
theorem rR {Aa:Sort u0} {p0:Aa->Ab->Prop} {G:Prop} (h: ∃a,∃b,p0 a b) (k: ∀a,∀b,p0 a b->G):G:=al h λa h0=>al h0 λb h1=>k a b h1
theorem oU {Aa:Sort u0} {p0:Aa->Ab->Prop} {p1:Aa->Ab->Prop} {G:Prop} (h: ∃a,∃b,p0 a b/\p1 a b) (k: ∀a,∀b,p0 a b->p1 a b->G):G:=al h λa h0=>al h0 λb h1=>k a b h1.1 h1.2
theorem ng {Aa:Sort u0} {p0:Aa->Ab->Prop} {p1:Aa->Ab->Prop} {p2:Aa->Ab->Prop} {G:Prop} (h: ∃a,∃b,p0 a b/\p1 a b/\p2 a b) (k: ∀a,∀b,p0 a b->p1 a b->p2 a b->G):G:=al h λa h0=>al h0 λb h1=>k a b h1.1 h1.2.1 h1.2.2
theorem nh {Aa:Sort u0} {p0:Aa->Ab->Prop} {p1:Aa->Ab->Prop} {p2:Aa->Ab->Prop} {p3:Aa->Ab->Prop} {G:Prop} (h: ∃a,∃b,p0 a b/\p1 a b/\p2 a b/\p3 a b) (k: ∀a,∀b,p0 a b->p1 a b->p2 a b->p3 a b->G):G:=al h λa h0=>al h0 λb h1=>k a b h1.1 h1.2.1 h1.2.2.1 h1.2.2.2
theorem Gi {Aa:Sort u0} {Ab:Sort u1} {Ac:Sort u2} {p0:Aa->Ab->Prop} {p1:Aa->Ab->Prop} {p2:Aa->Ab->Prop} {p3:Aa->Ab->Ac->Ad->Prop} {p4:Aa->Ab->Ac->Ad->Prop} {p5:Aa->Ab->Ac->Ad->Prop} {p6:Aa->Ab->Ac->Ad->Prop} {G:Prop} (h: ∃a,∃b,p0 a b/\p1 a b/\p2 a b/\ ∃c,∃d,p3 a b c d/\p4 a b c d/\p5 a b c d/\p6 a b c d) (k: ∀a,∀b,p0 a b->p1 a b->p2 a b-> ∀c,∀d,p3 a b c d->p4 a b c d->p5 a b c d->p6 a b c d->G):G:=al h λa h0=>al h0 λb h1=>al h1.2.2.2 λc h2=>al h2 λd h3=>k a b h1.1 h1.2.1 h1.2.2.1 c d h3.1 h3.2.1 h3.2.2.1 h3.2.2.2
theorem vk {Aa:Sort u0} {Ab:Sort u1} {p0:Aa->Ab->Ac->Prop} {G:Prop} (h: ∃a,∃b,∃c,p0 a b c) (k: ∀a,∀b,∀c,p0 a b c->G):G:=al h λa h0=>al h0 λb h1=>al h1 λc h2=>k a b c h2
theorem wN {Aa:Sort u0} {Ab:Sort u1} {p0:Aa->Ab->Ac->Prop} {p1:Aa->Ab->Ac->Prop} {G:Prop} (h: ∃a,∃b,∃c,p0 a b c/\p1 a b c) (k: ∀a,∀b,∀c,p0 a b c->p1 a b c->G):G:=al h λa h0=>al h0 λb h1=>al h1 λc h2=>k a b c h2.1 h2.2
theorem v0 {Aa:Sort u0} {Ab:Sort u1} {p0:Aa->Ab->Ac->Prop} {p1:Aa->Ab->Ac->Prop} {p2:Aa->Ab->Ac->Prop} {G:Prop} (h: ∃a,∃b,∃c,p0 a b c/\p1 a b c/\p2 a b c) (k: ∀a,∀b,∀c,p0 a b c->p1 a b c->p2 a b c->G):G:=al h λa h0=>al h0 λb h1=>al h1 λc h2=>k a b c h2.1 h2.2.1 h2.2.2
theorem rY {Aa:Sort u0} {Ab:Sort u1} {p0:Aa->Ab->Ac->Prop} {p1:Aa->Ab->Ac->Prop} {p2:Aa->Ab->Ac->Prop} {p3:Aa->Ab->Ac->Prop} {G:Prop} (h: ∃a,∃b,∃c,p0 a b c/\p1 a b c/\p2 a b c/\p3 a b c) (k: ∀a,∀b,∀c,p0 a b c->p1 a b c->p2 a b c->p3 a b c->G):G:=al h λa h0=>al h0 λb h1=>al h1 λc h2=>k a b c h2.1 h2.2.1 h2.2.2.1 h2.2.2.2
theorem uI {Aa:Sort u0} {Ab:Sort u1} {p0:Aa->Ab->Ac->Prop} {p1:Aa->Ab->Ac->Prop} {p2:Aa->Ab->Ac->Prop} {p3:Aa->Ab->Ac->Prop} {p4:Aa->Ab->Ac->Prop} {G:Prop} (h: ∃a,∃b,∃c,p0 a b c/\p1 a b c/\p2 a b c/\p3 a b c/\p4 a b c) (k: ∀a,∀b,∀c,p0 a b c->p1 a b c->p2 a b c->p3 a b c->p4 a b c->G):G:=al h λa h0=>al h0 λb h1=>al h1 λc h2=>k a b c h2.1 h2.2.1 h2.2.2.1 h2.2.2.2.1 h2.2.2.2.2
theorem QP {Aa:Sort u0} {Ab:Sort u1} {Ac:Sort u2} {p0:Aa->Ab->Ac->Ad->Prop} {p1:Aa->Ab->Ac->Ad->Prop} {G:Prop} (h: ∃a,∃b,∃c,∃d,p0 a b c d/\p1 a b c d) (k: ∀a,∀b,∀c,∀d,p0 a b c d->p1 a b c d->G):G:=al h λa h0=>al h0 λb h1=>al h1 λc h2=>al h2 λd h3=>k a b c d h3.1 h3.2
theorem E1 {Aa:Sort u0} {Ab:Sort u1} {Ac:Sort u2} {p0:Aa->Ab->Ac->Ad->Prop} {p1:Aa->Ab->Ac->Ad->Prop} {p2:Aa->Ab->Ac->Ad->Prop} {p3:Aa->Ab->Ac->Ad->Prop} {G:Prop} (h: ∃a,∃b,∃c,∃d,p0 a b c d/\p1 a b c d/\p2 a b c d/\p3 a b c d) (k: ∀a,∀b,∀c,∀d,p0 a b c d->p1 a b c d->p2 a b c d->p3 a b c d->G):G:=al h λa h0=>al h0 λb h1=>al h1 λc h2=>al h2 λd h3=>k a b c d h3.1 h3.2.1 h3.2.2.1 h3.2.2.2
theorem Bj {Aa:Sort u0} {Ab:Sort u1} {Ac:Sort u2} {p0:Aa->Ab->Ac->Ad->Prop} {p1:Aa->Ab->Ac->Ad->Prop} {p2:Aa->Ab->Ac->Ad->Prop} {p3:Aa->Ab->Ac->Ad->Prop} {p4:Aa->Ab->Ac->Ad->Prop} {p5:Aa->Ab->Ac->Ad->Prop} {G:Prop} (h: ∃a,∃b,∃c,∃d,p0 a b c d/\p1 a b c d/\p2 a b c d/\p3 a b c d/\p4 a b c d/\p5 a b c d) (k: ∀a,∀b,∀c,∀d,p0 a b c d->p1 a b c d->p2 a b c d->p3 a b c d->p4 a b c d->p5 a b c d->G):G:=al h λa h0=>al h0 λb h1=>al h1 λc h2=>al h2 λd h3=>k a b c d h3.1 h3.2.1 h3.2.2.1 h3.2.2.2.1 h3.2.2.2.2.1 h3.2.2.2.2.2
theorem zV {Aa:Sort u0} {Ab:Sort u1} {Ac:Sort u2} {p0:Aa->Ab->Ac->Ad->Prop} {p1:Aa->Ab->Ac->Ad->Prop} {p2:Aa->Ab->Ac->Ad->Prop} {p3:Aa->Ab->Ac->Ad->Prop} {p4:Aa->Ab->Ac->Ad->Prop} {p5:Aa->Ab->Ac->Ad->Prop} {p6:Aa->Ab->Ac->Ad->Prop} {G:Prop} (h: ∃a,∃b,∃c,∃d,p0 a b c d/\p1 a b c d/\p2 a b c d/\p3 a b c d/\p4 a b c d/\p5 a b c d/\p6 a b c d) (k: ∀a,∀b,∀c,∀d,p0 a b c d->p1 a b c d->p2 a b c d->p3 a b c d->p4 a b c d->p5 a b c d->p6 a b c d->G):G:=al h λa h0=>al h0 λb h1=>al h1 λc h2=>al h2 λd h3=>k a b c d h3.1 h3.2.1 h3.2.2.1 h3.2.2.2.1 h3.2.2.2.2.1 h3.2.2.2.2.2.1 h3.2.2.2.2.2.2
theorem Jj {Aa:Sort u0} {Ab:Sort u1} {Ac:Sort u2} {Ad:Sort u3} {p0:Aa->Ab->Ac->Ad->Ae->Prop} {G:Prop} (h: ∃a,∃b,∃c,∃d,∃e,p0 a b c d e) (k: ∀a,∀b,∀c,∀d,∀e,p0 a b c d e->G):G:=al h λa h0=>al h0 λb h1=>al h1 λc h2=>al h2 λd h3=>al h3 λe h4=>k a b c d e h4
theorem GT {Aa:Sort u0} {Ab:Sort u1} {Ac:Sort u2} {Ad:Sort u3} {p0:Aa->Ab->Ac->Ad->Ae->Prop} {p1:Aa->Ab->Ac->Ad->Ae->Prop} {G:Prop} (h: ∃a,∃b,∃c,∃d,∃e,p0 a b c d e/\p1 a b c d e) (k: ∀a,∀b,∀c,∀d,∀e,p0 a b c d e->p1 a b c d e->G):G:=al h λa h0=>al h0 λb h1=>al h1 λc h2=>al h2 λd h3=>al h3 λe h4=>k a b c d e h4.1 h4.2
theorem Ga {Aa:Sort u0} {Ab:Sort u1} {Ac:Sort u2} {Ad:Sort u3} {p0:Aa->Ab->Ac->Ad->Ae->Prop} {p1:Aa->Ab->Ac->Ad->Ae->Prop} {p2:Aa->Ab->Ac->Ad->Ae->Prop} {p3:Aa->Ab->Ac->Ad->Ae->Prop} {p4:Aa->Ab->Ac->Ad->Ae->Prop} {p5:Aa->Ab->Ac->Ad->Ae->Prop} {G:Prop} (h: ∃a,∃b,∃c,∃d,∃e,p0 a b c d e/\p1 a b c d e/\p2 a b c d e/\p3 a b c d e/\p4 a b c d e/\p5 a b c d e) (k: ∀a,∀b,∀c,∀d,∀e,p0 a b c d e->p1 a b c d e->p2 a b c d e->p3 a b c d e->p4 a b c d e->p5 a b c d e->G):G:=al h λa h0=>al h0 λb h1=>al h1 λc h2=>al h2 λd h3=>al h3 λe h4=>k a b c d e h4.1 h4.2.1 h4.2.2.1 h4.2.2.2.1 h4.2.2.2.2.1 h4.2.2.2.2.2
theorem OW {Aa:Sort u0} {Ab:Sort u1} {Ac:Sort u2} {Ad:Sort u3} {Ae:Sort u4} {p0:Aa->Ab->Ac->Ad->Ae->Af->Prop} {G:Prop} (h: ∃a,∃b,∃c,∃d,∃e,∃f,p0 a b c d e f) (k: ∀a,∀b,∀c,∀d,∀e,∀f,p0 a b c d e f->G):G:=al h λa h0=>al h0 λb h1=>al h1 λc h2=>al h2 λd h3=>al h3 λe h4=>al h4 λf h5=>k a b c d e f h5
theorem AH {Aa:Sort u0} {Ab:Sort u1} {Ac:Sort u2} {Ad:Sort u3} {Ae:Sort u4} {p0:Aa->Ab->Ac->Ad->Ae->Af->Prop} {p1:Aa->Ab->Ac->Ad->Ae->Af->Prop} {G:Prop} (h: ∃a,∃b,∃c,∃d,∃e,∃f,p0 a b c d e f/\p1 a b c d e f) (k: ∀a,∀b,∀c,∀d,∀e,∀f,p0 a b c d e f->p1 a b c d e f->G):G:=al h λa h0=>al h0 λb h1=>al h1 λc h2=>al h2 λd h3=>al h3 λe h4=>al h4 λf h5=>k a b c d e f h5.1 h5.2
theorem C8 {Aa:Sort u0} {Ab:Sort u1} {Ac:Sort u2} {Ad:Sort u3} {Ae:Sort u4} {Af:Sort u5} {p0:Aa->Ab->Ac->Ad->Ae->Af->Ag->Prop} {p1:Aa->Ab->Ac->Ad->Ae->Af->Ag->Prop} {G:Prop} (h: ∃a,∃b,∃c,∃d,∃e,∃f,∃g,p0 a b c d e f g/\p1 a b c d e f g) (k: ∀a,∀b,∀c,∀d,∀e,∀f,∀g,p0 a b c d e f g->p1 a b c d e f g->G):G:=al h λa h0=>al h0 λb h1=>al h1 λc h2=>al h2 λd h3=>al h3 λe h4=>al h4 λf h5=>al h5 λg h6=>k a b c d e f g h6.1 h6.2
theorem r7 {Aa:Sort u0} {Ab:Sort u1} {Ac:Sort u2} {Ad:Sort u3} {Ae:Sort u4} {Af:Sort u5} {Ag:Sort u6} {Ah:Sort u7} {Ai:Sort u8} {p0:Aa->Ab->Ac->Ad->Ae->Af->Ag->Prop} {p1:Aa->Ab->Ac->Ad->Ae->Af->Ag->Ah->Ai->Aj->Prop} {p2:Aa->Ab->Ac->Ad->Ae->Af->Ag->Ah->Ai->Aj->Prop} {p3:Aa->Ab->Ac->Ad->Ae->Af->Ag->Ah->Ai->Aj->Prop} {G:Prop} (h: ∃a,∃b,∃c,∃d,∃e,∃f,∃g,p0 a b c d e f g/\ ∃h,∃i,∃j,p1 a b c d e f g h i j/\p2 a b c d e f g h i j/\p3 a b c d e f g h i j) (k: ∀a,∀b,∀c,∀d,∀e,∀f,∀g,p0 a b c d e f g-> ∀h,∀i,∀j,p1 a b c d e f g h i j->p2 a b c d e f g h i j->p3 a b c d e f g h i j->G):G:=al h λa h0=>al h0 λb h1=>al h1 λc h2=>al h2 λd h3=>al h3 λe h4=>al h4 λf h5=>al h5 λg h6=>al h6.2 λh h7=>al h7 λi h8=>al h8 λj h9=>k a b c d e f g h6.1 h i j h9.1 h9.2.1 h9.2.2
inductive PV where
 |none
 |bool (b:Bool)
 |int (i:Int)
 |float (x:UInt64)
 |fx (f:Fx)
 |str (x:Str)
 |bytes (b:Array UInt8)
 |tup (l:List PV)
 |list (l:List PV)
 |raw (v:ay)
 |inst (L:aF)
 |hdr (l:List PV)
 deriving Inhabited
structure oI (h:aW) (a d L:aF):Prop where
 obj:h.get? a=aa (gd 293 d)
 dic: ∃od,h.get? d=aa od/\gp "_headers" od=aa (aa (.ref L))/\ ∀n:Str,(n=="_headers")=false->gp n od=aa az
abbrev mT (h h':aW):Prop:= ∀b o,h.get? b=aa o->h'.get? b=aa o
theorem mT.trans (a:mT h h') (b:mT h' Wt):mT h Wt:=λx o e=>b x o (a x o e)
theorem mT.rfl:mT h h:=λz z e=>e
abbrev oH (X:List aF) (h h':aW):Prop:= ∀b o,b∉X->h.get? b=aa o->h'.get? b=aa o
abbrev n6 (X:List aF) (h:aW):Prop:= ∀a∈X,∃o,h.get? a=aa o
theorem Dr {h h':aW} (k:mT h h') (e:h'.get? b=az):h.get? b=az:=by
 cases q:h.get? b with
 |none=>rfl
 |some o=>exact absurd ((k b o q).symm.trans e) nofun
theorem n6.keep (l:n6 X h) (k:mT h h'):n6 X h':=λa ha=>let ⟨o,e⟩:=l a ha;⟨o,k _ _ e⟩
mutual
def mO (X:List aF) (h:aW):PV->ay->Prop
 |.none,v=>v= .none
 |.bool b,v=>v= .bool b
 |.int i,v=> ∃t,v= .int i t
 |.float x,v=> ∃t,v= .float x t
 |.fx f,v=> ∃x t,v= .float x t/\FR f x
 |.str x,v=> ∃t,v= .str x t
 |.bytes x,v=> ∃t,v= .bytes x t
 |.raw u,v=>v=u
 |.tup l,v=> ∃a vs,v= .ref a/\a∉X/\IsTup h a vs.toArray/\mJ X h l vs
 |.list l,v=> ∃a vs,v= .ref a/\a∉X/\h.IsList a vs.toArray/\mJ X h l vs
 |.inst L,v=> ∃a d,v= .ref a/\a∉X/\d∉X/\oI h a d L
 |.hdr l,v=> ∃a d L vs,v= .ref a/\a∉X/\d∉X/\L∉X/\oI h a d L/\h.IsList L vs.toArray/\mJ X h l vs
def mJ (X:List aF) (h:aW):List PV->List ay->Prop
 |[],vs=>vs=[]
 |p::ps,vs=> ∃v us,vs=v::us/\mO X h p v/\mJ X h ps us
end
def NF (o:Obj):Prop:= ∀vs,o.data≠ .fields vs
abbrev Mv (X Y:List aF) (h h':aW):Prop:= ∀a o,a∉X->h.get? a=aa o->NF o->a∉Y/\h'.get? a=aa o
theorem w8 (k:Mv X Y h h') {T:ay} (ha:a∉X) (t: ∃o,h.get? a=aa o/\o.cls=T/\ ∃n,o.data= .seq vs n):a∉Y/\ ∃o,h'.get? a=aa o/\o.cls=T/\ ∃n,o.data= .seq vs n:=
 let ⟨o,q1,q2,n,q3⟩:=t;let z:=k a o ha q1 λy h=>nomatch q3.symm.trans h;⟨z.1,o,z.2,q2,n,q3⟩
theorem HB (k:Mv X Y h h') (ha:a∉X) (hd:d∉X) (t:oI h a d L):a∉Y/\d∉Y/\oI h' a d L:=
 let ⟨o,q,e,r⟩:=t.dic
 let z:=k a _ ha t.obj λj h=>nomatch h
 let y:=k d o hd q λj h=>by unfold gp at e;rw [h] at e;exact nB e
 ⟨z.1,y.1,z.2,o,y.2,e,r⟩
mutual
theorem mO.gen (k:Mv X Y h h'): ∀{p:PV} {v:ay},mO X h p v->mO Y h' p v
 |.none,_,r=>r
 |.bool _,_,r=>r
 |.int _,_,r=>r
 |.float _,_,r=>r
 |.fx _,_,r=>r
 |.str _,_,r=>r
 |.bytes _,_,r=>r
 |.raw _,_,r=>r
 |.tup l,v,r=>by
  unfold mO at r ⊢
  exact nh r λa vs e ha t q=>⟨a,vs,e,(w8 k ha t).1,(w8 k ha t).2,mJ.gen k q⟩
 |.list l,v,r=>by
  unfold mO at r ⊢
  exact nh r λa vs e ha t q=>⟨a,vs,e,(w8 k ha t).1,(w8 k ha t).2,mJ.gen k q⟩
 |.inst L,v,r=>by
  unfold mO at r ⊢
  exact nh r λa d e ha hd t=>⟨a,d,e,HB k ha hd t⟩
 |.hdr l,v,r=>by
  unfold mO at r ⊢
  exact zV r λa d L vs e ha hd hL t tl q=>rN (HB k ha hd t) λz1 z2 z3=>eA (w8 k hL tl) λy1 y2=>⟨a,d,L,vs,e,z1,z2,y1,z3,y2,mJ.gen k q⟩
theorem mJ.gen (k:Mv X Y h h'): ∀{ps:List PV} {vs:List ay},mJ X h ps vs->mJ Y h' ps vs
 |[],_,r=>r
 |p::ps,vs,r=>by
  unfold mJ at r ⊢
  exact ng r λv us e a b=>⟨v,us,e,mO.gen k a,mJ.gen k b⟩
end
theorem mO.keepX (k:oH X h h') (r:mO X h p v):mO X h' p v:=r.gen λa o ha e z=>⟨ha,k a o ha e⟩
theorem mJ.keepX (k:oH X h h') (r:mJ X h p v):mJ X h' p v:=r.gen λa o ha e z=>⟨ha,k a o ha e⟩
theorem mO.sub (k: ∀b,b∈Y->(∃o,h.get? b=aa o)->b∈X) (r:mO X h p v):mO Y h p v:=r.gen λa o ha e z=>⟨λhb=>ha (k a hb ⟨o,e⟩),e⟩
theorem mJ.sub (k: ∀b,b∈Y->(∃o,h.get? b=aa o)->b∈X) (r:mJ X h p v):mJ Y h p v:=r.gen λa o ha e z=>⟨λhb=>ha (k a hb ⟨o,e⟩),e⟩
theorem mO.keep (k:mT h h') (r:mO X h p v):mO X h' p v:=r.keepX λb o z e=>k b o e
theorem mJ.keep (k:mT h h') (r:mJ X h p v):mJ X h' p v:=r.keepX λb o z e=>k b o e
theorem mJ.nil:mJ X h [] []:=by rfl
theorem mJ.cons (a:mO X h p v) (b:mJ X h ps vs):mJ X h (p::ps) (v::vs):=by
 exact ⟨v,vs,rfl,a,b⟩
theorem mJ.len: ∀{ps:List PV} {vs:List ay},mJ X h ps vs->vs.length=ps.length
 |[],vs,r=>by subst r;rfl
 |p::ps,vs,r=>by
  refine ng r ?_;clear r;intro v us T0 _ b;obtain rfl:=T0
  simp [b.len]
theorem mJ.get: ∀{ps:List PV} {vs:List ay} {i:Nat} {p:PV},mJ X h ps vs->ps[i]? =aa p-> ∃v,vs[i]? =aa v/\mO X h p v
 |[],_,_,_,_,e=>by simp at e
 |p::ps,vs,i,q,r,e=>by
  refine ng r ?_;clear r;intro v us T0 a b;obtain rfl:=T0
  cases i with
  |zero=>simp at e;subst e;exact ⟨v,rfl,a⟩
  |succ i=>simp at e;simpa using b.get e
theorem mJ.append: ∀{ps qs:List PV} {vs ws:List ay},mJ X h ps vs->mJ X h qs ws->mJ X h (ps++qs) (vs++ws)
 |[],_,vs,_,r,k=>by subst r;exact k
 |p::ps,_,vs,_,r,k=>by
  refine ng r ?_;clear r;intro v us T0 a b;obtain rfl:=T0
  exact mJ.cons a (b.append k)
section frame
variable {prog:aH} {w:av}
structure Fs where
 env:Env
 A:aX
 X:List aF
 I:aW->Prop
 mono: ∀h h',I h->mT h h'->I h'
 live: ∀h,I h->n6 X h
structure Ev (prog:aH) (w:av) (φ:Fs) (e:Expr) (p:PV):Prop where
 run: ∀s:aq,φ.I s.heap->aC (aI prog w) φ.A (bJ e φ.env) (λv s'=>bB s s'/\mO φ.X s'.heap p v) (λz z=>False) s
structure tH (prog:aH) (w:av) (φ:Fs) (pos:Pos) (es:List Expr) (ps:List PV):Prop where
 run: ∀s:aq,φ.I s.heap->aC (aI prog w) φ.A (spliced (fa pos (aE es φ.env))) (λvs s'=>bB s s'/\mJ φ.X s'.heap ps vs) (λz z=>False) s
end frame
theorem mN (s:aq):bB s s:=⟨s.heap,s.toks,rfl,λz z e=>e⟩
theorem pf (s:aq) (n:Nat):bB s {s with toks:=n}:=⟨s.heap,n,rfl,λz z e=>e⟩
theorem mG (a:bB s s') (b:bB s' Vo):bB s Vo:=by
 obtain ⟨h,t,rfl,k⟩:=a
 obtain ⟨h',t',rfl,k'⟩:=b
 exact ⟨h',t',rfl,λx o e=>k' x o (k x o e)⟩
theorem mz (a:bB s s'):mT s.heap s'.heap:=by
 obtain ⟨h,t,rfl,k⟩:=a
 exact k
theorem mY (s:aq) (o:Obj) (n:Nat):bB s {s with heap:=s.heap.push o,toks:=n}:=⟨_,_,rfl,λz z e=>aO _ e⟩
theorem mZ {α β:Type} {o:Option α} {f:α->Option β} {r:β} {G:Prop} (e:o.bind f=aa r) (k: ∀a,o=aa a->f a=aa r->G):G:=let ⟨a,p,q⟩:=bd.mp e;k a p q
theorem Cq {α:Type} {l:List α} (h:l.length=n+1): ∃a r,l=a::r/\r.length=n:=by
 cases l with
 |nil=>cases h
 |cons a r=>exact ⟨a,r,rfl,Nat.succ.inj h⟩
theorem vp {α:Type} {l:List α} (h:l.length=1): ∃a,l=[a]:=let ⟨a,r,e,h⟩:=Cq h;⟨a,by rw [e,aY.mp h]⟩
theorem Fd {α:Type} {l:List α} (h:l.length=2): ∃a b,l=[a,b]:=let ⟨a,r,e,h⟩:=Cq h;let ⟨b,q⟩:=vp h;⟨a,b,by rw [e,q]⟩
theorem vo {α:Type} {l:List α} (h:l.length=3): ∃a b c,l=[a,b,c]:=let ⟨a,r,e,h⟩:=Cq h;let ⟨b,c,q⟩:=Fd h;⟨a,b,c,by rw [e,q]⟩
theorem SY {α:Type} {l:List α} (h:l.length=5): ∃a b c d e,l=[a,b,c,d,e]:=let ⟨a,r,e,h⟩:=Cq h;let ⟨b,r,e',h⟩:=Cq h;let ⟨c,d,f,q⟩:=vo h;⟨a,b,c,d,f,by rw [e,e',q]⟩
section
variable {prog:aH} {w:av} {φ:Fs}
theorem Fs.mono' (φ:Fs) (i:φ.I s.heap) (k:bB s s'):φ.I s'.heap:=φ.mono _ _ i (mz k)
abbrev wR (prog:aH) (w:av) (A:aX) (X:List aF) (t:Sem ay) (p:PV) (s:aq):Prop:=
 aC (aI prog w) A t (λv s'=>bB s s'/\mO X s'.heap p v) (λz z=>False) s
theorem wR.then {f:ay->Sem ay} (h:wR prog w A X t p s)
  (k: ∀v s',bB s s'->mO X s'.heap p v->wR prog w A X (f v) q s'):
  aC (aI prog w) A t (λv s'=>aC (aI prog w) A (f v) (λv Vo=>bB s Vo/\mO X Vo.heap q v) (λz z=>False) s') (λz z=>False) s:=
 ab h (λv s' uu=>eA uu λa b=>ab (k v s' a b) (λz z uu=>eA uu λc d=>⟨mG a c,d⟩) λz z e=>e) λz z e=>e
def QS (prog:aH) (w:av) (A:aX) (X:List aF) (t:ay->Sem ay) (p r:PV):Prop:=
 ∀(s:aq) (a:ay),n6 X s.heap->mO X s.heap p a->wR prog w A X (t a) r s
def n0 (prog:aH) (w:av) (A:aX) (X:List aF) (t:ay->ay->Sem ay) (p q r:PV):Prop:=
 ∀(s:aq) (a b:ay),n6 X s.heap->mO X s.heap p a->mO X s.heap q b->wR prog w A X (t a b) r s
theorem mI (hl:Ev prog w φ l p) (hr:Ev prog w φ r q) (ho:n0 prog w φ.A φ.X (ca op) p q o):
  Ev prog w φ (.BinOp l op r pos) o:=.mk λs i=>
 j8 (ab (hl.run s i) (λa TZ uu=>eA uu λT1 T4=>ab (hr.run TZ (φ.mono' i T1)) (λb T2 uu=>eA uu λT3 Ug=>
  ab (ho T2 a b (φ.live _ (φ.mono' i (mG T1 T3))) (T4.keep (mz T3)) Ug) (λz z uu=>eA uu λUb Ui=>⟨mG T1 (mG T3 Ub),Ui⟩) λz z e=>e) λz z e=>e) λz z e=>e)
theorem rW (hx:Ev prog w φ x p) (ho:QS prog w φ.A φ.X (unaryOp op) p o):Ev prog w φ (.UnaryOp op x pos) o:=.mk λs i=>
 wpAny_UnaryOp (wR.then (hx.run s i) λa TZ T1 T4=>ho TZ a (φ.live _ (φ.mono' i T1)) T4)
theorem vg (hl:Ev prog w φ l p) (hr:Ev prog w φ r q) (ho:n0 prog w φ.A φ.X (bP op) p q o)
  (hm:autoParam (lu op r=false) XX):
  Ev prog w φ (.Compare l [op] [r] pos) o:=.mk λs i=>
 wpAny_Compare1 (ab (hl.run s i) (λa TZ uu=>eA uu λT1 T4=>ab (hr.run TZ (φ.mono' i T1)) (λb T2 uu=>eA uu λT3 Ug=>
  ab (ho T2 a b (φ.live _ (φ.mono' i (mG T1 T3))) (T4.keep (mz T3)) Ug) (λz z uu=>eA uu λUb Ui=>⟨mG T1 (mG T3 Ub),Ui⟩) λz z e=>e) λz z e=>e) λz z e=>e) hm
theorem mM:Ev prog w φ (.Constant (.int i) k pos) (.int i):=.mk λs z=>wpAny_Constant_int ⟨pf _ _,by exact ⟨_,rfl⟩⟩
theorem JI:Ev prog w φ (.Constant (.str x) k pos) (.str x):=.mk λs z=>wpAny_Constant_str ⟨pf _ _,by exact ⟨_,rfl⟩⟩
theorem xi:Ev prog w φ (.Constant .none k pos) .none:=.mk λs z=>wpAny_Constant_none ⟨mN _,by rfl⟩
theorem sF:Ev prog w φ (.Constant (.bool b) k pos) (.bool b):=.mk λs z=>wpAny_Constant_bool ⟨mN _,by rfl⟩
theorem vU:Ev prog w φ (.Constant (.float x) k pos) (.float x):=.mk λs z=>λΓ p z=>⟨pf _ _,by exact ⟨_,rfl⟩⟩
theorem KO:Ev prog w φ (.Constant (.bytes x) k pos) (.bytes x.toArray):=.mk λs z=>λΓ p z=>⟨pf _ _,by exact ⟨_,rfl⟩⟩
def EE (env:Env) (h:aW) (x:Str) (v:ay):Prop:=
 (env.kindOf x=aa .local/\ ∃m,h.Ns env.locals m/\m x=aa v)\/
 (env.kindOf x=aa .cell/\ ∃c,env.cells.lookup x=aa c/\h.IsCell c (aa v))\/
 (env.kindOf x=aa .free/\(x==("__classdict__":Str))=false/\ ∃c,env.cells.lookup x=aa c/\h.IsCell c (aa v))
theorem u9 (hk:env.scope.kind= .function) (L:EE env s.heap x v) (h:Q v s):
  aC (aI prog w) A (loadName env x) Q E s:=by
 rcases L with ⟨a,m,b,c⟩|⟨a,c,b,d⟩|⟨a,n,c,b,d⟩
 ·exact wpAny_loadName_local hk a b c h
 ·exact wpAny_loadName_cell hk a b d h
 ·exact wpAny_loadName_free hk a b d h n
theorem QK (hk:φ.env.scope.kind= .function) (hv: ∀h,φ.I h-> ∃v,EE φ.env h x v/\mO φ.X h p v) (hd:(x==("__debug__":Str))=false):
  Ev prog w φ (.Name x pos) p:=.mk λs i=>by
 refine mQ (hv _ i) λv L r=> ?_
 exact jy (u9 hk L ⟨mN _,r⟩) hd
def BU (h:aW) (x:Str) (v:ay):Prop:= ∃mg,h.Ns bm mg/\mg x=aa v
def Ng (h:aW) (x:Str) (v:ay):Prop:= ∃mg mb,h.Ns bm mg/\mg x=az/\h.Ns dg mb/\mb x=aa v
theorem Co (hk:φ.env.scope.kind= .function) (hx:φ.env.kindOf x=aa .globalImplicit) (hgl:φ.env.globals=bm)
  (hg: ∀h,φ.I h->BU h x v) (hr: ∀h,mO φ.X h p v) (hd:(x==("__debug__":Str))=false):Ev prog w φ (.Name x pos) p:=.mk λs i=>by
 refine mQ (hg _ i) λmg n e=> ?_
 exact Name_function_global hk hx (loadGlobal_global (hgl▸n) e ⟨mN _,hr _⟩) hd
theorem Kk (hk:φ.env.scope.kind= .function) (hx:φ.env.kindOf x=aa .globalImplicit) (hgl:φ.env.globals=bm) (hbl:φ.env.builtins=dg)
  (hg: ∀h,φ.I h->Ng h x v) (hd:(x==("__debug__":Str))=false):Ev prog w φ (.Name x pos) (.raw v):=.mk λs i=>by
 refine nh (hg _ i) λmg mb n e n' e'=> ?_
 exact Name_function_global hk hx (loadGlobal_builtin (hgl▸n) e (hbl▸n') e' ⟨mN _,by rfl⟩) hd
theorem mH:tH prog w φ pos [] []:=.mk λs z=>cF ⟨mN _,mJ.nil⟩
theorem my (h:Ev prog w φ e p) (hs:tH prog w φ pos es ps)
  (he:autoParam (aE (e::es) φ.env=(false,bJ e φ.env)::aE es φ.env) XZ):tH prog w φ pos (e::es) (p::ps):=.mk λs i=>
 cB (ab (h.run s i) (λv TZ uu=>eA uu λT1 T4=>ab (hs.run TZ (φ.mono' i T1)) (λvs T2 uu=>eA uu λT3 Ug=>⟨mG T1 T3,mJ.cons (T4.keep (mz T3)) Ug⟩) λz z e=>e) λz z e=>e) he
theorem oJ (l:n6 X h):h.objs.size∉X:=λm=>let ⟨_,e⟩:=l _ m;absurd (aR e) (cn _)
theorem ot (hs:tH prog w φ pos es ps) (hz:ps.length<=bn):Ev prog w φ (.Tuple es k pos) (.tup ps):=.mk λs i=>
 wpAny_Tuple (ab (hs.run s i) (λvs TZ uu=>eA uu λT1 T4=>⟨by rw [T4.len];exact hz,mG T1 (mY _ _ _),by
  exact ⟨_,vs,rfl,oJ (φ.live _ (φ.mono' i T1)),⟨_,au _ rfl,rfl,_,rfl⟩,T4.keep (mz (mY TZ _ TZ.toks))⟩⟩) λz z e=>e)
theorem pW (hs:tH prog w φ pos es ps) (hz:ps.length<=bn):Ev prog w φ (.List es pos) (.list ps):=.mk λs i=>
 jz (ab (hs.run s i) (λvs TZ uu=>eA uu λT1 T4=>⟨by rw [T4.len];exact hz,mG T1 (mY _ _ _),by
  exact ⟨_,vs,rfl,oJ (φ.live _ (φ.mono' i T1)),⟨_,au _ rfl,rfl,_,rfl⟩,T4.keep (mz (mY TZ _ TZ.toks))⟩⟩) λz z e=>e)
structure Tr (prog:aH) (w:av) (φ:Fs) (e:Expr) (b:Bool):Prop where
 run: ∀s:aq,φ.I s.heap->aC (aI prog w) φ.A (isTrue e φ.env (bJ e φ.env)) (λc s'=>bB s s'/\c=b) (λz z=>False) s
def tS (prog:aH) (w:av) (A:aX) (X:List aF) (p:PV) (b:Bool):Prop:=
 ∀(s:aq) (v:ay),mO X s.heap p v->aC (aI prog w) A (truthy v) (λc s'=>bB s s'/\c=b) (λz z=>False) s
theorem mX (hl:Ev prog w φ l p) (hr:Ev prog w φ r q) (ho:n0 prog w φ.A φ.X (bP op) p q (.bool b))
  (hm:autoParam (lu op r=false) XX):Tr prog w φ (.Compare l [op] [r] pos) b:=.mk λs i=>
 wpAny_isTrue_Compare1 (ab (hl.run s i) (λa TZ uu=>eA uu λT1 T4=>ab (hr.run TZ (φ.mono' i T1)) (λc T2 uu=>eA uu λT3 Ug=>
  ab (ho T2 a c (φ.live _ (φ.mono' i (mG T1 T3))) (T4.keep (mz T3)) Ug) (λv T9 uu=>eA uu λUb Ui=>by
   subst Ui
   exact fO ⟨mG T1 (mG T3 Ub),rfl⟩) λz z e=>e) λz z e=>e) λz z e=>e) hm
theorem rm (h:Ev prog w φ e p) (t:tS prog w φ.A φ.X p b)
  (he:autoParam (isTrue e φ.env (bJ e φ.env)=(do let v <-bJ e φ.env;iu e.pos;gV [v] (truthy v))) XZ):Tr prog w φ e b:=.mk λs i=>
 jB (ab (h.run s i) (λv TZ uu=>eA uu λT1 T4=>ab (t TZ v T4) (λc T2 uu=>eA uu λT3 e=>⟨mG T1 T3,e⟩) λz z e=>e) λz z e=>e) he
theorem vc (h:Tr prog w φ x b):Tr prog w φ (.UnaryOp .Not x pos) (!b):=.mk λs i=>
 wpAny_isTrue_Not (ab (h.run s i) (λc s' uu=>eA uu λk e=>⟨k,by rw [e]⟩) λz z e=>e)
structure xr (prog:aH) (w:av) (φ:Fs) (op:BoolOp) (es:List Expr) (b:Bool):Prop where
 run: ∀s:aq,φ.I s.heap->aC (aI prog w) φ.A (allTrue op es φ.env) (λc s'=>bB s s'/\c=b) (λz z=>False) s
theorem A9 (h:xr prog w φ op es b):Tr prog w φ (.BoolOp op es pos) b:=.mk λs i=>wpAny_isTrue_BoolOp (h.run s i)
theorem CY:xr prog w φ .And [] ai:=.mk λs z=>wpAny_allTrue_And_nil ⟨mN _,rfl⟩
theorem Lq:xr prog w φ .Or [] false:=.mk λs z=>wpAny_allTrue_Or_nil ⟨mN _,rfl⟩
theorem rC (hx:Tr prog w φ x a) (hs:a=ai->xr prog w φ .And es b):xr prog w φ .And (x::es) (a&&b):=.mk λs i=>
 wpAny_allTrue_And_cons (ab (hx.run s i) (λc TZ uu=>eA uu λk e=>by
  subst e
  cases c with
  |false=>exact ⟨k,rfl⟩
  |true=>exact ab ((hs rfl).run TZ (φ.mono' i k)) (λc T2 uu=>eA uu λk' e'=>⟨mG k k',by rw [e'];rfl⟩) λz z e=>e) λz z e=>e)
theorem Dz (hx:Tr prog w φ x a) (hs:a=false->xr prog w φ .Or es b):xr prog w φ .Or (x::es) (a||b):=.mk λs i=>
 iP (ab (hx.run s i) (λc TZ uu=>eA uu λk e=>by
  subst e
  cases c with
  |true=>exact ⟨k,rfl⟩
  |false=>exact ab ((hs rfl).run TZ (φ.mono' i k)) (λc T2 uu=>eA uu λk' e'=>⟨mG k k',by rw [e'];rfl⟩) λz z e=>e) λz z e=>e)
theorem DR (ht:Tr prog w φ t c) (hb:c=ai->Ev prog w φ b p) (ho:c=false->Ev prog w φ o p):Ev prog w φ (.IfExp t b o pos) p:=.mk λs i=>
 wpAny_IfExp (ab (ht.run s i) (λd TZ uu=>eA uu λk e=>by
  subst e
  cases d with
  |true=>exact ab ((hb rfl).run TZ (φ.mono' i k)) (λc T2 uu=>eA uu λk' e'=>⟨mG k k',e'⟩) λz z e=>e
  |false=>exact ab ((ho rfl).run TZ (φ.mono' i k)) (λc T2 uu=>eA uu λk' e'=>⟨mG k k',e'⟩) λz z e=>e) λz z e=>e)
theorem CC (hx:Ev prog w φ x p) (t:tS prog w φ.A φ.X p a) (hy:a=ai->Ev prog w φ y q) (hr:r=if a then q else p):
  Ev prog w φ (.BoolOp .And [x,y] pos) r:=.mk λs i=>
 wpAny_And2 (ab (hx.run s i) (λv TZ uu=>eA uu λT1 T4=>ab (t TZ v T4) (λc T2 uu=>eA uu λT3 e=>by
  subst e
  cases c with
  |true=>subst hr;exact ab ((hy rfl).run T2 (φ.mono' i (mG T1 T3))) (λz z uu=>eA uu λUb Ui=>⟨mG T1 (mG T3 Ub),Ui⟩) λz z e=>e
  |false=>subst hr;exact ⟨mG T1 T3,T4.keep (mz T3)⟩) λz z e=>e) λz z e=>e)
def nA (s s':aq):Prop:= ∃h' tk,s'={s with heap:=h',toks:=tk}
theorem nA.trans (a:nA s s') (b:nA s' Vo):nA s Vo:=by
 obtain ⟨h,t,rfl⟩:=a;obtain ⟨h',t',rfl⟩:=b;exact ⟨h',t',rfl⟩
theorem nA.rfl' (s:aq):nA s s:=⟨_,_,rfl⟩
theorem nA.of (k:bB s s'):nA s s':=let ⟨h,t,e,_⟩:=k;⟨h,t,e⟩
structure Tl (prog:aH) (w:av) (I:aW->Prop) (env:Env) (A:aX) (b:List ef) (J:hG->aW->Prop):Prop where
 run: ∀s:aq,I s.heap->aC (aI prog w) A (iA b env) (λfl s'=>nA s s'/\J fl s'.heap) (λz z=>False) s
abbrev mS (prog:aH) (w:av) (env:Env) (A:aX) (I:aW->Prop) (b:List ef) (J:hG->aW->Prop):Prop:=Tl prog w I env A b J
section
variable {env:Env} {A:aX} {I I':aW->Prop} {J:hG->aW->Prop}
theorem sD (h: ∀g,I g->J .next g):mS prog w env A I [] J:=.mk λs i=>iG ⟨nA.rfl' s,h _ i⟩
theorem qQ {st:ef} (h: ∀s:aq,I s.heap->aC (aI prog w) A (exec st env) (λfl s'=>nA s s'/\match fl with|.next=>I' s'.heap|f=>J f s'.heap) (λz z=>False) s)
  (hb:mS prog w env A I' b J):mS prog w env A I (st::b) J:=.mk λs i=>by
 rw [ch]
 refine ae (ab (h s i) (λfl TZ uu=>eA uu λe j=> ?_) λz z e=>e)
 cases fl with
 |next=>exact ab (hb.run TZ j) (λfl' T2 uu=>eA uu λe' j'=>⟨e.trans e',j'⟩) λz z e=>e
 |brk=>exact aj ⟨e,j⟩
 |cont=>exact aj ⟨e,j⟩
 |ret v=>exact aj ⟨e,j⟩
theorem EW: ∀(b:List ef) (p:Pos) (s:aq),
  iV M Γ (iA b env) (λfl p' s'=>match fl with|.next=>iV M Γ (iA c env) Q E p' s'|f=>Q f p' s') E p s->iV M Γ (iA (b++c) env) Q E p s
 |[],_,_,h=>by rw [execs_nil] at h;simpa using h
 |st::b,p,s,h=>by
  rw [bx,ch,dh]
  rw [ch,dh] at h
  refine cf M Γ _ (λfl V8 TZ Ua=> ?_) (λz z z e=>e) _ _ h
  cases fl with
  |next=>exact EW b V8 TZ Ua
  |brk=>simpa using Ua
  |cont=>simpa using Ua
  |ret v=>simpa using Ua
theorem uF: ∀(b:List ef) (p:Pos) (s:aq),
  iV M Γ (iA (b++c) env) Q E p s->iV M Γ (iA b env) (λfl p' s'=>iV M Γ (match fl with|.next=>iA c env|f=>bG f) Q E p' s') E p s
 |[],_,_,h=>by rw [execs_nil];simpa using h
 |st::b,p,s,h=>by
  rw [bx,ch,dh] at h
  rw [ch,dh]
  refine cf M Γ _ (λfl V8 TZ Ua=> ?_) (λz z z e=>e) _ _ h
  cases fl with
  |next=>exact uF b V8 TZ Ua
  |brk=>simpa using Ua
  |cont=>simpa using Ua
  |ret v=>simpa using Ua
theorem HA (h:mS prog w env A I b (λfl g=>match fl with|.next=>I' g|f=>J f g)) (hc:mS prog w env A I' c J):mS prog w env A I (b++c) J:=.mk λs i Γ p hΓ=>by
 refine EW b p s (cf _ Γ _ (λfl V8 TZ Ua=> ?_) (λz z z e=>e) _ _ (h.run s i Γ p hΓ))
 refine eA Ua λe j=> ?_
 cases fl with
 |next=>exact cf _ Γ _ (λfl' UN T2 ⟨e',j'⟩=>⟨e.trans e',j'⟩) (λz z z e=>e) _ _ (hc.run TZ j Γ V8 hΓ)
 |brk=>exact ⟨e,j⟩
 |cont=>exact ⟨e,j⟩
 |ret v=>exact ⟨e,j⟩
theorem s9 {J':hG->aW->Prop} (h:mS prog w env A I' b J) (hi: ∀g,I g->I' g) (hj: ∀f g,J f g->J' f g):mS prog w env A I b J':=.mk λs i=>
 ab (h.run s (hi _ i)) (λfl s' uu=>eA uu λe j=>⟨e,hj _ _ j⟩) λz z e=>e
end
end
abbrev mW:=List (Str×PV)
structure Sc where
 env:Env
 A:aX
 g:aW
 own:List aF
 X0:List aF
noncomputable def Sc.X (c:Sc):List aF:=c.own++c.X0
noncomputable def Sc.at (c:Sc) (g:aW):Sc:={c with g:=g}
structure In (c:Sc) (σ:mW) (Λ:List (aF×List PV)) (h:aW):Prop where
 keep:mT c.g h
 fresh: ∀a∈c.own,c.g.get? a=az
 live:n6 c.own h
 liveX:n6 c.X0 h
 locOwn:c.env.locals∈c.own
 loc: ∃m,h.Ns c.env.locals m/\ ∀x p,c.env.kindOf x=aa .local->σ.lookup x=aa p-> ∃v,m x=aa v/\mO c.X h p v
 cel: ∀x p,(c.env.kindOf x=aa .cell\/(c.env.kindOf x=aa .free/\(x==("__classdict__":Str))=false))->σ.lookup x=aa p-> ∃a v,c.env.cells.lookup x=aa a/\h.IsCell a (aa v)/\mO c.X h p v
 cob: ∀x a,c.env.cells.lookup x=aa a-> ∃v,h.IsCell a v
 kinds: ∀x p,σ.lookup x=aa p->c.env.kindOf x=aa .local\/c.env.kindOf x=aa .cell\/(c.env.kindOf x=aa .free/\(x==("__classdict__":Str))=false)
 lists: ∀q∈Λ,q.1∈c.own/\ ∃vs,h.PlainList q.1 vs.toArray/\mJ c.X h q.2 vs
theorem In.liveAll (i:In c σ Λ h):n6 c.X h:=λa ha=>by
 rcases ar.mp ha with q|q
 ·exact i.live a q
 ·exact i.liveX a q
theorem sN {h:aW} (p:h.PlainList a vs) (n:h.Ns b m):a≠b:=λe=>by
 obtain ⟨_,q⟩:=p
 obtain ⟨o,es,ep,q',d,_⟩:=n
 subst e
 rw [q] at q';obtain rfl:=am q';cases d
theorem qF {h:aW} (p:h.PlainList a vs) (n:h.IsCell b m):a≠b:=λe=>by
 obtain ⟨_,q⟩:=p
 obtain ⟨o,q',d⟩:=n
 subst e
 rw [q] at q';obtain rfl:=am q';cases d
theorem vz {h:aW} (p:h.IsCell a v) (n:h.Ns b m):a≠b:=λe=>by
 obtain ⟨o,q,d⟩:=p
 obtain ⟨o',es,ep,q',d',_⟩:=n
 subst e
 rw [q] at q';obtain rfl:=am q';rw [d] at d';cases d'
theorem In.gen {Vb X':List aF} (i:In c σ Λ h) (kg:mT g' h') (fr: ∀a∈Vb,g'.get? a=az) (lv:n6 Vb h') (lx:n6 X' h') (lo:c.env.locals∈Vb) (ns: ∀m,h.Ns c.env.locals m->h'.Ns c.env.locals m)
  (tr: ∀b o,b≠c.env.locals->h.get? b=aa o->(∃v,o.data= .cell v)->h'.get? b=aa o) (k:Mv c.X (Vb++X') h h')
  (li: ∀q∈Λ',q.1∈Vb/\ ∃vs,h'.PlainList q.1 vs.toArray/\mJ (Vb++X') h' q.2 vs):In ⟨c.env,A',g',Vb,X'⟩ σ Λ' h':=by
 refine mQ i.loc λm n r=> ?_
 have ce: ∀{a v},h.IsCell a v->h'.IsCell a v:=λ⟨o,e,d⟩=>⟨o,tr _ o (vz ⟨o,e,d⟩ n) e ⟨_,d⟩,d⟩
 exact ⟨kg,fr,lv,lx,lo,⟨m,ns m n,λx p a b=>let ⟨v,e,q⟩:=r x p a b;⟨v,e,q.gen k⟩⟩,λx p a b=>let ⟨a,v,e,q,r⟩:=i.cel x p a b;⟨a,v,e,ce q,r.gen k⟩,
  λx a e=>let ⟨v,q⟩:=i.cob x a e;⟨v,ce q⟩,i.kinds,li⟩
theorem In.li {Vb Y:List aF} (i:In c σ Λ h) (ow: ∀a∈c.own,a∈Vb) (t: ∀b o,b≠c.env.locals->b∈c.own->h.get? b=aa o->h'.get? b=aa o) (k:Mv c.X Y h h'): ∀q∈Λ,q.1∈Vb/\ ∃vs,h'.PlainList q.1 vs.toArray/\mJ Y h' q.2 vs:=λq hq=>
 let ⟨a,vs,b,r⟩:=i.lists q hq;⟨ow _ a,vs,b.at λo e=>t _ o (let ⟨_,n,_⟩:=i.loc;sN b n) a e,r.gen k⟩
theorem mT.mv (k:mT h h'):Mv X X h h':=λa o ha e z=>⟨ha,k a o e⟩
theorem In.mono (i:In c σ Λ h) (k:mT h h'):In c σ Λ h':=
 i.gen (i.keep.trans k) i.fresh (i.live.keep k) (i.liveX.keep k) i.locOwn (λm n=>n.at' λo e=>k _ _ e) (λb o z e z=>k b o e) k.mv (i.li (λz h=>h) (λb o z z e=>k b o e) k.mv)
theorem In.weak (i:In c σ Λ h) (k: ∀x p,σ'.lookup x=aa p->σ.lookup x=aa p):In c σ' Λ h where
 keep:=i.keep
 fresh:=i.fresh
 live:=i.live
 liveX:=i.liveX
 locOwn:=i.locOwn
 loc:=let ⟨m,n,r⟩:=i.loc;⟨m,n,λx p a b=>r x p a (k x p b)⟩
 cel:=λx p a b=>i.cel x p a (k x p b)
 cob:=i.cob
 kinds:=λx p b=>i.kinds x p (k x p b)
 lists:=i.lists
theorem MG {σ τ:mW} (h:(σ.all λq=>(τ.lookup q.1).isNone)=ai): ∀x p,σ.lookup x=aa p->(τ++σ).lookup x=aa p:=λx p e=>by
 rw [dX]
 have:τ.lookup x=az:=by
  induction σ with
  |nil=>simp at e
  |cons q σ ih=>
   obtain ⟨y,q⟩:=q
   simp only [iL,bI] at h
   by_cases hy:(x==y)=ai
   ·rw [beq_iff_eq.mp hy];simpa using h.1
   ·simp [aD,hy] at e;exact ih h.2 e
 rw [this,e];rfl
def fs (c:Sc) (σ:mW) (Λ:List (aF×List PV)):Fs:=⟨c.env,c.A,c.X,In c σ Λ,λz z i k=>i.mono k,λz i=>i.liveAll⟩
theorem In.look (i:In c σ Λ h) (e:σ.lookup x=aa p): ∃v,EE c.env h x v/\mO c.X h p v:=by
 rcases i.kinds x p e with k|k|k
 ·refine mQ i.loc λm n r=> ?_
  refine mQ (r x p k e) λv a b=> ?_
  exact ⟨v,.inl ⟨k,m,n,a⟩,b⟩
 ·refine ng (i.cel x p (.inl k) e) λa v q1 q2 q3=> ?_
  exact ⟨v,.inr (.inl ⟨k,a,q1,q2⟩),q3⟩
 ·refine ng (i.cel x p (.inr k) e) λa v q1 q2 q3=> ?_
  exact ⟨v,.inr (.inr ⟨k.1,k.2,a,q1,q2⟩),q3⟩
section
variable {prog:aH} {w:av} {c:Sc} {σ:mW} {Λ:List (aF×List PV)}
theorem nu (e:σ.lookup x=aa p) (hk:autoParam (c.env.scope.kind= .function) XZ) (hd:autoParam ((x==("__debug__":Str))=false) XQ):Ev prog w (fs c σ Λ) (.Name x pos) p:=
 QK hk (λh i=>In.look i e) hd
theorem BD {x:Str} {p:PV} {l:mW}:aD x ((x,p)::l)=aa p:=by simp [aD]
theorem Cw {x y:Str} (h:(x==y)=false) {p:Option PV} {q:PV} {l:mW} (k:aD x l=p):aD x ((y,q)::l)=p:=by simp [aD,h,k]
theorem oH.of_same (hs:cL a h h') (ha:a∈X):oH X h h':=λb o hb e=>by
 rw [hs.2 b (λq=>hb (q▸ha))];exact e
theorem In.store (i:In c σ Λ h) (hx:c.env.kindOf x=aa .local) (n:h.Ns c.env.locals m)
  (hm: ∀x p,c.env.kindOf x=aa .local->σ.lookup x=aa p-> ∃v,m x=aa v/\mO c.X h p v)
  (n':h'.Ns c.env.locals (λy=>if y=x then aa v else m y)) (hs:cL c.env.locals h h') (r:mO c.X h p v):In c ((x,p)::σ) Λ h':=by
 have kx:oH c.X h h':=oH.of_same hs (ax _ i.locOwn)
 have Uz: ∀y q,aD y ((x,p)::σ)=aa q->(y=x/\q=p)\/(y≠x/\σ.lookup y=aa q):=λy q e=>by
  by_cases hy:y=x
  ·subst hy;simp [aD] at e;exact .inl ⟨rfl,e.symm⟩
  ·have:(y==x)=false:=by simpa using hy
   simp [aD,this] at e;exact .inr ⟨hy,e⟩
 have lv: ∀a,(∃o,h.get? a=aa o)-> ∃o,h'.get? a=aa o:=λa uu=>eE uu λo e=>by
  by_cases ha':a=c.env.locals
  ·subst ha';refine wN n' λo z z e z=> ?_;exact ⟨o,e⟩
  ·exact ⟨o,(hs.2 a ha').trans e⟩
 refine ⟨λb o e=> ?_,i.fresh,λa ha=>lv a (i.live a ha),λa ha=>lv a (i.liveX a ha),i.locOwn,⟨_,n',λy q hk e=> ?_⟩,λy q hk e=> ?_,λy a e=>let ⟨u,q⟩:=i.cob y a e;⟨u,q.sameBut hs (vz q n)⟩,λy q e=> ?_,λq hq=> ?_⟩
 ·rw [hs.2 b (λq=>by have:=i.fresh _ i.locOwn;rw [<-q,e] at this;exact tC this)];exact i.keep _ _ e
 ·rcases Uz y q e with ⟨rfl,rfl⟩|⟨hy,e⟩
  ·exact ⟨v,by simp,r.keepX kx⟩
  ·refine mQ (hm y q hk e) λu e' r'=> ?_
   exact ⟨u,by simp [hy,e'],r'.keepX kx⟩
 ·rcases Uz y q e with ⟨rfl,rfl⟩|⟨hy,e⟩
  ·rw [hx] at hk;rcases hk with hk|⟨hk,_⟩<;>cases hk
  ·refine ng (i.cel y q hk e) λa u q1 q2 q3=> ?_
   exact ⟨a,u,q1,q2.sameBut hs (vz q2 n),q3.keepX kx⟩
 ·rcases Uz y q e with ⟨rfl,rfl⟩|⟨hy,e⟩
  ·exact .inl hx
  ·exact i.kinds y q e
 ·refine oV (i.lists q hq) λa vs b r'=> ?_
  exact ⟨a,vs,b.at λo e=>by rw [hs.2 _ (sN b n)];exact e,r'.keepX kx⟩
structure n7 (c:Sc) (x:Str) (a:aF):Prop where
 kind:c.env.kindOf x=aa .cell
 at':c.env.cells.lookup x=aa a
 own:a∈c.own
 only: ∀y,c.env.cells.lookup y=aa a->y=x
def sB (c:Sc) (x:Str):Prop:=c.env.kindOf x=aa .local\/ ∃a,n7 c x a
theorem In.storeC (i:In c σ Λ h) (C:n7 c x a)
  (n':h'.IsCell a (aa v)) (hs:cL a h h') (r:mO c.X h p v):In c ((x,p)::σ) Λ h':=by
 have kx:oH c.X h h':=oH.of_same hs (ax _ C.own)
 obtain ⟨v₀,hc⟩:=i.cob x a C.at'
 have Uz: ∀y q,aD y ((x,p)::σ)=aa q->(y=x/\q=p)\/(y≠x/\σ.lookup y=aa q):=λy q e=>by
  by_cases hy:y=x
  ·subst hy;simp [aD] at e;exact .inl ⟨rfl,e.symm⟩
  ·have:(y==x)=false:=by simpa using hy
   simp [aD,this] at e;exact .inr ⟨hy,e⟩
 have lv: ∀b,(∃o,h.get? b=aa o)-> ∃o,h'.get? b=aa o:=λb uu=>eE uu λo e=>by
  by_cases ha':b=a
  ·subst ha';refine mQ n' λo e j=> ?_;exact ⟨o,e⟩
  ·exact ⟨o,(hs.2 b ha').trans e⟩
 refine ⟨λb o e=> ?_,i.fresh,λa ha=>lv a (i.live a ha),λa ha=>lv a (i.liveX a ha),i.locOwn,?_,λy q hk e=> ?_,λy b e=> ?_,λy q e=> ?_,λq hq=> ?_⟩
 ·rw [hs.2 b (λq=>by have:=i.fresh _ C.own;rw [<-q,e] at this;exact tC this)];exact i.keep _ _ e
 ·refine mQ i.loc λm n hm=> ?_
  refine ⟨m,n.at' λo e=>by rw [hs.2 _ (vz hc n).symm];exact e,λy q hk e=> ?_⟩
  rcases Uz y q e with ⟨rfl,rfl⟩|⟨hy,e⟩
  ·rw [C.kind] at hk;cases hk
  ·refine mQ (hm y q hk e) λu e' r'=> ?_
   exact ⟨u,e',r'.keepX kx⟩
 ·rcases Uz y q e with ⟨rfl,rfl⟩|⟨hy,e⟩
  ·exact ⟨a,v,C.at',n',r.keepX kx⟩
  ·refine ng (i.cel y q hk e) λb u q1 q2 q3=> ?_
   exact ⟨b,u,q1,q2.sameBut hs (λz=>hy (C.only y (z▸q1))),q3.keepX kx⟩
 ·by_cases hb:b=a
  ·subst hb;exact ⟨_,n'⟩
  ·let ⟨u,q⟩:=i.cob y b e;exact ⟨u,q.sameBut hs hb⟩
 ·rcases Uz y q e with ⟨rfl,rfl⟩|⟨hy,e⟩
  ·exact .inr (.inl C.kind)
  ·exact i.kinds y q e
 ·refine oV (i.lists q hq) λb vs q1 r'=> ?_
  exact ⟨b,vs,q1.at λo e=>by rw [hs.2 _ (qF q1 hc)];exact e,r'.keepX kx⟩
theorem rt (i:In c σ Λ s.heap) (hx:sB c x) (r:mO c.X s.heap p v) (hk:c.env.scope.kind= .function):
  aC (aI prog w) A (storeName c.env x v) (λz s'=>nA s s'/\In c ((x,p)::σ) Λ s'.heap/\oH c.own s.heap s'.heap) (λz z=>False) s:=by
 rcases hx with hx|⟨a,C⟩
 ·refine mQ i.loc λm n hm=> ?_
  exact iO hx n (λh' n' hs=>⟨⟨_,_,rfl⟩,i.store hx n hm n' hs r,oH.of_same hs i.locOwn⟩) (by rw [hk];rfl)
 ·refine eE (i.cob x a C.at') λv₀ hc=> ?_
  exact wpAny_storeName_cell hk C.kind C.at' hc λh' n' hs=>⟨⟨_,_,rfl⟩,i.storeC C n' hs r,oH.of_same hs C.own⟩
theorem tV (i:In c σ Λ s.heap) (hx:sB c x) (r:mO c.X s.heap p v) (hk:c.env.scope.kind= .function):
  aC (aI prog w) A (storeName c.env x v) (λz s'=>nA s s'/\In c ((x,p)::σ) Λ s'.heap) (λz z=>False) s:=
 ab (rt i hx r hk) (λz z uu=>rN uu λa b z=>⟨a,b⟩) λz z e=>e
theorem mK (he:Ev prog w (fs c σ Λ) e p) (hb:mS prog w c.env c.A (In c ((x,p)::σ) Λ) b J)
  (hx:autoParam (sB c x) XJ) (hk:autoParam (c.env.scope.kind= .function) XZ) (hs:autoParam (cJ e (aa (.Name x px)) pos.line c.env=bG false) XZ):
  mS prog w c.env c.A (In c σ Λ) (.Assign [.Name x px] e pos::b) J:=
 qQ (I':=In c ((x,p)::σ) Λ) (λs i=>cN (ab (he.run s i) (λv TZ uu=>eA uu λT1 T4=>
  ab (tV (i.mono (mz T1)) hx T4 hk) (λz T2 uu=>eA uu λUD T7=>⟨(nA.of T1).trans UD,T7⟩) λz z e=>e) λz z e=>e) hs) hb
theorem m7 (ht:Tr prog w (fs c σ Λ) t d)
  (hb:d=ai->mS prog w c.env c.A (In c σ Λ) (b++rest) J) (ho:d=false->mS prog w c.env c.A (In c σ Λ) (o++rest) J):
  mS prog w c.env c.A (In c σ Λ) (.If t b o pos::rest) J:=.mk λs i Γ p hΓ=>by
 rw [ch,dh,exec_If]
 simp only [dh,i9]
 refine cf _ Γ _ (λe UN T2 ⟨k,q⟩=> ?_) (λz z z e=>e) _ _ (ht.run s i Γ _ hΓ)
 subst q
 cases e with
 |true=>exact uF b UN T2 (cf _ Γ _ (λfl z T9 ⟨e,j⟩=>⟨(nA.of k).trans e,j⟩) (λz z z e=>e) _ _ ((hb rfl).run T2 (i.mono (mz k)) Γ UN hΓ))
 |false=>exact uF o UN T2 (cf _ Γ _ (λfl z T9 ⟨e,j⟩=>⟨(nA.of k).trans e,j⟩) (λz z z e=>e) _ _ ((ho rfl).run T2 (i.mono (mz k)) Γ UN hΓ))
noncomputable def BI (fl:hG):ay:=match fl with|.ret v=>v|_=>.none
def uy (g:aW) (X:List aF) (p:PV):hG->aW->Prop:=λfl h=>mT g h/\mO X h p (BI fl)
theorem Hl (he:Ev prog w (fs c σ Λ) e p) (hg:mT g c.g:=by exact mT.rfl) (hY: ∀a∈Y,a∈c.X:=by exact λa h=>h):
  mS prog w c.env c.A (In c σ Λ) (.Return (aa e) pos::b) (λfl h=>(∃v,fl= .ret v)/\uy g Y p fl h):=
 .mk λs i=>by
  rw [ch]
  refine ae (jL (ab (he.run s i) (λv TZ uu=>eA uu λT1 T4=> ?_) λz z e=>e))
  exact aj ⟨nA.of T1,⟨v,rfl⟩,hg.trans (i.mono (mz T1)).keep,T4.sub λb hb z=>hY b hb⟩
end
theorem B9 (t:Sem α) (Q:α->Pos->aq->Prop) (p:Pos) (s:aq) (h:iV M Γ t Q E p s):iV M Γ t (λa p' s'=>s.toks<=s'.toks/\Q a p' s') E p s:=
 cf M Γ t (λz z z x=>x) (λz z z x=>x.2) _ _ (Sem.wp_toks M Γ s.toks t Q E p s (aN _) h)
theorem pV {t:Sem α} {Q:α->aq->Prop} (h:aC M A t (λa s'=>s.toks<=s'.toks->Q a s') E s):aC M A t Q E s:=λΓ p hΓ=>
 cf M Γ t (λa p' s' x=>x.2 x.1) (λz z z e=>e) _ _ (B9 t _ p s (h Γ p hΓ))
section
variable {prog:aH} {w:av} {A:aX} {E:ay->aq->Prop} {s:aq}
def tj (A:aX) (prog:aH) (w:av) (f:ay) (s:aq):Prop:= ∀(Q:Keeper->aq->Prop) (E:ay->aq->Prop),(∀k,Q k s)->aC (aI prog w) A (keeperOf f) Q E s
theorem rg {id:String}:tj A prog w (.builtin id) s:=λQ E h=>aj (h _)
theorem ub {id:String}:tj A prog w (.type id) s:=λQ E h=>aj (h _)
theorem rB (ho:s.heap.get? a=aa o) (hd:o.data= .func fd):tj A prog w (.ref a) s:=λQ E h=>by
 refine ae (wpAny_load ho ?_)
 rw [hd]
 exact aj (h _)
theorem nH
  (h:aC (aI prog w) A (evalArgs f ai args Vc) (λa TZ=>tj A prog w f TZ/\aC (aI prog w) A (ft f (first++a.pos) a.kw) Q E TZ) E s):
  aC (aI prog w) A (gI pos f first args Vc) Q E s:=by
 refine ae (bL (ab h (λa TZ uu=>eA uu λhk Ua=>ae (eC (ae (hk _ _ λk=> ?_)))) λz z e=>e))
 have tail: ∀{t:Sem ay},aC (aI prog w) A t Q E TZ->aC (aI prog w) A (t >>= λr=>gV [r] point >>= λz=>bG r) Q E TZ:=
  λht=>ae (ab ht (λr T2 hr=>ae (bL (wpAny_point (aj hr)))) λz z x=>x)
 have mk: ∀{m:ay},aC (aI prog w) A (callMarked m f (first++a.pos) a.kw) Q E TZ:=λ{m} Γ p hΓ=>by
  unfold callMarked;rw [Sem.wp_keep];exact Ua Γ p hΓ
 have op: ∀{l:List ay},aC (aI prog w) A (operate l (ft f (first++a.pos) a.kw)) Q E TZ:=λ{l} Γ p hΓ=>by
  rw [Sem.wp_operate];exact Ua Γ p hΓ
 dsimp only
 split<;>first|exact tail mk|exact tail op|exact tail Ua|(split<;>first|exact tail Ua|exact tail mk)
theorem qo (h:aC (aI prog w) A (spliced (fa pos (aE (e::es) env))) (λvs TZ=>Q ⟨vs,[]⟩ TZ) E s)
  (he:aE (e::es) env=(false,bJ e env)::aE es env):aC (aI prog w) A (evalArgs f ai (fa pos (aE (e::es) env)) []) Q E s:=by
 rw [he] at h ⊢
 exact evalArgs_kw (by rfl) (ab h (λvs TZ Ua=>wpAny_evalAll_nil Ua) λz z e=>e)
theorem v4 (h:Q ⟨[],[]⟩ s):aC (aI prog w) A (evalArgs f ai [] []) Q E s:=
 evalArgs_kw_nil (by rfl) (wpAny_evalAll_nil h)
end
section
variable {prog:aH} {w:av} {c:Sc} {σ:mW} {Λ:List (aF×List PV)}
def HZ (prog:aH) (w:av) (A:aX) (X:List aF) (I:aW->Prop) (f:ay) (ps:List PV) (ks:List (Str×PV)) (p:PV):Prop:=
 ∀(s:aq) (vs us:List ay),I s.heap->n6 X s.heap->mJ X s.heap ps vs->mJ X s.heap (ks.map (·.2)) us->wR prog w A X (ft f vs ((ks.map (·.1)).zip us)) p s
def pR (prog:aH) (w:av) (A:aX) (X:List aF) (I:aW->Prop) (f:ay) (ps:List PV) (p:PV):Prop:=
 ∀(s:aq) (vs:List ay),I s.heap->n6 X s.heap->mJ X s.heap ps vs->wR prog w A X (ft f vs []) p s
theorem Cp {id:Str} (hf:Ev prog w (fs c σ Λ) (.Name id np) (.raw f)) (ha:tH prog w (fs c σ Λ) pos (e::es) ps)
  (hk: ∀s:aq,In c σ Λ s.heap->tj c.A prog w f s) (hc:pR prog w c.A c.X (In c σ Λ) f ps p)
  (he:autoParam (aE (e::es) c.env=(false,bJ e c.env)::aE es c.env) XZ):Ev prog w (fs c σ Λ) (.Call (.Name id np) (e::es) [] pos) p:=.mk λs i=>by
 refine cj (ab (hf.run s i) (λv TZ uu=>eA uu λT1 T4=> ?_) λz z e=>e)
 subst T4
 refine nH (qo (ab (ha.run TZ (i.mono (mz T1))) (λvs T2 uu=>eA uu λT3 Ug=> ?_) λz z e=>e) he)
 have T7:=i.mono (mz (mG T1 T3))
 exact ⟨hk _ T7,ab (hc T2 vs T7 T7.liveAll Ug) (λz z uu=>eA uu λUb Ui=>⟨mG T1 (mG T3 Ub),Ui⟩) λz z e=>e⟩
theorem A4: ∀{ns:List Str} {ps:List PV} {vs:List ay},mJ X h ps vs-> ∀(x:Str) (p:PV),(ns.zip ps).reverse.lookup x=aa p-> ∃v,(ns.zip vs).reverse.lookup x=aa v/\mO X h p v
 |[],_,_,_,_,_,e=>by simp at e
 |_::_,[],_,_,_,_,e=>by simp at e
 |n::ns,q::ps,vs,r,x,p,e=>by
  refine ng r ?_;clear r;intro v us T0 a b;obtain rfl:=T0
  simp only [iT,fi,dX] at e ⊢
  cases h1:(ns.zip ps).reverse.lookup x with
  |some q'=>
   rw [h1] at e;simp at e;subst e
   refine mQ (A4 b x _ h1) λu e' r'=> ?_
   exact ⟨u,by rw [e'];rfl,r'⟩
  |none=>
   rw [h1] at e
   have:(ns.zip us).reverse.lookup x=az:=by
    clear e
    have hl:=b.len
    clear a b
    induction ns generalizing ps us with
    |nil=>simp
    |cons m ns ih=>
     cases ps with
     |nil=>simp at hl;subst hl;rfl
     |cons p' ps=>
      cases us with
      |nil=>simp at hl
      |cons u us=>
       simp only [iT,fi,dX,Option.or_eq_none_iff] at h1 ⊢
       refine ⟨ih (ps:=ps) (us:=us) h1.1 (by simpa using hl),?_⟩
       have:=h1.2
       by_cases hm:(x==m)=ai
       ·simp [aD,hm] at this
       ·simp [aD,hm]
   rw [this]
   by_cases hm:(x==n)=ai
   ·simp [aD,hm] at e;subst e;exact ⟨v,by simp [aD,hm],a⟩
   ·simp [aD,hm] at e
end
theorem BL (hx:k x=aa .local): ∀(Uq:List (Str×ay)) (m:Str->Option ay),bindL k Uq m x=(Uq.reverse.lookup x).or (m x)
 |[],m=>by simp [bindL]
 |(n,v)::r,m=>by
  unfold bindL
  rw [BL hx r]
  simp only [fi,dX]
  cases (r.reverse.lookup x) with
  |some _=>simp
  |none=>
   by_cases hn:x=n
   ·subst hn;simp [hx,aD]
   ·have:(x==n)=false:=by simpa using hn
    split<;>simp [aD,this,hn]
theorem BF (hx:k x≠aa .local): ∀(Uq:List (Str×ay)) (m:Str->Option ay),bindC k Uq m x=(Uq.reverse.lookup x).or (m x)
 |[],m=>by simp [bindC]
 |(n,v)::r,m=>by
  unfold bindC
  rw [BF hx r]
  simp only [fi,dX]
  cases (r.reverse.lookup x) with
  |some _=>simp
  |none=>
   by_cases hn:x=n
   ·subst hn;simp [hx,aD]
   ·have:(x==n)=false:=by simpa using hn
    split<;>simp [aD,this,hn]
structure yv (h:aW) (a:aF) (fd:bz) (body:List ef):Prop where
 at': ∃o,h.get? a=aa o/\o.data= .func fd
 lim:h.NoLimit
 code:h.CodeRec fd.code fd.qualname
 body:fd.body= .stmts body
noncomputable def pZ (ns:List Str) (ps:List PV):mW:=(ns.zip ps).reverse
noncomputable def wJ (cs:List (Str×aF)):List aF:=cs.filterMap λz=>cs.lookup z.1
theorem pB:b∈wJ cs↔ ∃n,cs.lookup n=aa b:=by
 unfold wJ
 rw [List.mem_filterMap]
 constructor
 ·rintro ⟨z,_,e⟩;exact ⟨z.1,e⟩
 ·rintro ⟨n,e⟩;exact ⟨(n,b),mem_of_lookup e,e⟩
def G8 (fd:bz) (L:aF):List aF:=wJ (bu (L+1) fd.scope.names [])
def mU (fd:bz) (a:aF) (A:aX) (X M:List aF) (g:aW) (L:aF):Sc:=⟨bf fd L a,A.deeper (bf fd L a),g,L::(G8 fd L++M),X⟩
theorem Db (e:(pZ ns ps).lookup x=aa p):x∈ns:=by
 have: ∀(l:List (Str×PV)),l.lookup x=aa p-> ∃q∈l,q.1=x:=by
  intro l
  induction l with
  |nil=>intro e;simp at e
  |cons q l ih=>
   intro e
   obtain ⟨y,q⟩:=q
   by_cases hy:(x==y)=ai
   ·exact ⟨_,.head _,(beq_iff_eq.mp hy).symm⟩
   ·simp [aD,hy] at e
    refine mQ (ih e) λq' m e'=> ?_
    exact ⟨q',.tail _ m,e'⟩
 obtain ⟨q,m,rfl⟩:=this _ e
 exact (List.of_mem_zip (List.mem_reverse.mp m)).1
theorem nE (h:aW):h.get? h.objs.size=az:=by
 cases e:h.get? h.objs.size with
 |none=>rfl
 |some o=>exact absurd (aR e) (cn _)
theorem n5 {h:aW} (ha:h.objs.size<=a):h.get? a=az:=by
 cases e:h.get? a with
 |none=>rfl
 |some o=>exact absurd (aR e) (i6.mpr ha)
theorem pg (e:h.get? a=az):(hideAll h l).get? a=az:=by
 cases q:(hideAll h l).get? a with
 |none=>rfl
 |some o=>rw [bU _ q] at e;exact tC e
structure A6 (fd:bz) (ns:List Str):Prop where
 ns: ∀x∈ns,fd.scope.names.lookup x=aa .local\/(fd.scope.names.lookup x=aa .cell/\ ∀b,((bu b fd.scope.names []).lookup x).isSome=ai)
 kind:fd.scope.kind= .function
 co:fd.scope.isCoroutine=false
 gen:fd.scope.isGenerator=false
 cl:fd.closure=[]
 gl:fd.globals=bm
 bl:fd.builtins=dg
noncomputable def Sy (l:List (Str×kF)) (x:Str):Bool:=match l.lookup x with
 |some .local=>ai
 |some .cell=>((bu 0 l []).lookup x).isSome
 |_=>false
def JD (fd:bz) (ns:List Str):Bool:=ns.all (Sy fd.scope.names)&&(match fd.scope.kind with
 |.function=> !(fd.scope.isCoroutine||fd.scope.isGenerator)&&(fd.closure.isEmpty&&(bN fd.globals bm&&bN fd.builtins dg))
 |_=>false)
theorem yN (x:Str): ∀(l:List (Str×kF)) {p q:List (Str×aF)} (a b:Nat),(p.lookup x).isSome=(q.lookup x).isSome->((bu a l p).lookup x).isSome=((bu b l q).lookup x).isSome
 |[],_,_,_,_,h=>h
 |(n,k)::r,p,q,a,b,h=>by
  unfold bu
  split
  ·refine yN x r _ _ ?_
   cases e:x==n<;>simp [aD,e,h]
  ·exact yN x r a b h
theorem vV (h:JD fd ns=ai):A6 fd ns:=by
 have h:=aP.mp h
 have h2:=h.2
 split at h2
 ·next e=>
  have h2:=aP.mp h2
  have h3:=aP.mp h2.2
  have h4:=aP.mp h3.2
  have h1:=Bool.or_eq_false_iff.mp (Bool.not_eq_true' _▸h2.1)
  refine ⟨λx hx=> ?_,e,h1.1,h1.2,List.isEmpty_iff.mp h3.1,bO h4.1,bO h4.2⟩
  have q:=bq.mp h.1 x hx
  unfold Sy at q
  split at q
  ·next e=>exact .inl e
  ·next e=>exact .inr ⟨e,λb=>(yN x _ b 0 rfl).trans q⟩
  ·exact o8 q
 ·exact o8 h2
theorem wE {K:aq->Prop}
  (d:yv s.heap a fd body) (UG:A.depth<dC) (lx:n6 X s.heap) (lM:n6 M s.heap) (hM: ∀b∈M,b∈X)
  (Uk:aC (aI prog w) A.in1 (ew fd ⟨vs,kw⟩) (λUq TZ=>bB s TZ/\K TZ/\ ∃us,Uq=ns.zip us/\mJ X TZ.heap qs us) (λe s'=>R (.error e) s') s)
  (hΛ: ∀q∈Λ,q.1∈M/\ ∃vs,s.heap.PlainList q.1 vs.toArray/\mJ X s.heap q.2 vs)
  (F:A6 fd ns)
  (h: ∀L TZ T2,bB s TZ->K TZ->bB TZ T2->TZ.toks<=T2.toks->TZ.heap.get? L=az->In (mU fd a A X M (hideAll TZ.heap M) L) (pZ ns qs) Λ T2.heap->aC (aI prog w) (A.deeper (bf fd L a)) (iA body (bf fd L a)) (λfl s'=>R (.ok (.ret (BI fl))) s')
    (λe s'=>aC (aI prog w) (A.deeper (bf fd L a)) (leaving (bf fd L a) e) (λy Vo=>R (.error e) Vo) (λe' Vo=>R (.error e') Vo) s') T2):
  gx (aI prog w) A (.call (.ref a) ⟨vs,kw⟩) R s:=by
 refine mQ d.at' λo ho hdat=> ?_
 refine codeAny_call_function UG ho hdat F.co F.gen d.body d.code ?_
 rw [F.cl]
 refine ab Uk (λUq TZ uu=>HR uu λT1 hK us e T4=> ?_) λy y e=>e
 subst e
 have UX: ∀x∈ns.zip us,fd.scope.names.lookup x.1=aa .local\/(fd.scope.names.lookup x.1=aa .cell/\((bu (TZ.heap.objs.size+1) fd.scope.names []).lookup x.1).isSome=ai):=λx hx=>by
  exact (F.ns _ (List.of_mem_zip hx).1).imp id λq=>⟨q.1,q.2 _⟩
 refine pV (wpAny_newFunctionEnv_cells F.kind UX λenv he s' C tk=> ?_)
 subst he
 have T3:bB TZ s':=C.done
 have k:=mG T1 T3
 refine ⟨(d.lim.keeps (mz k)),codeAny_func ?_⟩
 have UW: ∀b,TZ.heap.objs.size<=b->TZ.heap.get? b=az:=λb hb=>n5 hb
 have kind: ∀x,(bf fd TZ.heap.objs.size a).kindOf x=fd.scope.names.lookup x:=λx=>rfl
 have U2: ∀b∈G8 fd TZ.heap.objs.size,TZ.heap.objs.size<b:=λb hb=>by
  obtain ⟨n,e⟩:=pB.mp hb
  exact C.above n b (mem_of_lookup e)
 have sub: ∀b∈(mU fd a A X M (hideAll s.heap M) TZ.heap.objs.size).X,(∃o,TZ.heap.get? b=aa o)->b∈X:=λb hb uu=>eE uu λo e=>by
  rcases ar.mp hb with q|q
  ·rcases ao.mp q with q|q
   ·subst q;rw [nE] at e;exact nB e
   ·rcases ar.mp q with q|q
    ·rw [n5 (Nat.le_of_lt (U2 _ q))] at e;exact nB e
    ·exact hM _ q
  ·exact q
 have k':=mz k
 refine h TZ.heap.objs.size TZ s' T1 hK T3 tk (UW _ (aN _)) {
  keep:=λb o e=>mz T3 b o (bU _ e)
  fresh:=λb hb=>by
   rcases ao.mp hb with q|q
   ·subst q;exact pg (UW _ (aN _))
   ·rcases ar.mp q with q|q
    ·exact pg (UW _ (Nat.le_of_lt (U2 _ q)))
    ·exact dK _ q
  live:=λb hb=>by
   rcases ao.mp hb with q|q
   ·subst q;refine wN C.toInCall.ns λo y y e y=> ?_;exact ⟨o,e⟩
   ·rcases ar.mp q with q|q
    ·obtain ⟨n,e⟩:=pB.mp q
     refine mQ (C.cell n b e) λo e y=> ?_
     exact ⟨o,e⟩
    ·exact (lM.keep k') _ q
  liveX:=lx.keep k'
  locOwn:=.head _
  loc:=⟨_,C.toInCall.ns,λx p hx e=>by
   refine mQ (A4 T4 x p e) λv e' r'=> ?_
   exact ⟨v,(BL hx (ns.zip us) λy=>az).trans (by rw [e'];rfl),mO.keep (mz T3) (r'.sub sub)⟩⟩
  cel:=λx p hx e=>by
   refine mQ (A4 T4 x p e) λv e' r'=> ?_
   have nl:(bf fd TZ.heap.objs.size a).kindOf x≠aa .local:=λq=>by rcases hx with hx|⟨hx,_⟩<;>exact absurd (q.symm.trans hx) (by decide)
   rcases F.ns x (Db e) with q|⟨q,z⟩
   ·exact absurd ((kind x).trans q) nl
   ·refine eE (jR.mp (z (TZ.heap.objs.size+1))) λb hb=> ?_
    refine ⟨b,v,hb,?_,mO.keep (mz T3) (r'.sub sub)⟩
    have e2:=(BF nl (ns.zip us) λz=>az).trans (show _=aa v by rw [e'];rfl)
    have q2:s'.heap.IsCell b (bindC (bf fd TZ.heap.objs.size a).kindOf (ns.zip us) (λz=>az) x):=C.cell x b hb
    rw [e2] at q2
    exact q2
  cob:=λx b e=>⟨_,C.cell x b e⟩
  kinds:=λx p e=>by
   rcases F.ns x (Db e) with q|⟨q,_⟩
   ·exact .inl q
   ·exact .inr (.inl q)
  lists:=λq hq=>by
   refine oV (hΛ q hq) λhm vs p r=> ?_
   exact ⟨.tail _ (aM _ hm),vs,p.at λo e=>k' _ _ e,mJ.keep k' (r.sub λb hb uu=>eE uu λo e=>sub b hb ⟨o,mz T1 _ _ e⟩)⟩}
theorem H2 (k:mT h h') (i:In (mU fd a A X M (hideAll h' M) L) σ Λ Wt):In (mU fd a A X M (hideAll h M) L) σ Λ Wt:=
 have kk:mT (hideAll h M) (hideAll h' M):=λb o e=>bS _ (k b o (bU _ e)) λq=>absurd ((dK M q).symm.trans e) (λz=>nomatch z)
 ⟨kk.trans i.keep,λb hb=>Dr kk (i.fresh b hb),i.live,i.liveX,i.locOwn,i.loc,i.cel,i.cob,i.kinds,i.lists⟩
theorem xz
  (d:yv s.heap a fd body) (UG:A.depth<dC) (lx:n6 X s.heap) (lM:n6 M s.heap) (hM: ∀b∈M,b∈X)
  (Uk:aC (aI prog w) A.in1 (ew fd ⟨vs,kw⟩) (λUq TZ=>bB s TZ/\ ∃us,Uq=ns.zip us/\mJ X TZ.heap qs us) (λe s'=>R (.error e) s') s)
  (hΛ: ∀q∈Λ,q.1∈M/\ ∃vs,s.heap.PlainList q.1 vs.toArray/\mJ X s.heap q.2 vs) (F:A6 fd ns)
  (h: ∀L T2,bB s T2->s.toks<=T2.toks->s.heap.get? L=az->In (mU fd a A X M (hideAll s.heap M) L) (pZ ns qs) Λ T2.heap->aC (aI prog w) (A.deeper (bf fd L a)) (iA body (bf fd L a)) (λfl s'=>R (.ok (.ret (BI fl))) s')
    (λe s'=>aC (aI prog w) (A.deeper (bf fd L a)) (leaving (bf fd L a) e) (λz Vo=>R (.error e) Vo) (λe' Vo=>R (.error e') Vo) s') T2):
  gx (aI prog w) A (.call (.ref a) ⟨vs,kw⟩) R s:=
 wE (K:=λTZ=>s.toks<=TZ.toks) d UG lx lM hM (pV (ab Uk (λz z uu tk=>eA uu λk r=>⟨k,tk,r⟩) λz z e=>e)) hΛ F λL TZ T2 T1 Ve T3 Vn hL i=>
  h L T2 (mG T1 T3) (cg Ve Vn) (Dr (mz T1) hL) (H2 (mz T1) i)
theorem Ff (ns:List Str) {ks:List (Str×PV)}
  (hd: ∀h,I h->yv h a fd body) (UG:A.depth<dC)
  (Uk: ∀(s:aq) (vs us:List ay),I s.heap->mJ X s.heap ps vs->mJ X s.heap (ks.map (·.2)) us->aC (aI prog w) A.in1 (ew fd ⟨vs,(ks.map (·.1)).zip us⟩) (λUq TZ=>bB s TZ/\ ∃us,Uq=ns.zip us/\mJ X TZ.heap qs us) (λz z=>False) s)
  (F:A6 fd ns) (h: ∀g L,I g->n6 X g->mS prog w (bf fd L a) (A.deeper (bf fd L a)) (In (mU fd a A X [] g L) (pZ ns qs) []) body (uy g X p)):HZ prog w A X I (.ref a) ps ks p:=by
 intro s vs us i lx r r'
 refine ei (xz (M:=[]) (ns:=ns) (qs:=qs) (Λ:=[]) (hd _ i) UG lx (λz h=>nomatch h) (λz h=>nomatch h) (ab (Uk s vs us i r r') (λz z h=>h) λz z e=>e.elim) (λz h=>nomatch h) F λL T2 k z z T7=> ?_)
 refine ab ((h s.heap L i lx).run T2 T7) (λfl s' ⟨⟨h',tk,e⟩,kk,rr⟩=> ?_) λz z e=>e.elim
 subst e
 refine oU k ?_;clear k;intro Ut Vn T0 T3;obtain rfl:=T0
 exact ⟨⟨h',tk,rfl,kk⟩,rr⟩
theorem GM (ns:List Str)
  (hd: ∀h,I h->yv h a fd body) (UG:A.depth<dC)
  (Uk: ∀(s:aq) (vs:List ay),I s.heap->mJ X s.heap ps vs->aC (aI prog w) A.in1 (ew fd ⟨vs,[]⟩) (λUq TZ=>bB s TZ/\ ∃us,Uq=ns.zip us/\mJ X TZ.heap qs us) (λz z=>False) s)
  (F:A6 fd ns) (h: ∀g L,I g->n6 X g->mS prog w (bf fd L a) (A.deeper (bf fd L a)) (In (mU fd a A X [] g L) (pZ ns qs) []) body (uy g X p)):pR prog w A X I (.ref a) ps p:=
 λs vs i lx r=>Ff (ks:=[]) ns hd UG (λs vs us i r z=>Uk s vs i r) F h s vs [] i lx r mJ.nil
theorem xw {ns:List Str} (r:mJ X s.heap ps vs)
  (hb: ∀vs:List ay,vs.length=ps.length->ew fd ⟨vs,[]⟩=bG (ns.zip vs)):
  aC (aI prog w) A (ew fd ⟨vs,[]⟩) (λUq TZ=>bB s TZ/\ ∃us,Uq=ns.zip us/\mJ X TZ.heap ps us) (λz z=>False) s:=by
 rw [hb vs r.len]
 exact aj ⟨mN _,vs,rfl,r⟩
noncomputable abbrev S (l:List Nat):Str:=⟨l.toArray⟩
theorem mV (l:List Nat):(S l).length=l.length:=by simp [fJ]
theorem uP (a b:List Nat):S a++S b=S (a++b):=by
 show Str.append _ _=_
 unfold Str.append;simp
section
variable {prog:aH} {w:av} {A:aX} {X:List aF}
theorem qx (e:i=j):bB s {s with toks:=s.toks+1}/\mO X ({s with toks:=s.toks+1}:aq).heap (.int j) (.int i t):=⟨pf _ _,by exact ⟨_,by rw [e]⟩⟩
theorem va (e:x=y):bB s {s with toks:=s.toks+1}/\mO X ({s with toks:=s.toks+1}:aq).heap (.str y) (.str x t):=⟨pf _ _,by exact ⟨_,by rw [e]⟩⟩
theorem nV:n0 prog w A X (ca .Add) (.int a) (.int b) (.int (a+b)):=λs x y z r q=>by
 obtain ⟨t,rfl⟩:=r;obtain ⟨u,rfl⟩:=q
 exact P.add_int (qx rfl)
theorem nI:n0 prog w A X (ca .Sub) (.int a) (.int b) (.int (a - b)):=λs x y z r q=>by
 obtain ⟨t,rfl⟩:=r;obtain ⟨u,rfl⟩:=q
 exact P.sub_int (qx rfl)
theorem BE (h:IntMulOk a b):n0 prog w A X (ca .Mult) (.int a) (.int b) (.int (a*b)):=λs x y z r q=>by
 obtain ⟨t,rfl⟩:=r;obtain ⟨u,rfl⟩:=q
 exact P.mul_int (qx rfl) h
theorem oX (h:b≠0) (hb:b.natAbs<1073741824):n0 prog w A X (ca .FloorDiv) (.int a) (.int b) (.int (a.fdiv b)):=λs x y z r q=>by
 obtain ⟨t,rfl⟩:=r;obtain ⟨u,rfl⟩:=q
 exact floordiv_int h (qx rfl) (.inl (j0 hb))
theorem oq (h:b≠0):n0 prog w A X (ca .Mod) (.int a) (.int b) (.int (a.fmod b)):=λs x y z r q=>by
 obtain ⟨t,rfl⟩:=r;obtain ⟨u,rfl⟩:=q
 exact mod_int' h (qx rfl)
theorem Iy (hn:0<=n) (hsz:(et a:Int)*n<=2^27):n0 prog w A X (ca .Pow) (.int a) (.int n) (.int (a^n.toNat)):=λs x y z r q=>by
 refine eE r ?_;clear r;intro t T0;obtain rfl:=T0;refine eE q ?_;clear q;intro u T0;obtain rfl:=T0
 exact pow_int hn hsz (qx rfl)
theorem oB:QS prog w A X (unaryOp .USub) (.int a) (.int (-a)):=λs x z r=>by
 obtain ⟨t,rfl⟩:=r
 exact P.neg_int (qx rfl)
theorem rA:n0 prog w A X (bP .Lt) (.int a) (.int b) (.bool (decide (a<b))):=λs x y z r q=>by
 obtain ⟨t,rfl⟩:=r;refine eE q ?_;clear q;intro u T0;obtain rfl:=T0
 exact P.lt_int ⟨mN _,by rfl⟩
theorem yH:n0 prog w A X (bP .LtE) (.int a) (.int b) (.bool (decide (a<=b))):=λs x y z r q=>by
 obtain ⟨t,rfl⟩:=r;refine eE q ?_;clear q;intro u T0;obtain rfl:=T0
 exact P.le_int ⟨mN _,by rfl⟩
theorem za:n0 prog w A X (bP .Gt) (.int a) (.int b) (.bool (decide (a>b))):=λs x y z r q=>by
 obtain ⟨t,rfl⟩:=r;refine eE q ?_;clear q;intro u T0;obtain rfl:=T0
 exact P.gt_int ⟨mN _,by rfl⟩
theorem pY:n0 prog w A X (bP .Eq) (.int a) (.int b) (.bool (a==b)):=λs x y z r q=>by
 obtain ⟨t,rfl⟩:=r;obtain ⟨u,rfl⟩:=q
 exact P.eq_int ⟨mN _,by rfl⟩
theorem ou (h:a.length+b.length<=bn):n0 prog w A X (ca .Add) (.str (S a)) (.str (S b)) (.str (S (a++b))):=λs x y _ r q=>by
 refine eE r ?_;clear r;intro t T0;obtain rfl:=T0;refine eE q ?_;clear q;intro u T0;obtain rfl:=T0
 refine P.add_str ?_
 split
 ·rename_i e
  have:a=[]:=by rw [mV] at e;exact aY.mp (by simpa using e)
  subst this
  exact ⟨mN _,by exact ⟨_,rfl⟩⟩
 ·split
  ·rename_i e
   have:b=[]:=by rw [mV] at e;exact aY.mp (by simpa using e)
   subst this
   exact ⟨mN _,by exact ⟨t,by rw [bK]⟩⟩
  ·refine ⟨?_,va (uP a b)⟩
   rw [uP,mV,af];exact h
theorem sG (h:a.length+b.length<=bn):n0 prog w A X (inplaceOp .Add) (.str (S a)) (.str (S b)) (.str (S (a++b))):=λs x y _ r q=>by
 refine eE r ?_;clear r;intro t T0;obtain rfl:=T0;refine eE q ?_;clear q;intro u T0;obtain rfl:=T0
 refine P.iadd_str ?_
 split
 ·rename_i e
  have:a=[]:=by rw [mV] at e;exact aY.mp (by simpa using e)
  subst this
  exact ⟨mN _,by exact ⟨_,rfl⟩⟩
 ·split
  ·rename_i e
   have:b=[]:=by rw [mV] at e;exact aY.mp (by simpa using e)
   subst this
   exact ⟨mN _,by exact ⟨t,by rw [bK]⟩⟩
  ·refine ⟨?_,va (uP a b)⟩
   rw [uP,mV,af];exact h
theorem sE:n0 prog w A X (inplaceOp .Add) (.int a) (.int b) (.int (a+b)):=λs x y z r q=>by
 obtain ⟨t,rfl⟩:=r;obtain ⟨u,rfl⟩:=q
 exact P.iadd_int (qx rfl)
theorem sY:n0 prog w A X (bP .Eq) (.str (S a)) (.str (S b)) (.bool (a==b)):=λs x y z r q=>by
 obtain ⟨t,rfl⟩:=r;refine eE q ?_;clear q;intro u T0;obtain rfl:=T0
 exact P.eq_str ⟨mN _,by rfl⟩
theorem t7:n0 prog w A X (bP .NotEq) (.str (S a)) (.str (S b)) (.bool (a !=b)):=λs x y z r q=>by
 obtain ⟨t,rfl⟩:=r;refine eE q ?_;clear q;intro u T0;obtain rfl:=T0
 exact P.ne_str ⟨mN _,by rfl⟩
theorem BX (Uv:Expr) (o i:ay): ∃l,subscripted Uv false o i=operate l (getItem o i):=by
 cases Uv with
 |Slice a b c=>cases c<;>exact ⟨_,rfl⟩
 |_=>exact ⟨_,rfl⟩
theorem vH {T id:String} (hT:s.TypeIs o T) (hl:fu (.type T) "__getitem__"=bG (aa (.builtin id)))
  (hg:aC (aI prog w) A (getItem o i) Q E s):aC (aI prog w) A (dS value Uv o i) Q E s:=
 let ⟨_,e⟩:=BX Uv o i;tail_any hT hl hg e
theorem m4 (h0:0<=k) (hp:ps[k.toNat]? =aa p) (hk:k<2^63):n0 prog w A X (dS value Uv) (.list ps) (.int k) p:=λs x y z r q=>by
 refine nh r ?_;clear r;intro a vs T0 ha hl rs;obtain rfl:=T0;obtain ⟨u,rfl⟩:=q
 refine mQ (rs.get hp) λv e rv=> ?_
 exact vH hl.typeIs fP.lookup (wpAny_getItem_list hl h0 hk (by simpa using e) ⟨mN _,rv⟩)
theorem JJ (h0:0<=k) (h:k.toNat<n):jc k n=aa k.toNat:=by
 unfold jc
 rw [if_neg (Int.not_lt.mpr h0)]
 exact if_pos (aP.mpr ⟨decide_eq_true h0,decide_eq_true ((Int.toNat_lt h0).mp h)⟩)
theorem rH (h0:0<=k) (hp:ps[k.toNat]? =aa p) (hk:k<2^63):n0 prog w A X (dS value Uv) (.tup ps) (.int k) p:=λs x y z r q=>by
 refine nh r ?_;clear r;intro a vs T0 ha hl rs;obtain rfl:=T0;obtain ⟨u,rfl⟩:=q
 refine mQ (rs.get hp) λv e rv=> ?_
 have Ud:k.toNat<ps.length:=(aT.mp hp).1
 have hsz:=rs.len
 refine vH hl.typeIs slot_tuple_getitem.lookup (getItem_tuple hl (by exact (mu (.i (.L xJ xB) (.i (.B xB xA) (.L (.g xA) xB))) [] [_,_]) h0 hk) hk (j:=k.toNat) ?_ (by simpa using e) ⟨mN _,rv⟩)
 exact JJ h0 (by rw [bo,hsz];exact Ud)
theorem qL (h0:0<=k) (hp:l[k.toNat]? =aa x) (hk:k<2^63):n0 prog w A X (dS value Uv) (.str (S l)) (.int k) (.str (S [x])):=λs a y z r q=>by
 obtain ⟨t,rfl⟩:=r;obtain ⟨u,rfl⟩:=q
 have Ud:k.toNat<l.length:=(aT.mp hp).1
 refine vH (dR _ _ _) PySem.F.slot_str_getitem.lookup (P.getItem_str ?_ (c:=x) ?_ (va rfl))
 ·simp;exact (mu (.i (.L xJ xA) (.i (.B xA xS) (.a (.L (.g xS) xA) (.B xA xS)))) [] [_]) h0 hk
 ·have:jc k (S l).length=aa k.toNat:=by
   rw [mV];exact JJ h0 Ud
  rw [this];simpa using hp
theorem Hw:pR prog w A X I (.builtin "ord") [.str (S [c])] (.int c):=λs vs z z r=>by
 refine ng r ?_;clear r;intro v us T0 a b;obtain rfl:=T0
 subst b;refine eE a ?_;clear a;intro t T0;obtain rfl:=T0
 exact P.ord_of_char (qx rfl)
theorem Ck {c:Nat} (h:c<=1114111):pR prog w A X I (.builtin "chr") [.int c] (.str (S [c])):=λs vs z z r=>by
 refine ng r ?_;clear r;intro v us T0 a b;obtain rfl:=T0
 subst b;refine eE a ?_;clear a;intro t T0;obtain rfl:=T0
 exact P.chr_of_int (by simp;exact (mu (.i (.l xA (.c 1114111)) (.L (.k xA) (.c 1114111))) [_]) h) (va (by rfl))
end
section
variable {prog:aH} {w:av} {φ:Fs}
theorem nj (hv:Ev prog w φ value p) (hs:Ev prog w φ Uv q) (ho:n0 prog w φ.A φ.X (dS value Uv) p q r):Ev prog w φ (.Subscript value Uv pos) r:=.mk λs i=>
 Subscript_ (ab (hv.run s i) (λa TZ uu=>eA uu λT1 T4=>ab (hs.run TZ (φ.mono' i T1)) (λb T2 uu=>eA uu λT3 Ug=>
  ab (ho T2 a b (φ.live _ (φ.mono' i (mG T1 T3))) (T4.keep (mz T3)) Ug) (λz z uu=>eA uu λUb Ui=>⟨mG T1 (mG T3 Ub),Ui⟩) λz z e=>e) λz z e=>e) λz z e=>e)
end
noncomputable def Sc.addX (c:Sc) (is:List aF):Sc:={c with X0:=is++c.X0}
theorem In.reg (i:In c σ Λ h) (hk:mT g' h) (hf: ∀a∈c.own,g'.get? a=az):In (c.at g') σ Λ h:=
 ⟨hk,hf,i.live,i.liveX,i.locOwn,i.loc,i.cel,i.cob,i.kinds,i.lists⟩
theorem In.unreg (i:In (c.at g') σ Λ h) (hg:mT c.g g') (hf: ∀a∈c.own,c.g.get? a=az):In c σ Λ h:=
 ⟨hg.trans i.keep,hf,i.live,i.liveX,i.locOwn,i.loc,i.cel,i.cob,i.kinds,i.lists⟩
theorem wM (i:In c σ Λ h):mT c.g (hideAll h c.own):=λb o e=>
 bS _ (i.keep b o e) λq=>by rw [i.fresh b q] at e;exact nB e
theorem In.hide (i:In c σ Λ h):In (c.at (hideAll h c.own)) σ Λ h:=
 i.reg (λb o e=>bU _ e) λa ha=>dK _ ha
def M2 (c:Sc) (is:List aF) (h:aW):Prop:= ∀a∈is,a∈c.X0/\a∉c.own/\c.g.get? a=az/\ ∀o,h.get? a=aa o-> ∀v,o.data≠ .cell v
theorem In.turn (i:In c σ Λ h) (hI:M2 c is h) (k:oH is h h') (lv:n6 is h'):In c σ Λ h':=by
 have kX:Mv c.X c.X h h':=λb o nb e z=>⟨nb,k b o (λq=>nb (aM _ (hI b q).1)) e⟩
 have own: ∀b∈c.own,∀o,h.get? b=aa o->h'.get? b=aa o:=λb hb o e=>k b o (λq=>(hI b q).2.1 hb) e
 exact i.gen (λb o e=>k b o (λq=>nomatch (hI b q).2.2.1.symm.trans e) (i.keep b o e)) i.fresh (λa ha=>let ⟨o,e⟩:=i.live a ha;⟨o,own a ha o e⟩)
  (λa ha=>(gz (a∈is)).elim (lv a) λhb=>let ⟨o,e⟩:=i.liveX a ha;⟨o,k _ _ hb e⟩) i.locOwn (λm n=>n.at' λo e=>own _ i.locOwn o e)
  (λb o z e q2=>k _ _ (λq=>eE q2 λv q2=>(hI _ q).2.2.2 o e v q2) e) kX (i.li (λz h=>h) (λb o z hb e=>own b hb o e) kX)
theorem Au {c:Sc}:a∈(c.addX is).X↔a∈is++c.X:=by
 simp only [Sc.addX,Sc.X,ar]
 constructor
 ·rintro (h|h|h)
  ·exact .inr (.inl h)
  ·exact .inl h
  ·exact .inr (.inr h)
 ·rintro (h|h|h)
  ·exact .inr (.inl h)
  ·exact .inl h
  ·exact .inr (.inr h)
theorem In.turnUn (i:In (c.addX is) σ Λ h) (hI:M2 (c.addX is) is h) (hX: ∀a∈is,a∉c.X0) (k:oH is h h'):In c σ Λ h':=by
 have kX:Mv (c.addX is).X c.X h h':=λb o nb e z=>⟨λq=>nb (Au.mpr (aM _ q)),k b o (λq=>nb (aM _ (hI b q).1)) e⟩
 have own: ∀b∈c.own,∀o,h.get? b=aa o->h'.get? b=aa o:=λb hb o e=>k b o (λq=>(hI b q).2.1 hb) e
 exact i.gen (λb o e=>k b o (λq=>nomatch (hI b q).2.2.1.symm.trans e) (i.keep b o e)) i.fresh (λa ha=>let ⟨o,e⟩:=i.live a ha;⟨o,own a ha o e⟩)
  (λa ha=>let ⟨o,e⟩:=i.liveX a (aM _ ha);⟨o,k _ _ (λq=>hX a q ha) e⟩) i.locOwn (λm n=>n.at' λo e=>own _ i.locOwn o e)
  (λb o z e q2=>k _ _ (λq=>eE q2 λv q2=>(hI _ q).2.2.2 o e v q2) e) kX (i.li (λz h=>h) (λb o z hb e=>own b hb o e) kX)
theorem In.apart (i:In c σ Λ h) (k:mT h h') (hn: ∀a∈is,h.get? a=az) (lv:n6 is h'):In (c.addX is) σ Λ h':=
 have kX:Mv c.X (c.addX is).X h h':=λb o nb e z=>⟨λq=>(ar.mp (Au.mp q)).elim (λq=>nomatch (hn b q).symm.trans e) nb,k b o e⟩
 i.gen (i.keep.trans k) i.fresh (i.live.keep k) (λa ha=>(ar.mp ha).elim (lv a) (i.liveX.keep k a)) i.locOwn (λm n=>n.at' λo e=>k _ _ e) (λb o z e z=>k b o e) kX (i.li (λz h=>h) (λb o z z e=>k b o e) kX)
structure PC (prog:aH) (w:av) (A:aX) (X:List aF) (UE:aW) (T6:Expr) (I:aF) (is:List aF) (Uf:List PV) (St:Nat->aW->Prop):Prop where
 item: ∀i p (s:aq) (Y:List aF),Uf[i]? =aa p->St i s.heap->n6 Y s.heap->(∀b∈Y,(∃o,UE.get? b=aa o)->b∈X)->aC (aI prog w) A (lV (.ref I)) (λr TZ=> ∃v,r=aa v/\aC (aI prog w) A (cS T6 (.ref I) v)
  (λz T2=>nA s T2/\oH is s.heap T2.heap/\St (i+1) T2.heap/\mO Y T2.heap p v) (λz z=>False) TZ) (λz z=>False) s
 done: ∀(s:aq),St Uf.length s.heap->aC (aI prog w) A (lV (.ref I)) (λr TZ=>r=az/\nA s TZ/\oH is s.heap TZ.heap) (λz z=>False) s
 frame: ∀i h h',St i h->mT UE h'->(∀a∈is,∀o,h.get? a=aa o->h'.get? a=aa o)->St i h'
 keep: ∀i h,St i h->mT UE h
 self: ∀i (s:aq) (Q:ay->aq->Prop) (E:ay->aq->Prop),St i s.heap->Q (.ref I) s->aC (aI prog w) A (pyIter (.ref I)) Q E s
 obj: ∀i h,St i h-> ∀a∈is,∃o,h.get? a=aa o/\ ∀v,o.data≠ .cell v
section
variable {prog:aH} {w:av} {c:Sc} {σ:mW} {Λ:List (aF×List PV)}
structure uv (prog:aH) (w:av) (c:Sc) (σ:mW) (Λ:List (aF×List PV)) (own:List aF) (T6 iter:Expr) (Uf:List PV):Prop where
 run: ∀s:aq,In c σ Λ s.heap->aC (aI prog w) c.A (bJ iter c.env) (λx s'=>aC (aI prog w) c.A (pyIter x) (λit T2=> ∃TZ I is St,it= .ref I/\
  PC prog w c.A c.X (hideAll TZ.heap own) T6 I is Uf St/\St 0 T2.heap/\bB s TZ/\bB TZ T2/\(∀a∈is,TZ.heap.get? a=az)) (λz z=>False) s') (λz z=>False) s
def yV (prog:aH) (w:av) (c:Sc) (T6:Expr) (p:PV) (bs:mW):Prop:=
 ∀(σ:mW) (Λ:List (aF×List PV)) (s:aq) (v:ay),In c σ Λ s.heap->mO c.X s.heap p v->aC (aI prog w) c.A (lW T6 c.env v) (λz s'=>nA s s'/\In c (bs++σ) Λ s'.heap/\oH c.own s.heap s'.heap) (λz z=>False) s
theorem nO (hx:autoParam (sB c x) XJ) (hk:autoParam (c.env.scope.kind= .function) XZ):yV prog w c (.Name x px) p [(x,p)]:=λσ Λ s v i r=>
 dM (rt i hx r hk)
theorem Ge {R:Result->aq->Prop} (I:Nat->aq->Prop)
  (Xn: ∀n s,I n s->aC (aI prog w) A (lV it) (λr TZ=>match r with
   |none=>aC (aI prog w) A (iA orelse env) (λf T9=>R (.ok f) T9) (λz z=>False) TZ
   |some v=>aC (aI prog w) A (cS T6 it v) (λz T2=>aC (aI prog w) A (lW T6 env v) (λz T9=>aC (aI prog w) A (iA body env) (λf Ul=>match f with
     |.next|.cont=> ∃m,m<n/\I m Ul
     |.brk=>R (.ok .next) Ul
     |.ret v=>R (.ok (.ret v)) Ul) (λz z=>False) T9) (λz z=>False) T2) (λz z=>False) TZ) (λz z=>False) s)
  (n:Nat) (h:I n s):gx (aI prog w) A (.forLoop T6 it body orelse env) R s:=by
 refine codeAny_loop' rfl I (λn s hI=> ?_) n h
 refine wpAny_noted ?_
 refine ae (eC (ae (wpAny_onRaise (ab (Xn n s hI) (λr TZ Ua=> ?_) λz z e=>e.elim))))
 cases r with
 |none=>exact aj (.inr ⟨rfl,codeAny_block (ab Ua (λz z e=>e) λz z e=>e.elim)⟩)
 |some v=>
  refine ae (ab Ua (λz T2 Ut=>ae (ab Ut (λz T9 Un=>ae (ab Un (λf Ul U9=> ?_) λz z e=>e.elim)) λz z e=>e.elim)) λz z e=>e.elim)
  cases f with
  |next=>exact aj (.inl ⟨rfl,U9⟩)
  |cont=>exact aj (.inl ⟨rfl,U9⟩)
  |brk=>exact aj U9
  |ret v=>exact aj U9
theorem Hh {α:Type} {l:List α} {V:α->PV} {bs:α->mW} (σs:Nat->mW) (Λs:Nat->List (aF×List PV))
  (hi:uv prog w c σ Λ c.own T6 iter (l.map V)) (h0:σs 0=σ) (Xr:Λs 0=Λ) (ha: ∀a is,a∈l->yV prog w (c.addX is) T6 (V a) (bs a))
  (hb: ∀i a g' is,l[i]? =aa a->mT c.g g'->(∀a∈is,c.g.get? a=az)->mS prog w c.env c.A (In ((c.addX is).at g') (bs a++σs i) (Λs i)) body (λfl h=>((fl= .next\/fl= .cont)/\In ((c.addX is).at g') (σs (i+1)) (Λs (i+1)) h)\/((∃v,fl= .ret v)/\J fl h)))
  (hr:mS prog w c.env c.A (In c (σs l.length) (Λs l.length)) rest J) (hs:autoParam (∀x,cO iter c.env x=bG x) X1):
  mS prog w c.env c.A (In c σ Λ) (.For T6 iter body [] pos::rest) J:=by
 refine qQ (I':=In c (σs l.length) (Λs l.length)) (λs i=> ?_) hr
 refine wpAny_For (ab (hi.run s i) (λx z Ua=>ab Ua (λit T2 Ut=> ?_) λz z e=>e) λz z e=>e) hs
 refine Bj Ut ?_;clear Ut;intro WW I is St T0 W st2 UI T1 fresh;obtain rfl:=T0
 have obj:=W.obj
 have T8:=i.mono (mz UI)
 have T3:=mG UI T1
 have gf: ∀a∈is,c.g.get? a=az:=λa ha=>by
  cases e:c.g.get? a with
  |none=>rfl
  |some o=>have:=T8.keep _ _ e;rw [fresh a ha] at this;exact nB this
 have Xd: ∀i h,St i h->M2 (c.addX is) is h:=λj h st a ha=>⟨ax _ ha,λq=>(by let ⟨o,e⟩:=T8.live a q;rw [fresh a ha] at e;exact nB e),gf a ha,λo e=>by
  obtain ⟨o',e',q⟩:=obj j h st a ha;rw [e] at e';obtain rfl:=am e';exact q⟩
 have lvs: ∀i h,St i h->n6 is h:=λj h st a ha=>let ⟨o,e,_⟩:=obj j h st a ha;⟨o,e⟩
 have hY: ∀b∈(c.addX is).X,(∃o,(hideAll WW.heap c.own).get? b=aa o)->b∈c.X:=λb hb uu=>eE uu λo e=>by
  rcases ar.mp (Au.mp hb) with q|q
  ·have:=fresh b q;rw [bU _ e] at this;exact tC this
  ·exact q
 refine Ge (λk s'=> ∃j,j<=l.length/\k=l.length - j/\nA s s'/\In (c.addX is) (σs j) (Λs j) s'.heap/\St j s'.heap) ?_ l.length ⟨0,cx _,rfl,nA.of T3,by rw [h0,Xr];exact T8.apart (mz T1) fresh (lvs _ _ st2),st2⟩
 rintro k s' ⟨j,hj,rfl,ex,ij,st⟩
 by_cases Um:j<l.length
 ·have hl:l[j]? =aa l[j]:=aA Um
  refine ab (W.item j (V l[j]) s' (c.addX is).X (by rw [a7,hl];rfl) st ij.liveAll hY) (λr TZ Ua=> ?_) λz z e=>e
  refine mQ Ua ?_;clear Ua;intro v T0 Ua;obtain rfl:=T0
  refine ab Ua (λz T9 Un=> ?_) λz z e=>e
  refine B4 Un λUJ Ub st3 Ui=> ?_
  have Uh:=ij.turn (Xd _ _ st) Ub (lvs _ _ st3)
  refine ab (ha l[j] is (dm Um) _ _ T9 v Uh Ui) (λz Ul U9=> ?_) λz z e=>e
  refine rN U9 λVr UV Ux=> ?_
  have offo: ∀b o,(hideAll WW.heap c.own).get? b=aa o->b∉c.own:=λb o e q=>by rw [dK _ q] at e;exact nB e
  have isO: ∀a∈is,a∉c.own:=λa ha=>(Xd _ _ st a ha).2.1
  have st4:=W.frame _ _ _ st3 (λb o e=>Ux b o (offo b o e) (W.keep _ _ st3 b o e)) λa ha o e=>Ux a o (isO a ha) e
  refine ab ((hb j l[j] _ is hl (wM (c:=c.addX is) UV) gf).run Ul UV.hide) (λfl UF Vh=> ?_) λz z e=>e
  refine eA Vh λWw Vh=> ?_
  rcases Vh with ⟨Vz,VU⟩|⟨⟨v,rfl⟩,Vh⟩
  case inr=>exact ⟨ex.trans (UJ.trans (Vr.trans Ww)),Vh⟩
  have st5:=W.frame _ _ _ st4 (λb o e=>VU.keep b o (bS _ (W.keep _ _ st4 b o e) (offo b o e))) λa ha o e=>VU.keep a o (bS _ e (isO a ha))
  have V4:In (c.addX is) (σs (j+1)) (Λs (j+1)) UF.heap:=VU.unreg (wM UV) i.fresh
  have qq: ∃m,m<l.length - j/\ ∃j,j<=l.length/\m=l.length - j/\nA s UF/\In (c.addX is) (σs j) (Λs j) UF.heap/\St j UF.heap:=
   ⟨l.length - (j+1),by exact (mu (.i (.b xB xA) (.b (.s xA (.a xB xI)) (.s xA xB))) [_,_]) Um,j+1,Um,rfl,ex.trans (UJ.trans (Vr.trans Ww)),V4,st5⟩
  rcases Vz with rfl|rfl<;>exact qq
 ·have:j=l.length:=by exact (mu (.i (.l xA xB) (.i (.n (.b xA xB)) (.e xA xB))) [_,_]) hj Um
  subst this
  refine ab (W.done s' (by rw [ah];exact st)) (λr TZ Ua=> ?_) λz z e=>e
  refine rN Ua ?_;clear Ua;intro T0 VT T1;obtain rfl:=T0
  exact iG ⟨ex.trans VT,ij.turnUn (Xd _ _ st) (λa ha q=>by let ⟨o,e⟩:=T8.liveX a q;rw [fresh a ha] at e;exact nB e) T1⟩
theorem Dk {ι:Type} (P:ι->Prop) (σs:ι->mW) (Λs:ι->List (aF×List PV)) (m:ι->Nat) (tb:ι->Bool) (U4:ι)
  (h0:P U4) (Xr:σs U4=σ) (h0'':Λs U4=Λ) (ht: ∀i,P i->Tr prog w (fs c (σs i) (Λs i)) test (tb i))
  (hb: ∀i,P i->tb i=ai->mS prog w c.env c.A (In c (σs i) (Λs i)) body (λfl h=>(fl= .next\/fl= .cont)/\ ∃j,P j/\m j<m i/\In c (σs j) (Λs j) h))
  (hr: ∀i,P i->tb i=false->mS prog w c.env c.A (In c (σs i) (Λs i)) rest J):
  mS prog w c.env c.A (In c σ Λ) (.While test body [] pos::rest) J:=by
 refine qQ (I':=λh=> ∃i,P i/\tb i=false/\In c (σs i) (Λs i) h) (λs i=> ?_) (.mk λs uu=>tE uu λi p t q=>(hr i p t).run s q)
 subst Xr h0''
 refine wpAny_While (codeAny_whileLoop (λk s'=> ∃j,P j/\k=m j/\nA s s'/\In c (σs j) (Λs j) s'.heap) ?_ (m U4) ⟨U4,h0,rfl,nA.rfl' s,i⟩)
 rintro k s' ⟨j,pj,rfl,ex,ij⟩
 refine ab ((ht j pj).run s' ij) (λb TZ uu=>eA uu λT1 e=> ?_) λz z e=>e.elim
 subst e
 have T8:=ij.mono (mz T1)
 have ex1:=ex.trans (nA.of T1)
 cases WI:tb j with
 |true=>
  simp only [if_true]
  refine ab ((hb j pj WI).run TZ T8) (λfl T2 Ut=> ?_) λz z e=>e.elim
  refine Rf Ut λUD Vz j' p' lt T7=> ?_
  have qq: ∃k,k<m j/\ ∃j,P j/\k=m j/\nA s T2/\In c (σs j) (Λs j) T2.heap:=⟨_,lt,j',p',rfl,ex1.trans UD,T7⟩
  rcases Vz with rfl|rfl<;>exact qq
 |false=>
  simp only [a9,if_false]
  exact iG ⟨ex1,j,pj,WI,T8⟩
end
section
variable {prog:aH} {w:av}
theorem EK (I:Nat->aq->Prop)
  (Xn: ∀n s,I n s->aC (aI prog w) A (lV it) (λr TZ=>match r with
   |none=>R (.ok .next) TZ
   |some v=>aC (aI prog w) A (cS T6 it v) (λz TZ=>aC (aI prog w) A (lW T6 env v) (λz T2=>
     aC (aI prog w) A (lI VE env) (λok T9=>
      if ok=ai then aC (aI prog w) A (bJ elt env) (λx Ul=>
       aC (aI prog w) A (ft (.builtin "list.append") [Us,x]) (λz UF=> ∃m,m<n/\I m UF) (λz z=>False) Ul) (λz z=>False) T9
      else ∃m,m<n/\I m T9) (λz z=>False) T2) (λz z=>False) TZ) (λz z=>False) TZ) (λz z=>False) s)
  (n:Nat) (h:I n s):
  gx (aI prog w) A (.compLoop (.ListComp elt [⟨T6,iter,VE,0⟩] scope pos) 0 it Us env) R s:=by
 refine codeAny_loop rfl I (λn s hI=> ?_) n h
 show aC _ A ((compTurn (.ListComp elt [⟨T6,iter,VE,0⟩] scope pos) 0 it Us env).onRaise (λx=>do noteFrame x env;theTreesLotGoes x)) _ _ s
 refine wpAny_noted ?_
 rw [compTurn_list]
 refine ae (eC (ae (ab (Xn n s hI) (λr TZ Ua=> ?_) λz z e=>e.elim)))
 cases r with
 |none=>exact aj Ua
 |some v=>
  refine ae (ab Ua (λz TZ Ua=>ae (ab Ua (λz T2 Ut=> ?_) λz z e=>e.elim)) λz z e=>e.elim)
  have h₂':aC (aI prog w) A (iB VE ai λc r=>if r=ai then do let ok <-isTrue c env (bJ c env);bG (lc ok) else bG (lc r)) (λok T9=>
      if ok=ai then aC (aI prog w) A (bJ elt env) (λx Ul=>
       aC (aI prog w) A (ft (.builtin "list.append") [Us,x]) (λz UF=> ∃m,m<n/\I m UF) (λz z=>False) Ul) (λz z=>False) T9
      else ∃m,m<n/\I m T9) (λz z=>False) T2:=λΓ p hΓ=>by
   have:=Ut Γ p hΓ
   unfold lI at this
   simpa using this
  refine ae (ab h₂' (λok T9 Un=> ?_) λz z e=>e.elim)
  cases ok with
  |false=>exact aj ⟨rfl,Un⟩
  |true=>
   exact ae (ae (ab Un (λx Ul U9=>ae (ab U9 (λz UF Vh=>aj (aj ⟨rfl,Vh⟩)) λz z e=>e.elim)) λz z e=>e.elim))
structure zB (prog:aH) (w:av) (φ:Fs) (VE:List Expr) (b:Bool):Prop where
 run: ∀s:aq,φ.I s.heap->aC (aI prog w) φ.A (lI VE φ.env) (λc s'=>bB s s'/\c=b) (λz z=>False) s
theorem oa:zB prog w φ [] ai:=.mk λs z=>aj ⟨mN _,rfl⟩
theorem zj (h:Tr prog w φ e b):zB prog w φ [e] b:=.mk λs i=>by
 unfold lI
 simp only [cD,ii,if_true]
 exact ae (ae (ae (ab (h.run s i) (λc s' hc=>aj (aj (aj hc))) λz z e=>e)))
end
section
variable {prog:aH} {w:av} {c:Sc} {σ:mW} {Λ:List (aF×List PV)}
def nk (c:Sc) (scope:Scope) (cl:List (Str×aF)) (C:aF) (g:aW) (T5:List aF):Sc:=
 ⟨iX scope (bu (C+1) scope.names cl) C c.env,c.A,g,C::wJ (bu (C+1) scope.names []),T5++c.X⟩
def vB (cells:List (Str×aF)):List (Str×aF)->Prop
 |[]=>True
 |z::r=>cells.lookup z.1=aa z.2/\vB cells r
theorem vB.mem: ∀{cl:List (Str×aF)},vB cells cl-> ∀z∈cl,cells.lookup z.1=aa z.2
 |_::_,h,_,.head _=>h.1
 |_::_,h,_,.tail _ m=>h.2.mem _ m
theorem pX: ∀(names:List (Str×kF)) (n:Nat) (Us:List (Str×aF)),bu n names Us=bu n names []++Us
 |[],n,Us=>rfl
 |(x,k)::r,n,Us=>by
  unfold bu
  split
  ·rw [pX r _ ((x,n)::Us),pX r _ [(x,n)],aJ];rfl
  ·exact pX r n Us
structure vT (c:Sc) (σ σf:mW) (scope:Scope) (cl:List (Str×aF)):Prop where
 at': ∀x p,σf.lookup x=aa p->σ.lookup x=aa p/\(c.env.kindOf x=aa .cell\/(c.env.kindOf x=aa .free/\(x==("__classdict__":Str))=false))/\
  ∀C,(bu C scope.names cl).lookup x=c.env.cells.lookup x/\((iX scope cl C c.env).kindOf x=aa .cell\/((iX scope cl C c.env).kindOf x=aa .free/\(x==("__classdict__":Str))=false))
theorem nJ:vT c σ [] scope cl:=⟨λx p e=>by simp at e⟩
theorem nZ (h:vT c σ σf scope cl) (h1:σ.lookup x=aa p) (h2:c.env.kindOf x=aa .cell\/(c.env.kindOf x=aa .free/\(x==("__classdict__":Str))=false))
  (h3: ∀C,(bu C scope.names cl).lookup x=c.env.cells.lookup x) (h4: ∀C,((iX scope cl C c.env).kindOf x=aa .cell\/((iX scope cl C c.env).kindOf x=aa .free/\(x==("__classdict__":Str))=false))):vT c σ ((x,p)::σf) scope cl:=⟨λy q e=>by
 by_cases hy:y=x
 ·subst hy;simp [aD] at e;subst e;exact ⟨h1,h2,λC=>⟨h3 C,h4 C⟩⟩
 ·have:(y==x)=false:=by simpa using hy
  simp [aD,this] at e;exact h.at' y q e⟩
theorem PlainList.push' (h:s.heap.PlainList D ys) (hsz:ys.size<=bn):
  aC (aI prog w) A (ft (.builtin "list.append") [.ref D,y]) (λz s'=>nA s s'/\s'.heap.PlainList D (ys.push y)/\cL D s.heap s'.heap) (λz z=>False) s:=
 lK (hsz:=hsz) h λh' hl hs=>⟨⟨_,_,rfl⟩,hl,hs⟩
theorem Ij {code:ay}
  (hQ:Q (newEnv scope s.heap.objs.size globals (bu (s.heap.objs.size+1) scope.names closure) qual func code around builtins) {s with heap:=pushCells (s.heap.push {cls:=.type (if around.isSome then "dict" else "frame"),data:=.dict #[]}) scope.names}):
  aC M A (newFunctionEnv scope globals closure [] qual func code around builtins) Q E s:=by
 simp only [newFunctionEnv]
 refine ae (wpAny_alloc ?_)
 refine ae (wpAny_layCells _ (λname kind cells=>by cases hkc:kind==kF.cell<;>simp [hkc]) _ _ _ _ ?_)
 rw [show ({s with heap:=s.heap.push {cls:=.type (if around.isSome then "dict" else "frame"),data:=.dict #[]}}:aq).heap.objs.size=s.heap.objs.size+1 from cw ..]
 cases around with
 |none=>exact ae (aj (aj hQ))
 |some e=>exact ae (aj (aj hQ))
theorem In.other {h h':aW} (i:In c σ Λ h) (hD:D∈c.X) (hO:D∉c.own) (hc: ∀o,h.get? D=aa o-> ∀v,o.data≠ .cell v) (hg:c.g.get? D=az)
  (k: ∀b o,b≠D->h.get? b=aa o->h'.get? b=aa o) (lv: ∃o,h'.get? D=aa o):In c σ Λ h':=by
 have hD0:D∈c.X0:=(ar.mp hD).elim (λq=>absurd q hO) id
 exact In.turn (is:=[D]) i (λa ha=>by exact (ak.mp ha)▸(⟨hD0,hO,hg,hc⟩)) (λb o nb e=>k b o (λq=>nb (ak.mpr q)) e) (λa ha=>by exact (ak.mp ha)▸lv)
theorem CZ {α:Type} {l:List α} {V:α->PV} {bs:α->mW} (σf:mW) (t:α->Bool) (o:α->PV)
  (hi:uv prog w c σ Λ [] T6 iter (l.map V)) (hc:vT c σ σf scope cl)
  (ha: ∀a C g T5,a∈l->(∀b∈(nk c scope cl C g T5).own,b∉c.X)->yV prog w (nk c scope cl C g T5) T6 (V a) (bs a))
  (ht: ∀a C g T5,a∈l->mT c.g g->(∀b∈(nk c scope cl C g T5).own++T5,c.g.get? b=az)->zB prog w (fs (nk c scope cl C g T5) (bs a++σf) []) VE (t a))
  (he: ∀a C g T5,a∈l->t a=ai->mT c.g g->(∀b∈(nk c scope cl C g T5).own++T5,c.g.get? b=az)->Ev prog w (fs (nk c scope cl C g T5) (bs a++σf) []) elt (o a))
  (hsz:l.length<=bn) (VH: ∀a∈l,(σf.all λq=>((bs a).lookup q.1).isNone)=ai)
  (U8:gK scope c.env=bG cl) (UU:vB c.env.cells cl) (UX:scope.kind= .function) (UQ: ∀y∈scope.names,y.2= .local->scope.names.lookup y.1=aa .local)
  (hs: ∀x,cO iter c.env x=bG x)
  (i:In c σ Λ s.heap)
  (qq: ∀(T9:aq) (C:aF) (v:ay),s.heap.get? C=az->(∃m,T9.heap.Ns C m)->(∀h',cL C T9.heap h'->bB s {T9 with heap:=h'}/\mO c.X h' (.list ((l.filter t).map o)) v)->
   compPost (aI prog w) c.A (λu u=>False) use Q v C (.ok .next) T9):
  aC (aI prog w) c.A (comprehension (.ListComp elt [⟨T6,iter,VE,0⟩] scope pos) scope c.env cp (newList []) false (bJ iter c.env) use) Q (λu u=>False) s:=by
 refine wpAny_comprehension_free (use:=use) rfl hs U8 UX UQ ?_
 refine ab (hi.run s i) (λx u Ua=>ab Ua (λit T2 Ut=> ?_) λu u e=>e.elim) λu u e=>e.elim
 refine Bj Ut ?_;clear Ut;intro TZ I is St T0 W st2 UI T1 fresh;obtain rfl:=T0
 have T8:=i.mono (mz UI)
 have T7:=T8.mono (mz T1)
 refine eH (Ij ?_)
 generalize hD:T2.heap.objs.size=D
 have hC:(T2.heap.push {cls:=.type "list",dict:=az,data:=.seq ([]:List ay).toArray}).objs.size=D+1:=by rw [cw,hD]
 rw [hC]
 simp only [Option.isSome_some,if_true]
 generalize hH:pushCells ((T2.heap.push {cls:=.type "list",dict:=az,data:=.seq ([]:List ay).toArray}).push {cls:=.type "dict",data:=.dict #[]}) scope.names=H
 have kk:mT T2.heap H:=λb o e=>hH▸kj _ _ _ _ (aO _ (aO _ e))
 have VL:=(mz T1).trans kk
 have hDl:H.PlainList D #[]:=⟨_,hH▸kj _ _ _ _ (aO _ (hD▸au _ rfl))⟩
 have hCn:H.Ns (D+1) (λu=>az):=by
  rw [<-hH,<-hC];exact (aW.Ns.new _ (.type "dict")).keeps (kj _ _)
 have ok:=cellsFrom_ok scope.names ((T2.heap.push {cls:=.type "list",dict:=az,data:=.seq ([]:List ay).toArray}).push {cls:=.type "dict",data:=.dict #[]}) (D+2) [] ⟨λu u hm=>(nomatch hm),List.Pairwise.nil⟩ (by rw [cw,hC];exact aN _)
 rw [cw,hC,hH] at ok
 have UW: ∀b,D<=b->T2.heap.get? b=az:=λb hb=>n5 (hD▸hb)
 have above1: ∀b,D<=b->TZ.heap.get? b=az:=λb hb=>by
  cases e:TZ.heap.get? b with
  |none=>rfl
  |some o=>have:=mz T1 _ _ e;rw [UW b hb] at this;exact nB this
 generalize hc':nk c scope cl (D+1) TZ.heap (D::is)=c'
 have Uy: ∀b∈c'.own,D<=b:=λb hb=>by
  rw [<-hc'] at hb
  rcases ao.mp hb with q|q
  ·rw [q];exact ix _
  ·obtain ⟨n,e⟩:=pB.mp q
   exact cg (by exact mu (.l xA (.a xA xM)) [_]) (ok.empty n b (mem_of_lookup e)).2
 have ownX: ∀b∈(nk c scope cl (D+1) TZ.heap (D::is)).own,b∉c.X:=λb hb q=>by
  rw [hc'] at hb
  obtain ⟨o,e⟩:=T7.liveAll _ q
  rw [UW b (Uy b hb)] at e;exact nB e
 have hX: ∀b∈c'.X,b∈c'.own\/b=D\/b∈is\/b∈c.X:=λb hb=>by
  rcases ar.mp hb with q|q
  ·exact .inl q
  ·rw [<-hc'] at q
   rcases ar.mp q with q|q
   ·rcases ao.mp q with q|q
    ·exact .inr (.inl q)
    ·exact .inr (.inr (.inl q))
   ·exact .inr (.inr (.inr q))
 have hX': ∀b∈c.X,b∈c'.X:=λb hb=>by rw [<-hc'];exact aM _ (aM _ hb)
 have isX': ∀b∈is,b∈c'.X:=λb hb=>by rw [<-hc'];exact aM _ (ax _ (.tail _ hb))
 have DX':D∈c'.X:=by rw [<-hc'];exact aM _ (ax _ (.head _))
 have WX: ∀b∈c'.X,(∃o,TZ.heap.get? b=aa o)->b∈c.X:=λb hb uu=>eE uu λo e=>by
  rcases hX b hb with q|q|q|q
  ·rw [above1 b (Uy b q)] at e;exact nB e
  ·rw [above1 b (gh q.symm)] at e;exact nB e
  ·rw [fresh b q] at e;exact nB e
  ·exact q
 have gn: ∀b,TZ.heap.get? b=az->c.g.get? b=az:=λb e=>by
  cases q:c.g.get? b with
  |none=>rfl
  |some o=>have:=T8.keep _ _ q;rw [e] at this;exact nB this
 have hnew: ∀b∈(nk c scope cl (D+1) TZ.heap (D::is)).own++(D::is),c.g.get? b=az:=λb hb=>by
  rw [hc'] at hb
  rcases ar.mp hb with q|q
  ·exact gn b (above1 b (Uy b q))
  ·rcases ao.mp q with q|q
   ·exact gn b (above1 b (gh q.symm))
   ·exact gn b (fresh b q)
 have VG:(c'.env)=iX scope (bu (D+1+1) scope.names cl) (D+1) c.env:=by rw [<-hc'];rfl
 have In₀:In c' σf [] H:={
  keep:=by rw [<-hc'];exact VL
  fresh:=λb hb=>by rw [<-hc'];exact above1 b (Uy b hb)
  live:=λb hb=>by
   rw [<-hc'] at hb
   rcases ao.mp hb with q|q
   ·rw [q];refine wN hCn λo u u e u=> ?_;exact ⟨o,e⟩
   ·obtain ⟨n,e⟩:=pB.mp q
    refine mQ ((ok.empty n b (mem_of_lookup e)).1) λo e u=> ?_
    exact ⟨o,e⟩
  liveX:=λb hb=>by
   rw [<-hc'] at hb
   rcases ar.mp hb with q|q
   ·rcases ao.mp q with q|q
    ·rw [q];obtain ⟨_,e⟩:=hDl;exact ⟨_,e⟩
    ·refine mQ (W.obj _ _ st2 b q) λo e u=> ?_;exact ⟨o,kk _ _ e⟩
   ·exact T7.liveAll.keep kk b q
  locOwn:=by rw [<-hc'];exact .head _
  loc:=⟨_,by rw [VG];exact hCn,λx p hx e=>by
   refine rN (hc.at' x p e) λu u h3=> ?_
   rw [VG] at hx
   rcases (h3 (D+1)).2 with q|⟨q,_⟩
   ·exact absurd (hx.symm.trans q) (by decide)
   ·exact absurd (hx.symm.trans q) (by decide)⟩
  cel:=λx p u e=>by
   refine rN (hc.at' x p e) λh1 h2 h3=> ?_
   refine ng (T8.cel x p h2 h1) λa v q1 q2 q3=> ?_
   refine ⟨a,v,?_,q2.keeps VL,mO.keep VL (q3.sub WX)⟩
   rw [VG]
   exact ((h3 (D+1+1)).1).trans q1
  cob:=λx a e=>by
   rw [VG] at e
   have e:(bu (D+1+1) scope.names cl).lookup x=aa a:=e
   rw [pX] at e
   rcases ar.mp (mem_of_lookup e) with q|q
   ·exact ⟨_,(ok.empty x a q).1⟩
   ·obtain ⟨v,q⟩:=T8.cob x a (UU.mem _ q)
    exact ⟨v,q.keeps VL⟩
  kinds:=λx p e=>by
   refine rN (hc.at' x p e) λu u h3=> ?_
   rw [VG]
   rcases (h3 (D+1)).2 with q|q
   ·exact .inr (.inl q)
   ·exact .inr (.inr q)
  lists:=λq hq=>nomatch hq}
 have st0:St 0 H:=W.frame _ _ _ st2 (λb o e=>kk b o (W.keep _ _ st2 b o e)) λa ha o e=>kk a o e
 have Xd: ∀j h,St j h->M2 c' is h:=λj h st a ha=>⟨(by rw [<-hc'];exact ax _ (.tail _ ha)),(λq=>by
   have:=Uy a q
   obtain ⟨o,e,_⟩:=W.obj _ _ st2 a ha
   rw [UW a this] at e;exact nB e),(by rw [<-hc'];exact fresh a ha),λo e=>by
   obtain ⟨o',e',q⟩:=W.obj j h st a ha;rw [e] at e';obtain rfl:=am e';exact q⟩
 have lvs: ∀i h,St i h->n6 is h:=λj h st a ha=>let ⟨o,e,_⟩:=W.obj j h st a ha;⟨o,e⟩
 have Dis:D∉is:=λq=>by obtain ⟨o,e,_⟩:=W.obj _ _ st2 D q;rw [UW D (aN _)] at e;exact nB e
 have Dc:D∉c'.own:=λq=>by
  rw [<-hc'] at q
  rcases ao.mp q with q|q
  ·exact (mu (.n (.e xA (.a xA xI))) [_]) q
  ·obtain ⟨n,e⟩:=pB.mp q
   have:=(ok.empty n D (mem_of_lookup e)).2
   exact (mu (.n (.l (.a xA xM) xA)) [_]) this
 have ex₀:nA s {T2 with heap:=H}:=(nA.of (mG UI T1)).trans ⟨H,T2.toks,rfl⟩
 have Xj:gx (aI prog w) c.A (.compLoop (.ListComp elt [⟨T6,iter,VE,0⟩] scope pos) 0 (.ref I) (.ref D) c'.env)
   (compPost (aI prog w) c.A (λu u=>False) use Q (.ref D) (D+1)) {T2 with heap:=H}:=by
  refine EK (λk s'=> ∃j,j<=l.length/\k=l.length - j/\nA s s'/\In c' σf [] s'.heap/\(∃vs:List ay,s'.heap.PlainList D vs.toArray/\mJ c'.X s'.heap (((l.take j).filter t).map o) vs)/\St j s'.heap) ?_ l.length
   ⟨0,cx _,rfl,ex₀,In₀,⟨[],hDl,by simpa using mJ.nil⟩,st0⟩
  rintro k s' ⟨j,hj,rfl,ex,ij,⟨vs,hl,hr⟩,st⟩
  by_cases Um:j<l.length
  ·have hjl:l[j]? =aa l[j]:=aA Um
   have ga: ∀b∈c'.X,(∃o,(hideAll TZ.heap []).get? b=aa o)->b∈c.X:=λb hb uu=>eE uu λo e=>WX b hb ⟨o,bU _ e⟩
   refine ab (W.item j (V l[j]) s' c'.X (by rw [a7,hjl];rfl) st ij.liveAll ga) (λr T9 Un=> ?_) λu u e=>e
   refine mQ Un ?_;clear Un;intro v T0 Un;obtain rfl:=T0
   refine ab Un (λu Ul U9=> ?_) λu u e=>e
   refine B4 U9 λVr Ux st4 V9=> ?_
   have UV:=ij.turn (Xd _ _ st) Ux (lvs _ _ st4)
   have hl4:Ul.heap.PlainList D vs.toArray:=hl.at λo e=>Ux _ _ Dis e
   have hr₄:mJ c'.X Ul.heap (((l.take j).filter t).map o) vs:=hr.keepX λb o nb e=>Ux b o (λq=>nb (isX' b q)) e
   have W7:=dm Um
   refine ab (Q:=λu UF=>nA Ul UF/\In c' (bs l[j]++σf) [] UF.heap/\oH c'.own Ul.heap UF.heap) (by
    have:=ha l[j] (D+1) TZ.heap (D::is) W7 ownX σf [] Ul v
    rw [hc'] at this
    have q:=this UV V9
    rw [<-hc'] at q ⊢
    exact q) (λu UF Vh=> ?_) λu u e=>e
   refine rN Vh λWw VU VJ=> ?_
   have hl₅:=hl4.at λo e=>VJ _ _ Dc e
   have hr₅:mJ c'.X UF.heap (((l.take j).filter t).map o) vs:=hr₄.keepX λb o nb e=>VJ b o (λq=>nb (ax _ q)) e
   have ownIs: ∀a∈is,a∉c'.own:=λa ha=>(Xd _ _ st a ha).2.1
   have st5:St (j+1) UF.heap:=W.frame _ _ _ st4 (λb o e=>VJ b o (λq=>by
    have:=above1 b (Uy b q);rw [bU _ e] at this;exact tC this) (W.keep _ _ st4 b o e)) λa ha o e=>VJ a o (ownIs a ha) e
   have V4:(fs (nk c scope cl (D+1) TZ.heap (D::is)) (bs l[j]++σf) []).I UF.heap:=by
    show In (nk c scope cl (D+1) TZ.heap (D::is)) _ _ _
    rw [hc'];exact VU
   have back: ∀{h:aW},In c' (bs l[j]++σf) [] h->In c' σf [] h:=λi=>i.weak (MG (VH _ W7))
   have ht':=(ht l[j] (D+1) TZ.heap (D::is) W7 (i.keep.trans (mz UI)|>λk=>k) hnew).run UF V4
   rw [show (fs (nk c scope cl (D+1) TZ.heap (D::is)) (bs l[j]++σf) []).env=c'.env by rw [hc'];rfl,show (fs (nk c scope cl (D+1) TZ.heap (D::is)) (bs l[j]++σf) []).A=c.A from rfl] at ht'
   have Vz:((l.take (j+1)).filter t).map o=((l.take j).filter t).map o++(if t l[j]=ai then [o l[j]] else []):=by
    rw [dH Um,List.filter_append,bh]
    cases h:t l[j]<;>simp [h]
   refine ab ht' (λb s₆ uu=>eA uu λVV e=> ?_) λu u e=>e
   subst e
   have Wm:=VU.mono (mz VV)
   have ex6:=ex.trans (Vr.trans (Ww.trans (nA.of VV)))
   have hl6:=hl₅.at λo e=>mz VV _ _ e
   have hr6:=mJ.keep (mz VV) hr₅
   have st6:St (j+1) s₆.heap:=W.frame _ _ _ st5 (λb o e=>mz VV _ _ (W.keep _ _ st5 b o e)) λa u o e=>mz VV _ _ e
   cases htj:t l[j] with
   |false=>
    simp only [a9,if_false]
    refine ⟨l.length - (j+1),by exact (mu (.i (.b xB xA) (.b (.s xA (.a xB xI)) (.s xA xB))) [_,_]) Um,j+1,Um,rfl,ex6,back Wm,⟨vs,hl6,?_⟩,st6⟩
    rw [Vz,htj];simpa using hr6
   |true=>
    simp only [if_true]
    have he':=(he l[j] (D+1) TZ.heap (D::is) W7 htj (i.keep.trans (mz UI)) hnew).run s₆ (by
     show In (nk c scope cl (D+1) TZ.heap (D::is)) _ _ _
     rw [hc'];exact Wm)
    rw [show (fs (nk c scope cl (D+1) TZ.heap (D::is)) (bs l[j]++σf) []).env=c'.env by rw [hc'];rfl,show (fs (nk c scope cl (D+1) TZ.heap (D::is)) (bs l[j]++σf) []).A=c.A from rfl,
     show (fs (nk c scope cl (D+1) TZ.heap (D::is)) (bs l[j]++σf) []).X=c'.X by rw [hc'];rfl] at he'
    refine ab he' (λy WB uu=>eA uu λUK Xk=> ?_) λu u e=>e
    have hl7:=hl6.at λo e=>mz UK _ _ e
    have hr7:=mJ.keep (mz UK) hr6
    have i₇:=Wm.mono (mz UK)
    have st7:St (j+1) WB.heap:=W.frame _ _ _ st6 (λb o e=>mz UK _ _ (W.keep _ _ st6 b o e)) λa u o e=>mz UK _ _ e
    have Ud:vs.length<=j:=by rw [hr7.len,ah];exact cg (kR _ _) (by rw [dk];exact mu (.l (.n xA xB) xA) [_,_])
    refine ab (PlainList.push' hl7 (by rw [bo];exact (mu (.i (.l xC xB) (.i (.b xD xC) (.i (.l xA xD) (.l xA xB)))) [_,_,_,_]) hsz Um Ud)) (λu s₈ uu=>rN uu λe₈ hl8 sb=> ?_) λu u e=>e
    have kX:oH c'.X WB.heap s₈.heap:=λb o nb e=>by rw [sb.2 b (λq=>nb (q▸DX'))];exact e
    have kO: ∀b o,b≠D->WB.heap.get? b=aa o->s₈.heap.get? b=aa o:=λb o nb e=>by rw [sb.2 b nb];exact e
    refine ⟨l.length - (j+1),by exact (mu (.i (.b xB xA) (.b (.s xA (.a xB xI)) (.s xA xB))) [_,_]) Um,j+1,Um,rfl,ex6.trans ((nA.of UK).trans e₈),?_,⟨vs++[y],?_,?_⟩,?_⟩
    ·exact back (i₇.other (D:=D) DX' Dc (λo e v=>by obtain ⟨_,q⟩:=hl7;rw [q] at e;obtain rfl:=am e;exact λz=>nomatch z) (by rw [<-hc'];exact above1 D (aN _)) kO (let ⟨_,q⟩:=hl8;⟨_,q⟩))
    ·simpa using hl8
    ·rw [Vz,htj];simp only [if_true]
     exact mJ.append (hr7.keepX kX) (mJ.cons (Xk.keepX kX) mJ.nil)
    ·exact W.frame _ _ _ st7 (λb o e=>kO b o (λq=>by rw [q] at e;have:=above1 D (aN _);rw [bU _ e] at this;exact tC this) (W.keep _ _ st7 b o e)) λa ha o e=>kO a o (λq=>Dis (q▸ha)) e
  ·have:j=l.length:=by exact (mu (.i (.l xA xB) (.i (.n (.b xA xB)) (.e xA xB))) [_,_]) hj Um
   subst this
   refine ab (W.done s' (by rw [ah];exact st)) (λr T9 Un=> ?_) λz z e=>e
   refine rN Un ?_;clear Un;intro T0 UJ Ub;obtain rfl:=T0
   have own3: ∀b∈c'.own,∀o,s'.heap.get? b=aa o->T9.heap.get? b=aa o:=λb hb o e=>Ub b o (λq=>(Xd _ _ st b q).2.1 hb) e
   refine mQ ij.loc λm n z=> ?_
   replace n:=n.at' λo e=>own3 _ ij.locOwn o e
   refine qq T9 (D+1) (.ref D) (by
    cases e:s.heap.get? (D+1) with
    |none=>rfl
    |some o=>have:=mz UI _ _ e;rw [above1 _ (ix _)] at this;exact nB this) ⟨m,by rw [VG] at n;exact n⟩ λh' sb=>⟨?_,?_⟩
   ·refine rR (ex.trans UJ) λUn Vy e=> ?_
    refine ⟨h',Vy,by rw [e],λb o q=> ?_⟩
    have Wr:=mz UI _ _ q
    have hb:b<D:=by
     by_cases hb:D<=b
     ·rw [above1 b hb] at Wr;exact nB Wr
     ·exact jC hb
    show h'.get? b=aa o
    rw [sb.2 b (di (gG hb))]
    have:=ij.keep b o (by rw [<-hc'];exact Wr)
    exact Ub b o (λq=>by rw [fresh b q] at Wr;exact nB Wr) this
   ·have hl₃:T9.heap.PlainList D vs.toArray:=hl.at λo e=>Ub _ _ Dis e
    have W0:mJ c'.X T9.heap (((l.take l.length).filter t).map o) vs:=hr.keepX λb o nb e=>Ub b o (λq=>nb (isX' b q)) e
    have kc:oH c'.X T9.heap h':=λb o nb e=>by rw [sb.2 b (λq=>nb (by rw [q,<-hc'];exact ax _ (.head _)))];exact e
    rw [eI] at W0
    refine ⟨D,vs,rfl,λq=> ?_,?_,(W0.keepX kc).sub λb hb z=>hX' b hb⟩
    ·obtain ⟨o,e⟩:=T7.liveAll D q
     rw [UW D (aN _)] at e;exact nB e
    ·obtain ⟨n',q⟩:=hl₃
     exact ⟨_,(sb.2 D (di (du D))).trans q,rfl,_,rfl⟩
 rw [VG] at Xj
 exact codeAny_compStart_list Xj (W.self 0 _ _ _ st0 Xj)
theorem D1 {α:Type} {l:List α} {V:α->PV} {bs:α->mW} (σf:mW) (t:α->Bool) (o:α->PV)
  (hi:uv prog w c σ Λ [] T6 iter (l.map V)) (hc:vT c σ σf scope cl)
  (ha: ∀a C g T5,a∈l->(∀b∈(nk c scope cl C g T5).own,b∉c.X)->yV prog w (nk c scope cl C g T5) T6 (V a) (bs a))
  (ht: ∀a C g T5,a∈l->mT c.g g->(∀b∈(nk c scope cl C g T5).own++T5,c.g.get? b=az)->zB prog w (fs (nk c scope cl C g T5) (bs a++σf) []) VE (t a))
  (he: ∀a C g T5,a∈l->t a=ai->mT c.g g->(∀b∈(nk c scope cl C g T5).own++T5,c.g.get? b=az)->Ev prog w (fs (nk c scope cl C g T5) (bs a++σf) []) elt (o a))
  (hsz:l.length<=bn) (VH: ∀a∈l,(σf.all λq=>((bs a).lookup q.1).isNone)=ai)
  (U8:gK scope c.env=bG cl) (UU:vB c.env.cells cl) (UX:scope.kind= .function) (UQ: ∀y∈scope.names,y.2= .local->scope.names.lookup y.1=aa .local)
  (hs:autoParam (∀x,cO iter c.env x=bG x) X1):
  Ev prog w (fs c σ Λ) (.ListComp elt [⟨T6,iter,VE,0⟩] scope pos) (.list ((l.filter t).map o)):=.mk λs i=>by
 show aC _ _ (bJ _ c.env) _ _ s
 rw [eval_ListComp]
 exact CZ σf t o hi hc ha ht he hsz VH U8 UU UX UQ hs i λT9 C v hC hm h=>let ⟨m,hm⟩:=hm;⟨m,hm,h⟩
theorem pJ {α:Type} {l:List α} {V:α->PV} {bs:α->mW} (σf:mW) (t:α->Bool) (o:α->PV)
  (hi:uv prog w c σ Λ [] T6 iter (l.map V)) (hc:vT c σ σf scope cl)
  (ha: ∀a C g T5,a∈l->yV prog w (nk c scope cl C g T5) T6 (V a) (bs a))
  (ht: ∀a C g T5,a∈l->mT c.g g->(∀b∈(nk c scope cl C g T5).own++T5,c.g.get? b=az)->zB prog w (fs (nk c scope cl C g T5) (bs a++σf) []) VE (t a))
  (he: ∀a C g T5,a∈l->t a=ai->mT c.g g->(∀b∈(nk c scope cl C g T5).own++T5,c.g.get? b=az)->Ev prog w (fs (nk c scope cl C g T5) (bs a++σf) []) elt (o a))
  (hsz:l.length<=bn) (VH: ∀a∈l,(σf.all λq=>((bs a).lookup q.1).isNone)=ai)
  (U8:gK scope c.env=bG cl) (UU:vB c.env.cells cl) (UX:scope.kind= .function) (UQ: ∀y∈scope.names,y.2= .local->scope.names.lookup y.1=aa .local)
  (hs:autoParam (∀x,cO iter c.env x=bG x) X1):
  Ev prog w (fs c σ Λ) (.ListComp elt [⟨T6,iter,VE,0⟩] scope pos) (.list ((l.filter t).map o)):=
 D1 σf t o hi hc (λa C g T5 h z=>ha a C g T5 h) ht he hsz VH U8 UU UX UQ hs
end
section
variable {prog:aH} {w:av} {c:Sc} {σ:mW} {Λ:List (aF×List PV)}
theorem t8 {UE:aW}
  (W:Walks prog w A I fp wr n P St') (Xa: ∀b∈wr,b∈is) (hfp: ∀b∈fp,b∈is\/ ∃o,UE.get? b=aa o) (hg: ∀b∈is,UE.get? b=az)
  (Xb: ∀i h,St' i h-> ∀a∈is,∃o,h.get? a=aa o/\ ∀v,o.data≠ .cell v) (Ud:n=Uf.length)
  (hP: ∀i p v h Y,Uf[i]? =aa p->P i v->mT UE h->(∀b∈Y,(∃o,UE.get? b=aa o)->b∈X)->mO Y h p v)
  (hgo: ∀i p v (s:aq) (Q:Unit->aq->Prop) (E:ay->aq->Prop),Uf[i]? =aa p->P i v->St' (i+1) s.heap->Q () s->aC (aI prog w) A (cS T6 (.ref I) v) Q E s):
  PC prog w A X UE T6 I is Uf (λi h=>St' i h/\mT UE h):=by
 have keep: ∀{h h':aW},mT UE h->(∀b o,b∉wr->h.get? b=aa o->h'.get? b=aa o)->mT UE h':=λ{h h'} k k' b o e=>
  k' b o (λq=>by rw [hg b (Xa b q)] at e;exact nB e) (k b o e)
 refine ⟨λi p s Y hi st lv hY=> ?_,λs st=> ?_,λi h h' st k ki=>⟨W.frame i h h' st.1 λb hb o e=> ?_,k⟩,λi h st=>st.2,λi s Q E st h=>W.self i s Q E st.1 h,λi h st=>Xb i h st.1⟩
 ·have VO:i<n:=by
   rw [Ud]
   exact (aT.mp hi).1
  refine W.item i s _ _ VO st.1 λv h' tk pv st' k'=>⟨v,rfl,hgo i p v _ _ _ hi pv st' ⟨⟨_,_,rfl⟩,λb o nb e=>k' b o (λq=>nb (Xa b q)) e,⟨st',keep st.2 k'⟩,hP i p v _ Y hi pv (keep st.2 k') hY⟩⟩
 ·subst Ud
  exact W.done s _ _ st.1 λh' tk k'=>⟨rfl,⟨_,_,rfl⟩,λb o nb e=>k' b o (λq=>nb (Xa b q)) e⟩
 ·rcases hfp b hb with q|⟨o',e'⟩
  ·exact ki b q o e
  ·have:=st.2 b o' e'
   rw [e] at this;obtain rfl:=am this
   exact k b o e'
theorem yo {UE:aW} {Uf:List (List PV)}
  (W:WalksT prog w A I fp wr n P St' Mid) (Xa: ∀b∈wr,b∈is) (hfp: ∀b∈fp,b∈is\/ ∃o,UE.get? b=aa o) (hg: ∀b∈is,UE.get? b=az)
  (Xb: ∀i h,St' i h-> ∀a∈is,∃o,h.get? a=aa o/\ ∀v,o.data≠ .cell v) (Ud:n=Uf.length)
  (hP: ∀i p v h Y,Uf[i]? =aa p->P i v->mT UE h->(∀b∈Y,(∃o,UE.get? b=aa o)->b∈X)->mJ Y h p v.toList):
  PC prog w A X UE (.Tuple Vg ek epos) I is (Uf.map .tup) (λi h=>St' i h/\mT UE h):=by
 have keep: ∀{h h':aW},mT UE h->(∀b o,b∉wr->h.get? b=aa o->h'.get? b=aa o)->mT UE h':=λ{h h'} k k' b o e=>
  k' b o (λq=>by rw [hg b (Xa b q)] at e;exact nB e) (k b o e)
 refine ⟨λi p s Y hi st lv hY=> ?_,λs st=> ?_,λi h h' st k ki=>⟨W.frame i h h' st.1 λb hb o e=> ?_,k⟩,λi h st=>st.2,λi s Q E st h=>W.self i s Q E st.1 h,λi h st=>Xb i h st.1⟩
 ·rw [a7] at hi
  refine mQ (dT.mp hi) λps hi' T0=> ?_;obtain rfl:=T0
  clear hi
  have hi:=hi'
  have VO:i<n:=by
   rw [Ud]
   exact (aT.mp hi).1
  refine W.item i s _ _ VO st.1 λT VZ h' tk pv hT tT mid k'=>⟨_,rfl,?_⟩
  refine W.go Vg ek epos i T _ _ _ mid λWt st'' k''=> ?_
  have kk: ∀b o,b∉wr->s.heap.get? b=aa o->Wt.get? b=aa o:=λb o nb e=>k'' b o nb (k' b o nb e)
  have nT:=W.apart i T _ mid
  refine ⟨⟨_,_,rfl⟩,λb o nb e=>kk b o (λq=>nb (Xa b q)) e,⟨st'',keep st.2 kk⟩,?_⟩
  refine HK tT λo e1 e2 m e3=> ?_
  refine ⟨T,VZ.toList,rfl,λq=> ?_,⟨o,k'' T o nT e1,e2,m,by simpa using e3⟩,hP i ps VZ _ Y hi pv (keep st.2 kk) hY⟩
  obtain ⟨o,e⟩:=lv T q
  exact absurd (aR e) (i6.mpr hT)
 ·rw [ah,<-Ud] at st
  exact W.done s _ _ st.1 λh' tk k'=>⟨rfl,⟨_,_,rfl⟩,λb o nb e=>k' b o (λq=>nb (Xa b q)) e⟩
 ·rcases hfp b hb with q|⟨o',e'⟩
  ·exact ki b q o e
  ·have:=st.2 b o' e'
   rw [e] at this;obtain rfl:=am this
   exact k b o e'
theorem o9 {a b:Nat} (h:a<b\/b<a):a≠b:=by exact (mu (.i (.o (.b xA xB) (.b xB xA)) (.n (.e xA xB))) [_,_]) h
theorem mJ.get' {i:Nat} (r:mJ X h ps vs) (e:ps[i]? =aa p) (e':vs.toArray[i]? =aa v):mO X h p v:=by
 obtain ⟨u,q,r'⟩:=r.get e
 rw [kT,q] at e';obtain rfl:=am e';exact r'
theorem so (ho: ∀b∈own,b∈X):oH X h (hideAll h own):=λb o nb e=>bS _ e λq=>nb (ho b q)
theorem qM {h:aW} (e: ∃o,h.get? a=aa o/\o.cls= .type T/\o.data= .fields vs): ∃o,h.get? a=aa o/\ ∀v,o.data≠ .cell v:=
 let ⟨o,e,_,d⟩:=e;⟨o,e,λv q=>by rw [d] at q;cases q⟩
theorem qD (he:Ev prog w (fs c σ Λ) iter (.list ps)) (hh:c.A.handled=az)
  (ht:(∃x px,T6= .Name x px)\/((∃Vg k pos,T6= .Tuple Vg k pos)/\ ∀p∈ps,∃l,p= .tup l)) (ho: ∀b∈own,b∈c.X):uv prog w c σ Λ own T6 iter ps:=.mk λs i=>by
 refine ab (he.run s i) (λx TZ uu=>eA uu λT1 T4=> ?_) λz z e=>e
 refine nh T4 ?_;clear T4;intro a vs T0 ha hl hr;obtain rfl:=T0
 have hr:mJ c.X TZ.heap ps vs:=hr
 have hn:a∉own:=λq=>ha (ho a q)
 refine mQ (id hl) λo e1 e2=> ?_
 have ne:a≠TZ.heap.objs.size:=di (aR e1)
 have T3:=mY TZ {cls:=.type "list_iterator",data:=.fields #[.ref a,.int 0 0]} TZ.toks
 have ga:(hideAll TZ.heap own).get? a=aa o:=bS _ e1 hn
 refine wpAny_pyIter_list hl ⟨TZ,_,[TZ.heap.objs.size],_,rfl,t8 (Walks.list hh TZ.heap.objs.size a ne vs.toArray) (λz h=>h) (λb hb=> ?_) (λb hb=> ?_) (λi h st b hb=> ?_) ?_ (λj p v h Y e1 e2 k hY=> ?_) (λj p v s Q E hj hv st q=> ?_),⟨⟨⟨_,au _ rfl,rfl,rfl⟩,hl.at λo e=>mz T3 _ _ e⟩,?_⟩,T1,T3,λb hb=> ?_⟩
 ·simp at hb
  rcases hb with rfl|rfl
  ·exact .inl (.head _)
  ·exact .inr ⟨o,ga⟩
 ·rw [ak.mp hb];exact pg (nE _)
 ·rw [ak.mp hb];exact qM st.1
 ·rw [bo,hr.len]
 ·exact mO.keep k ((hr.get' e1 e2 |>.keepX (so ho)).sub hY)
 ·rcases ht with ⟨x,px,rfl⟩|⟨⟨Vg,ek,pos,rfl⟩,hp⟩
  ·exact bD (rfl:cS (.Name x px) _ v=bG ()) q
  ·refine eE (hp p (br hj)) λl T0=> ?_;obtain rfl:=T0
   have:=hr.get' hj hv
   refine oU this ?_;clear this;intro T _ T0 _;obtain rfl:=T0
   exact jY st.1 q
 ·exact λb o e=>mz T3 _ _ (bU _ e)
 ·rw [ak.mp hb];exact nE _
theorem Hv (he:Ev prog w (fs c σ Λ) iter (.tup ps)) (hh:c.A.handled=az) (ho: ∀b∈own,b∈c.X):uv prog w c σ Λ own (.Name x px) iter ps:=.mk λs i=>by
 refine ab (he.run s i) (λx TZ uu=>eA uu λT1 T4=> ?_) λz z e=>e
 refine nh T4 ?_;clear T4;intro a vs T0 ha hl hr;obtain rfl:=T0
 have hr:mJ c.X TZ.heap ps vs:=hr
 have hn:a∉own:=λq=>ha (ho a q)
 refine mQ (id hl) λo e1 e2=> ?_
 have ne:a≠TZ.heap.objs.size:=di (aR e1)
 have T3:=mY TZ {cls:=.type "tuple_iterator",data:=.fields #[.ref a,.int 0 0]} TZ.toks
 have ga:(hideAll TZ.heap own).get? a=aa o:=bS _ e1 hn
 refine eo hl ⟨TZ,_,[TZ.heap.objs.size],_,rfl,t8 (kJ hh TZ.heap.objs.size a ne vs.toArray) (λz h=>h) (λb hb=> ?_) (λb hb=> ?_) (λi h st b hb=> ?_) ?_ (λj p v h Y e1 e2 k hY=> ?_) (λj p v s Q E hj hv st q=> ?_),⟨⟨⟨_,au _ rfl,rfl,rfl⟩,aW.IsTuple.at hl λo e=>mz T3 _ _ e⟩,?_⟩,T1,T3,λb hb=> ?_⟩
 ·simp at hb
  rcases hb with rfl|rfl
  ·exact .inl (.head _)
  ·exact .inr ⟨o,ga⟩
 ·rw [ak.mp hb];exact pg (nE _)
 ·rw [ak.mp hb];exact qM st.1
 ·rw [bo,hr.len]
 ·exact mO.keep k ((hr.get' e1 e2 |>.keepX (so ho)).sub hY)
 ·exact bD (rfl:cS (.Name _ px) _ v=bG ()) q
 ·exact λb o e=>mz T3 _ _ (bU _ e)
 ·rw [ak.mp hb];exact nE _
theorem FQ (e:(u.cps.toList.map λk=>PV.str ⟨#[k]⟩)[j]? =aa p) (hv:SignAt u j v):mO X h p v:=by
 obtain ⟨k,t,hk,rfl⟩:=hv
 rw [a7,Array.getElem?_toList,hk] at e
 obtain rfl:=am e
 exact ⟨t,rfl⟩
theorem Pb (he:Ev prog w (fs c σ Λ) iter (.str u)) (hh:c.A.handled=az):uv prog w c σ Λ own (.Name x px) iter (u.cps.toList.map λk=>.str ⟨#[k]⟩):=.mk λs i=>by
 refine ab (he.run s i) (λx TZ uu=>eA uu λT1 T4=> ?_) λz z e=>e
 refine eE T4 ?_;clear T4;intro t T0;obtain rfl:=T0
 have one: ∀b∈[TZ.heap.objs.size],b=TZ.heap.objs.size:=λb hb=>ak.mp hb
 cases ha:u.cps.all (· <128)
 ·have T3:=mY TZ {cls:=.type "str_iterator",data:=.fields #[.str u t,.int 0 0]} TZ.toks
  refine wpAny_pyIter_wide ha ⟨TZ,_,[TZ.heap.objs.size],_,rfl,t8 (Walks.strWide hh TZ.heap.objs.size u t) (λz h=>h) (λb hb=>.inl hb) (λb hb=> ?_) (λi h st b hb=> ?_) ?_ (λj p v h Y e1 e2 k hY=>FQ e1 e2) (λj p v s Q E hj hv st q=>bD (rfl:cS (.Name _ px) _ v=bG ()) q),⟨⟨_,au _ rfl,rfl,rfl⟩,λb o e=>mz T3 _ _ (bU _ e)⟩,T1,T3,λb hb=> ?_⟩
  ·rw [one b hb];exact pg (nE _)
  ·rw [one b hb];exact qM st
  ·simp
  ·rw [one b hb];exact nE _
 ·have T3:=mY TZ {cls:=.type "str_ascii_iterator",data:=.fields #[.str u t,.int 0 0]} TZ.toks
  refine wpAny_pyIter_ascii ha ⟨TZ,_,[TZ.heap.objs.size],_,rfl,t8 (Walks.strAscii hh TZ.heap.objs.size u t) (λz h=>h) (λb hb=>.inl hb) (λb hb=> ?_) (λi h st b hb=> ?_) ?_ (λj p v h Y e1 e2 k hY=>FQ e1 e2) (λj p v s Q E hj hv st q=>bD (rfl:cS (.Name _ px) _ v=bG ()) q),⟨⟨_,au _ rfl,rfl,rfl⟩,λb o e=>mz T3 _ _ (bU _ e)⟩,T1,T3,λb hb=> ?_⟩
  ·rw [one b hb];exact pg (nE _)
  ·rw [one b hb];exact qM st
  ·simp
  ·rw [one b hb];exact nE _
structure FM (prog:aH) (w:av) (φ:Fs) (e:Expr) (T:String) (ps:List PV):Prop where
 run: ∀s:aq,φ.I s.heap-> ∀Q:ay->aq->Prop,(∀s' vs,bB s s'->mJ φ.X s'.heap ps vs->aC (aI prog w) φ.A (ft (.type T) vs) Q (λz z=>False) s')->aC (aI prog w) φ.A (bJ e φ.env) Q (λz z=>False) s
theorem s8 {id:Str} (hf:Ev prog w (fs c σ Λ) (.Name id np) (.raw (.type T))) (ha:tH prog w (fs c σ Λ) pos (e::es) ps)
  (he:autoParam (aE (e::es) c.env=(false,bJ e c.env)::aE es c.env) XZ):FM prog w (fs c σ Λ) (.Call (.Name id np) (e::es) [] pos) T ps:=.mk λs i Q h=>by
 refine cj (ab (hf.run s i) (λv TZ uu=>eA uu λT1 T4=> ?_) λz z e=>e)
 subst T4
 refine nH (qo (ab (ha.run TZ (i.mono (mz T1))) (λvs T2 uu=>eA uu λT3 Ug=> ?_) λz z e=>e) he)
 exact ⟨ub,h T2 vs (mG T1 T3) Ug⟩
theorem y8 {n:Nat}
  (he: ∀s:aq,(fs c σ Λ).I s.heap->aC (aI prog w) c.A (bJ iter c.env) (λv s'=>bB s s'/\ ∃r t u z,v= .ref r/\IsRange s'.heap r a b 1 t u z) (λy y=>False) s)
  (hn:jh a b 1=(n:Int)) (hs:jI a b 1=ai) (hh:c.A.handled=az):uv prog w c σ Λ own (.Name x px) iter ((ag n).map λ(i:Nat)=>.int (a+i)):=.mk λs i=>by
 refine ab (he s i) (λx TZ uu=>eA uu λT1 T4=> ?_) λy y e=>e
 refine QP T4 ?_;clear T4;intro r t u z T0 hr;obtain rfl:=T0
 have one: ∀b∈[TZ.heap.objs.size],b=TZ.heap.objs.size:=λb hb=>ak.mp hb
 have T3:=mY TZ {cls:=.type "range_iterator",data:=.fields #[eO a,eO (jh a b 1),eO 1]} TZ.toks
 refine wpAny_pyIter_range hr hs ⟨TZ,_,[TZ.heap.objs.size],_,rfl,t8 (Walks.range hh TZ.heap.objs.size a 1 n) (λz h=>h) (λb hb=>.inl hb) (λb hb=> ?_) (λi h st b hb=> ?_) ?_ (λj p v h Y e1 e2 k hY=> ?_) (λj p v s Q E hj hv st q=>bD (rfl:cS (.Name _ px) _ v=bG ()) q),⟨?_,λb o e=>mz T3 _ _ (bU _ e)⟩,T1,T3,λb hb=> ?_⟩
 ·rw [one b hb];exact pg (nE _)
 ·rw [one b hb];exact ⟨_,st,λv q=>nomatch q⟩
 ·simp
 ·obtain ⟨t,rfl⟩:=e2
  rw [a7] at e1
  refine mQ (dT.mp e1) λk hk T0=> ?_;obtain rfl:=T0
  have:=aT.mp hk
  refine eE this ?_;clear this;intro _ T0;obtain rfl:=T0
  exact ⟨t,by simp⟩
 ·rw [hn]
  have:=au TZ.heap (o:={cls:=.type "range_iterator",data:=.fields #[eO a,eO n,eO 1]}) rfl
  simpa using this
 ·rw [one b hb];exact nE _
theorem CK (h:FM prog w (fs c σ Λ) e "range" [.int n]): ∀s:aq,(fs c σ Λ).I s.heap->aC (aI prog w) c.A (bJ e c.env) (λv s'=>bB s s'/\ ∃r t u z,v= .ref r/\IsRange s'.heap r 0 n 1 t u z) (λz z=>False) s:=λs i=>
 h.run s i _ λs' vs k r=>by
  refine ng r ?_;clear r;intro v us T0 r q;obtain rfl:=T0
  subst q
  refine eE r ?_;clear r;intro t T0;obtain rfl:=T0
  exact call_range_1 ⟨mG k (mY s' _ _),_,_,_,_,rfl,au _ rfl⟩
theorem J9 (h:FM prog w (fs c σ Λ) e "range" [.int m,.int n]): ∀s:aq,(fs c σ Λ).I s.heap->aC (aI prog w) c.A (bJ e c.env) (λv s'=>bB s s'/\ ∃r t u z,v= .ref r/\IsRange s'.heap r m n 1 t u z) (λz z=>False) s:=λs i=>
 h.run s i _ λs' vs k r=>by
  refine ng r ?_;clear r;intro v us T0 r q;obtain rfl:=T0
  refine ng q ?_;clear q;intro v' Ws T0 r' q;obtain rfl:=T0
  subst q
  refine eE r ?_;clear r;intro t T0;obtain rfl:=T0
  refine eE r' ?_;clear r';intro t' T0;obtain rfl:=T0
  exact call_range_2 ⟨mG k (mY s' _ _),_,_,_,_,rfl,au _ rfl⟩
theorem Me (he:FM prog w (fs c σ Λ) iter "enumerate" [.list ps]) (hh:c.A.handled=az) (ho: ∀b∈own,b∈c.X):
  uv prog w c σ Λ own (.Tuple Vg ek epos) iter ((ps.mapIdx λi p=>[.int i,p]).map .tup):=.mk λs i=>by
 refine he.run s i _ λTZ vs T1 r=> ?_
 refine ng r ?_;clear r;intro v us T0 r q;obtain rfl:=T0
 subst q
 refine nh r ?_;clear r;intro a vs T0 ha hl hr;obtain rfl:=T0
 have hr:mJ c.X TZ.heap ps vs:=hr
 have hn:a∉own:=λq=>ha (ho a q)
 refine mQ (id hl) λo e1 e2=> ?_
 have lt: @kD Nat _ a TZ.heap.objs.size:=aR e1
 have ga:(hideAll TZ.heap own).get? a=aa o:=bS _ e1 hn
 refine call_enumerate_list hl λh' hE hI hz hk=> ?_
 refine wpAny_pyIter_enum hE ?_
 have T3:bB TZ {TZ with heap:=h'}:=⟨h',TZ.toks,rfl,hk⟩
 refine ⟨TZ,_,[TZ.heap.objs.size+1,TZ.heap.objs.size],_,rfl,yo (WalksT.enumerate hh (TZ.heap.objs.size+1) TZ.heap.objs.size a (o9 (by exact mu (.o (.b (.a xA xI) xA) (.b xA (.a xA xI))) [_])) (o9 (by exact (mu (.i (.b xA xB) (.o (.b xA (.a xB xI)) (.b (.a xB xI) xA))) [_,_]) lt)) (o9 (by exact (mu (.i (.b xA xB) (.o (.b xA xB) (.b xB xA))) [_,_]) lt)) vs.toArray) (λy h=>h) (λb hb=> ?_) (λb hb=> ?_) (λi h st b hb=> ?_) ?_ (λj p v h Y e1 e2 k hY=> ?_),
  ⟨⟨⟨_,hE⟩,hI,hl.at (λo e=>hk _ o e)⟩,λb o e=>hk _ _ (bU _ e)⟩,T1,T3,λb hb=> ?_⟩
 ·simp at hb
  rcases hb with rfl|rfl|rfl
  ·exact .inl (.head _)
  ·exact .inl (.tail _ (.head _))
  ·exact .inr ⟨o,ga⟩
 ·simp at hb
  rcases hb with rfl|rfl
  ·exact pg (n5 (by exact mu (.l xA (.a xA xI)) [_]))
  ·exact pg (n5 (by exact mu (.l xA xA) [_]))
 ·simp at hb
  rcases hb with rfl|rfl
  ·obtain ⟨⟨old,q⟩,_⟩:=st;exact ⟨_,q,λv z=>nomatch z⟩
  ·exact qM st.2.1
 ·rw [bo,hr.len,lT]
 ·obtain ⟨t,x,q,rfl⟩:=e2
  rw [kZ] at e1
  refine mQ (dT.mp e1) λp' hp T0=> ?_;obtain rfl:=T0
  exact mJ.cons (by exact ⟨t,rfl⟩) (mJ.cons (mO.keep k ((hr.get' hp q |>.keepX (so ho)).sub hY)) mJ.nil)
 ·simp at hb
  rcases hb with rfl|rfl
  ·exact n5 (by exact mu (.l xA (.a xA xI)) [_])
  ·exact n5 (by exact mu (.l xA xA) [_])
theorem GF (he:FM prog w (fs c σ Λ) iter "zip" [.list ps,.list qs]) (hh:c.A.handled=az) (ho: ∀b∈own,b∈c.X):
  uv prog w c σ Λ own (.Tuple Vg ek epos) iter ((jf (λp q=>[p,q]) ps qs).map .tup):=.mk λs i=>by
 refine he.run s i _ λTZ vs T1 r=> ?_
 refine ng r ?_;clear r;intro v us T0 r q;obtain rfl:=T0
 refine ng q ?_;clear q;intro v' Ws T0 r' q;obtain rfl:=T0
 subst q
 refine nh r ?_;clear r;intro a vs T0 ha hl hr;obtain rfl:=T0
 refine nh r' ?_;clear r';intro b' ws T0 hb' Wd WK;obtain rfl:=T0
 have hr:mJ c.X TZ.heap ps vs:=hr
 have WK:mJ c.X TZ.heap qs ws:=WK
 refine mQ (id hl) λo e1 e2=> ?_
 refine mQ (id Wd) λo' e1' V1=> ?_
 have lt: @kD Nat _ a TZ.heap.objs.size:=aR e1
 have lt': @kD Nat _ b' TZ.heap.objs.size:=aR e1'
 have ga:(hideAll TZ.heap own).get? a=aa o:=bS _ e1 (λq=>ha (ho a q))
 have gb:(hideAll TZ.heap own).get? b'=aa o':=bS _ e1' (λq=>hb' (ho b' q))
 refine call_zip_2 hl Wd λh' hz Xm Vj hI hI' hsz hk=> ?_
 refine wpAny_pyIter_zip hz ?_
 have T3:bB TZ {TZ with heap:=h'}:=⟨h',TZ.toks,rfl,hk⟩
 generalize hN:TZ.heap.objs.size=N at*
 refine ⟨TZ,_,[N+4,N+2,N+3,N,N+1],_,rfl,yo (WalksT.zip2 hh (N+4) (N+2) (N+3) N (N+1) a b' ⟨o9 (by exact mu (.o (.b (.a xA xM) (.a xA xK)) (.b (.a xA xK) (.a xA xM))) [_]),o9 (by exact mu (.o (.b (.a xA xO) (.a xA xK)) (.b (.a xA xK) (.a xA xO))) [_]),o9 (by exact mu (.o (.b xA (.a xA xK)) (.b (.a xA xK) xA)) [_]),o9 (by exact mu (.o (.b (.a xA xI) (.a xA xK)) (.b (.a xA xK) (.a xA xI))) [_]),o9 (by exact mu (.o (.b (.a xA xM) (.a xA xO)) (.b (.a xA xO) (.a xA xM))) [_]),o9 (by exact mu (.o (.b (.a xA xM) xA) (.b xA (.a xA xM))) [_]),o9 (by exact mu (.o (.b (.a xA xM) (.a xA xI)) (.b (.a xA xI) (.a xA xM))) [_]),o9 (by exact mu (.o (.b (.a xA xO) xA) (.b xA (.a xA xO))) [_]),o9 (by exact mu (.o (.b (.a xA xO) (.a xA xI)) (.b (.a xA xI) (.a xA xO))) [_]),o9 (by exact mu (.o (.b xA (.a xA xI)) (.b (.a xA xI) xA)) [_]),o9 (by exact (mu (.i (.b xA xB) (.o (.b xA (.a xB xK)) (.b (.a xB xK) xA))) [_,_]) lt),o9 (by exact (mu (.i (.b xA xB) (.o (.b xA (.a xB xO)) (.b (.a xB xO) xA))) [_,_]) lt),o9 (by exact (mu (.i (.b xA xB) (.o (.b xA xB) (.b xB xA))) [_,_]) lt),o9 (by exact (mu (.i (.b xA xB) (.o (.b xA (.a xB xI)) (.b (.a xB xI) xA))) [_,_]) lt),o9 (by exact (mu (.i (.b xA xB) (.o (.b xA (.a xB xK)) (.b (.a xB xK) xA))) [_,_]) lt'),o9 (by exact (mu (.i (.b xA xB) (.o (.b xA (.a xB xO)) (.b (.a xB xO) xA))) [_,_]) lt'),o9 (by exact (mu (.i (.b xA xB) (.o (.b xA xB) (.b xB xA))) [_,_]) lt'),o9 (by exact (mu (.i (.b xA xB) (.o (.b xA (.a xB xI)) (.b (.a xB xI) xA))) [_,_]) lt')⟩ vs.toArray ws.toArray) (λb hb=> ?_) (λb hb=> ?_) (λb hb=> ?_) (λi h st b hb=> ?_) ?_ (λj p v h Y e1 e2 k hY=> ?_),
  ⟨⟨hz,Xm,⟨_,_,Vj⟩,hI,hI',hl.at (λo e=>hk _ o e),Wd.at (λo e=>hk _ o e)⟩,λb o e=>hk _ _ (bU _ e)⟩,T1,T3,λb hb=> ?_⟩
 ·simp at hb ⊢;rcases hb with rfl|rfl|rfl|rfl<;>simp
 ·simp at hb
  rcases hb with rfl|rfl|rfl|rfl|rfl|rfl|rfl
  ·exact .inl (by simp)
  ·exact .inl (by simp)
  ·exact .inl (by simp)
  ·exact .inl (by simp)
  ·exact .inl (by simp)
  ·exact .inr ⟨o,ga⟩
  ·exact .inr ⟨o',gb⟩
 ·refine pg (n5 ?_)
  simp at hb
  rcases hb with rfl|rfl|rfl|rfl|rfl<;>first|exact gh hN|exact cg (gh hN) (jD ..)
 ·obtain ⟨a1,a2,⟨_,_,a3⟩,a4,a5,_⟩:=st
  simp at hb
  rcases hb with rfl|rfl|rfl|rfl|rfl
  ·exact ⟨_,a1,λv z=>nomatch z⟩
  ·exact ⟨_,a2,λv z=>nomatch z⟩
  ·exact ⟨_,a3,λv z=>nomatch z⟩
  ·exact qM a4
  ·exact qM a5
 ·simp [hr.len,WK.len]
 ·refine ng e2 ?_;clear e2;intro x y q q' T0;obtain rfl:=T0
  rw [kS] at e1
  cases h1:ps[j]? with
  |none=>rw [h1] at e1;exact nB e1
  |some p1=>
   cases h2:qs[j]? with
   |none=>rw [h1,h2] at e1;exact nB e1
   |some p2=>
    rw [h1,h2] at e1;obtain rfl:=am e1
    exact mJ.cons (mO.keep k ((hr.get' h1 q |>.keepX (so ho)).sub hY)) (mJ.cons (mO.keep k ((WK.get' h2 q' |>.keepX (so ho)).sub hY)) mJ.nil)
 ·refine n5 ?_
  simp at hb
  rcases hb with rfl|rfl|rfl|rfl|rfl<;>first|exact gh hN|exact cg (gh hN) (jD ..)
theorem H8 (hh:A.handled=az) (hx:sB c x) (hy:sB c y) (hk:c.env.scope.kind= .function)
  (i:In c σ Λ s.heap) (r:mO c.X s.heap (.tup [p,q]) v):
  aC (aI prog w) A (lW (.Tuple [.Name x px,.Name y py] k pos) c.env v) (λz s'=>nA s s'/\In c ((y,q)::(x,p)::σ) Λ s'.heap/\oH c.own s.heap s'.heap) (λz z=>False) s:=by
 refine nh r ?_;clear r;intro T vs T0 nT tT r;obtain rfl:=T0
 refine ng r ?_;clear r;intro a us T0 ra r;obtain rfl:=T0
 refine ng r ?_;clear r;intro b Ws T0 rb r;obtain rfl:=T0
 subst r
 refine wpAny_assign_Tuple hh tT rfl rfl λh' hE=> ?_
 have kk:mT s.heap h':=λb o e=>hE b o (di (aR e)) e
 have T8:=i.mono kk
 refine ae (bL (dM (ab (rt (s:={s with heap:=h'}) T8 hx (mO.keep kk ra) hk) (λz T2 uu=>rN uu λUD T7 T3=> ?_) λz z e=>e)))
 refine ae (bL (dM (ab (rt T7 hy ((mO.keep kk rb).keepX λb o nb e=>T3 b o (λq=>nb (ax _ q)) e) hk) (λz T9 uu=>rN uu λUJ Uh Ub=> ?_) λz z e=>e)))
 exact aj ⟨(nA.trans ⟨h',s.toks,rfl⟩ (UD.trans UJ)),Uh,λb o nb e=>Ub b o nb (T3 b o nb (kk _ _ e))⟩
theorem qS (hh:c.A.handled=az) (hx:autoParam (sB c x) XJ) (hy:autoParam (sB c y) XJ) (hk:autoParam (c.env.scope.kind= .function) XZ):
  yV prog w c (.Tuple [.Name x px,.Name y py] k pos) (.tup [p,q]) [(y,q),(x,p)]:=λσ Λ s v i r=>H8 hh hx hy hk i r
end
end
section
open PySem.Calls PyProof.Rows PySem.Builtin.Str
section
variable {prog:aH} {w:av} {φ:Fs} {A:aX} {X:List aF} {I:aW->Prop}
theorem mP (h:Ev prog w φ e p) (e':p=q):Ev prog w φ e q:=e'▸h
theorem sV (h:n0 prog w A X t p q r) (e:r=r'):n0 prog w A X t p q r':=e▸h
theorem qv (h:pR prog w A X I f ps p) (e:p=q):pR prog w A X I f ps q:=e▸h
theorem m5 (h:x=S l):Ev prog w φ (.Constant (.str x) k pos) (.str (S l)):=h▸JI
theorem qI (r:mJ X h [p] vs): ∃v,vs=[v]/\mO X h p v:=by
 refine ng r ?_;clear r;intro v us T0 a b;obtain rfl:=T0
 subst b
 exact ⟨v,rfl,a⟩
theorem sP (r:mJ X h [p,q] vs): ∃v u,vs=[v,u]/\mO X h p v/\mO X h q u:=by
 refine ng r ?_;clear r;intro v us T0 a b;obtain rfl:=T0
 refine mQ (qI b) λu T0 c=> ?_;obtain rfl:=T0
 exact ⟨v,u,rfl,a,c⟩
theorem zQ (r:mJ X h [p,q,r'] vs): ∃v u z,vs=[v,u,z]/\mO X h p v/\mO X h q u/\mO X h r' z:=by
 refine ng r ?_;clear r;intro v us T0 a b;obtain rfl:=T0
 refine ng (sP b) λu z T0 c d=> ?_;obtain rfl:=T0
 exact ⟨v,u,z,rfl,a,c,d⟩
theorem nq (r:mO X h (.str x) v): ∃t,v= .str x t:=by exact r
theorem ty (r:mO X h (.int i) v): ∃t,v= .int i t:=by exact r
theorem L4 (r:mO X h (.bool i) v):v= .bool i:=by exact r
theorem pC (r:mO X h (.list l) v): ∃a vs,v= .ref a/\a∉X/\h.IsList a vs.toArray/\mJ X h l vs:=by exact r
theorem O6 (r:mO X h (.tup l) v): ∃a vs,v= .ref a/\a∉X/\IsTup h a vs.toArray/\mJ X h l vs:=by exact r
theorem og:mO X h (.str x) (.str x t):=by exact ⟨t,rfl⟩
theorem tJ:mO X h (.int x) (.int x t):=by exact ⟨t,rfl⟩
theorem uC:mO X h (.bool x) (.bool x):=by rfl
theorem BZ:mO X h .none .none:=by rfl
theorem o7:mO X h (.raw v) v:=by rfl
theorem uG (ha:a∉X) (hl:h.IsList a vs.toArray) (r:mJ X h l vs):mO X h (.list l) (.ref a):=by exact ⟨a,vs,rfl,ha,hl,r⟩
theorem EP (ha:a∉X) (hl:IsTup h a vs.toArray) (r:mJ X h l vs):mO X h (.tup l) (.ref a):=by exact ⟨a,vs,rfl,ha,hl,r⟩
theorem ox (s:aq) (k:Nat):bB s {s with toks:=k}:=⟨_,_,rfl,λz z e=>e⟩
theorem uB (lx:n6 X s.heap) (r:mJ X s.heap l vs):
  bB s {s with heap:=s.heap.push {cls:=.type "list",data:=.seq vs.toArray},toks:=tk}/\mO X (s.heap.push {cls:=.type "list",data:=.seq vs.toArray}) (.list l) (.ref s.heap.objs.size):=
 ⟨mY s _ tk,uG (oJ lx) ⟨_,au _ rfl,rfl,_,rfl⟩ (mJ.keep (mz (mY s _ tk)) r)⟩
theorem E9 (hr:(decide (k< -(2^63:Int))||decide (k>=2^63))=false) (hp:(jc k l.length).bind (l[·]?)=aa x):
  n0 prog w A X (dS value Uv) (.str (S l)) (.int k) (.str (S [x])):=λs a y z r q=>by
 obtain ⟨t,rfl⟩:=nq r;obtain ⟨u,rfl⟩:=ty q
 refine vH (dR _ _ _) PySem.F.slot_str_getitem.lookup (P.getItem_str hr (c:=x) ?_ (va rfl))
 rw [mV];simpa using hp
theorem tK (hp:l.getLast? =aa x):n0 prog w A X (dS value Uv) (.str (S l)) (.int (-1)) (.str (S [x])):=
 E9 rfl (by
  rw [j5] at hp
  have hl:0<l.length:=by
   cases l with
   |nil=>simp at hp
   |cons=>simp
  have:jc (-1) l.length=aa (l.length - 1):=by
   unfold jc
   simp
   exact (mu (.i (.b xJ xA) (.a (.a (.L xJ (.a (.g xI) (.k xA))) (.B (.a (.g xI) (.k xA)) (.k xA))) (.e (.t (.a (.g xI) (.k xA))) (.s xA xI)))) [_]) hl
  rw [this];exact hp)
noncomputable def qX {α:Type} (l:List α) (lo hi:Option Int):List α:=(l.drop (lo.elim 0 (dQ l.length))).take (hi.elim l.length (dQ l.length) - lo.elim 0 (dQ l.length))
theorem mJ.drop: ∀{ps:List PV} {vs:List ay} (n:Nat),mJ X h ps vs->mJ X h (ps.drop n) (vs.drop n)
 |ps,vs,0,r=>r
 |[],vs,n+1,r=>by subst r;simpa using mJ.nil
 |p::ps,vs,n+1,r=>by
  refine ng r ?_;clear r;intro v us T0 a b;obtain rfl:=T0
  exact b.drop n
theorem mJ.take: ∀{ps:List PV} {vs:List ay} (n:Nat),mJ X h ps vs->mJ X h (ps.take n) (vs.take n)
 |ps,vs,0,r=>by simpa using mJ.nil
 |[],vs,n+1,r=>by subst r;simpa using mJ.nil
 |p::ps,vs,n+1,r=>by
  refine ng r ?_;clear r;intro v us T0 a b;obtain rfl:=T0
  exact mJ.cons a (b.take n)
theorem mJ.cut {h:aW} {ps:List PV} {vs:List ay} (r:mJ X h ps vs) (lo hi:Option Int):mJ X h (qX ps lo hi) (qX vs lo hi):=by
 unfold Mine.qX
 rw [r.len]
 exact (r.drop _).take _
theorem yy (vs:List ay) (lo hi:Option Int):slicePick vs.toArray lo hi az=(qX vs lo hi).toArray:=by
 rw [slicePick_plain]
 simp [qX]
theorem yG (lo hi:Option Int) (n:Nat):km lo hi 1 n=(ag (hi.elim n (dQ n) - lo.elim 0 (dQ n))).map (lo.elim 0 (dQ n)+ ·):=by
 have:=sliceBounds_plain lo hi n
 have e:km lo hi 1 n=sliceRange (sliceBounds lo hi az n).1 (sliceBounds lo hi az n).2.1 1:=by
  cases lo<;>cases hi<;>rfl
 rw [e,this,sliceRange_one]
theorem Jl (l:List Nat) (a:Nat): ∀n,a+n<=l.length->((ag n).map (a+ ·)).filterMap (l[·]?)=(l.drop a).take n:=by
 intro n
 induction n with
 |zero=>intro _;rfl
 |succ n ih=>
  intro h
  rw [cy,bh,List.filterMap_append,ih (by exact (mu (.i (.l (.a xA (.a xB xI)) xC) (.l (.a xA xB) xC)) [_,_,_]) h),dH (by rw [bH];exact (mu (.i (.l (.a xC (.a xA xI)) xB) (.b xA (.s xB xC))) [_,_,_]) h)]
  congr 1
  simp only [ba,gW,List.filterMap_cons,List.filterMap_nil]
  rw [aA (by exact (mu (.i (.l (.a xA (.a xB xI)) xC) (.b (.a xA xB) xC)) [_,_,_]) h),jg]
theorem C1 (l:List Nat) (lo hi:Option Int):Txt.slice (S l) lo hi=S (qX l lo hi):=by
 have hc: ∀k,dQ l.length k<=l.length:=λk=>by
  have:=clipAt_cast l.length k
  split at this<;>(first|exact (mu (.i (.E (.k xA) (.x xJ (.n (.a xA (.k xB)) (.k xB)))) (.l xA xB)) [_,_] [_]) this|exact (mu (.i (.E (.k xA) (.x xJ (.n xA (.k xB)))) (.l xA xB)) [_,_] [_]) this)
 have ha:lo.elim 0 (dQ l.length)<=l.length:=by cases lo<;>simp [hc]
 have hb:hi.elim l.length (dQ l.length)<=l.length:=by cases hi<;>simp [hc]
 have e:(km lo hi 1 (S l).length).filterMap ((S l).cps[·]?)=qX l lo hi:=by
  rw [mV,yG]
  simp only [kT]
  rw [Jl l _ _ (by exact (mu (.i (.l xA xC) (.i (.l xB xC) (.l (.a xA (.s xB xA)) xC))) [_,_,_]) ha hb)]
  rfl
 unfold Txt.slice
 rw [e]
 split
 ·rename_i h
  simp only [beq_self_eq_true,Bool.true_and,beq_iff_eq] at h
  rw [mV,yG,ah,be] at h
  have h0:lo.elim 0 (dQ l.length)=0/\hi.elim l.length (dQ l.length)=l.length\/l.length=0:=by exact (mu (.i (.l xB xC) (.i (.e (.s xB xA) xC) (.o (.a (.e xA xJ) (.e xB xC)) (.e xC xJ)))) [_,_,_]) hb h
  rcases h0 with ⟨h1,h2⟩|h0
  ·show S l=S _
   unfold qX
   rw [h1,h2];simp
  ·have:l=[]:=cC h0
   subst this
   unfold qX;simp
 ·rfl
structure zf (prog:aH) (w:av) (φ:Fs) (e:Option Expr) (k:Option Int):Prop where
 run: ∀s:aq,φ.I s.heap->aC (aI prog w) φ.A (evalPart e φ.env) (λv s'=>bB s s'/\ ∃kt:Option (Int×Tok),v=cK kt/\kt.map (·.1)=k) (λz z=>False) s
theorem rJ:zf prog w φ az az:=.mk λs z=>aj ⟨mN _,az,rfl,rfl⟩
theorem nW (h:Ev prog w φ e (.int i)):zf prog w φ (aa e) (aa i):=.mk λs i=>ab (h.run s i) (λv s' uu=>eA uu λk r=>by
 refine eE (ty r) λt T0=> ?_;obtain rfl:=T0
 exact ⟨k,aa (_,t),rfl,rfl⟩) λz z e=>e
theorem qw {lo hi:Option Int} (hv:Ev prog w φ value (.str (S l))) (hl:zf prog w φ lower lo) (hu:zf prog w φ upper hi)
  (hsz:l.length<=bn) (ht:autoParam (∀o r,i7 value o r=bG ()) X2):Ev prog w φ (.Subscript value (.Slice lower upper az p) pos) (.str (S (qX l lo hi))):=.mk λs i=>by
 refine wpAny_Subscript_str_slice (ab (hv.run s i) (λv TZ uu=>eA uu λT1 T4=>ab (hl.run TZ (φ.mono' i T1)) (λvl T2 uu=>oV uu λT3 lt e2 V1=>ab (hu.run T2 (φ.mono' i (mG T1 T3))) (λvu T9 uu=>oV uu λUb ut e3 W4=> ?_) λz z e=>e) λz z e=>e) λz z e=>e) ht
 refine eE (nq T4) λt T0=> ?_;obtain rfl:=T0
 have kk:=mG T1 (mG T3 Ub)
 refine ⟨S l,t,lt,ut,rfl,e2,e3,?_⟩
 refine post_val_or_str ⟨cg (Txt.slice_le (S l) _ _) (by rw [mV];exact hsz),λt' k=> ?_⟩
 have e:Txt.slice (S l) (lt.map (·.1)) (ut.map (·.1))=S (qX l lo hi):=by rw [V1,W4,C1]
 refine ⟨mG kk (mY _ _ k),?_⟩
 show mO _ _ (.str (S (qX l lo hi))) (.str (Txt.slice (S l) (lt.map (·.1)) (ut.map (·.1))) t')
 rw [e];exact og
theorem xe (h:kt.map (·.1)=k):IsPart (cK kt) k:=by
 cases kt with
 |none=>subst h;exact .none
 |some q=>subst h;exact .int _ _
end
section
variable {prog:aH} {w:av} {A:aX} {X:List aF} {I:aW->Prop}
theorem vd (hfit:gy (Txt.lower x).length=false):pR prog w A X I (.builtin "str.lower") [.str x] (.str (Txt.lower x)):=λs vs z z r=>by
 refine mQ (qI r) λv T0 r1=> ?_;obtain rfl:=T0;obtain ⟨t,rfl⟩:=nq r1
 exact SC.lower hfit ⟨pf _ _,og⟩
theorem v8 (hfit:gy (Txt.swapcase x).length=false):pR prog w A X I (.builtin "str.swapcase") [.str x] (.str (Txt.swapcase x)):=λs vs z z r=>by
 refine mQ (qI r) λv T0 r1=> ?_;obtain rfl:=T0;obtain ⟨t,rfl⟩:=nq r1
 exact SC.swapcase hfit ⟨pf _ _,og⟩
theorem ID (hsz:x.length<=bn):pR prog w A X I (.builtin "str.rstrip") [.str x] (.str (Txt.rstrip x)):=λs vs z z r=>by
 refine mQ (qI r) λv T0 r1=> ?_;obtain rfl:=T0;obtain ⟨t,rfl⟩:=nq r1
 exact SC.rstrip (λt' k=>⟨ox _ _,og⟩) hsz
theorem FO:pR prog w A X I (.builtin "str.endswith") [.str x,.str y] (.bool (Txt.endswith x y)):=λs vs z z r=>by
 refine ng (sP r) λv u T0 r1 r2=> ?_;obtain rfl:=T0;refine eE (nq r1) λt T0=> ?_;obtain rfl:=T0;refine eE (nq r2) λt T0=> ?_;obtain rfl:=T0
 exact SC.endswith ⟨mN _,uC⟩
theorem zX: ∀{xs:List Str} {vs:List ay},mJ X h (xs.map .str) vs-> ∃l:List (Str×Tok),vs=c8 l/\l.map (·.1)=xs
 |[],vs,r=>by subst r;exact ⟨[],rfl,rfl⟩
 |x::xs,vs,r=>by
  refine ng r ?_;clear r;intro v us T0 a b;obtain rfl:=T0
  refine eE (nq a) λt T0=> ?_;obtain rfl:=T0
  refine mQ (zX b) λl T0 e=> ?_;obtain rfl:=T0
  exact ⟨(x,t)::l,rfl,by rw [ba,e]⟩
theorem z8: ∀{l:List (Str×Tok)},mJ X h ((l.map (·.1)).map .str) (c8 l)
 |[]=>mJ.nil
 |p::l=>mJ.cons og z8
theorem wu (hok:JoinOk x xs=ai):pR prog w A X I (.builtin "str.join") [.str x,.list (xs.map .str)] (.str (Txt.join x xs)):=λs vs z z r=>by
 refine ng (sP r) λv u T0 r1 r2=> ?_;obtain rfl:=T0;refine eE (nq r1) λt T0=> ?_;obtain rfl:=T0
 refine nh (pC r2) λD us T0 z hl hr=> ?_;obtain rfl:=T0
 refine mQ (zX hr) λl T0 e=> ?_;obtain rfl:=T0
 exact SC.join hl e hok λt' k=>⟨ox _ _,og⟩
theorem tF (lx:n6 X s.heap) (e:l.map (·.1)=xs):
  bB s {s with heap:=s.heap.push {cls:=.type "list",data:=.seq (c8 l).toArray},toks:=tk}/\
   mO X (s.heap.push {cls:=.type "list",data:=.seq (c8 l).toArray}) (.list (xs.map .str)) (.ref s.heap.objs.size):=by
 subst e
 exact uB (tk:=tk) lx z8
theorem w9 (hsz:x.length+1<=bn):pR prog w A X I (.builtin "str.splitlines") [.str x] (.list ((Txt.lines x).map .str)):=λs vs z lx r=>by
 refine mQ (qI r) λv T0 r1=> ?_;obtain rfl:=T0;refine eE (nq r1) λt T0=> ?_;obtain rfl:=T0
 have e:=lineCuts_le x
 refine gL F.slot_str_splitlines (dR _ _ _) F.entry_str_splitlines (F.args_str_splitlines_1 _) (meets_str_splitlines x t (by exact (mu (.i (.l (.a xA xI) xB) (.l xA xB)) [_,_]) hsz) (by exact (mu (.i (.l (.a xC xI) xB) (.i (.l xA (.a xC xI)) (.l xA xB))) [_,_,_]) hsz e)) ?_
 cases hw:lineCuts x==[(0,x.length)]
 ·simp only [a9,if_false]
  rw [strsFrom_eq]
  exact tF (l:=numbered s.toks (kr x)) lx ((numbered_texts _ _).trans (if_neg (ne_true_of_eq_false hw)).symm)
 ·simp only [if_true]
  exact tF (l:=[(x,t)]) lx (if_pos hw).symm
theorem yW (hy:(y.length==0)=false) (hsz:x.length<=bn) (hsz2:(partsBetween x (j9 x y 0 x.length (x.length+1)) y.length).length<=bn):
  pR prog w A X I (.builtin "str.split") [.str x,.str y] (.list ((Txt.split x y).map .str)):=λs vs z lx r=>by
 refine ng (sP r) λv u T0 r1 r2=> ?_;obtain rfl:=T0;refine eE (nq r1) λt T0=> ?_;obtain rfl:=T0;refine eE (nq r2) λu T0=> ?_;obtain rfl:=T0
 cases h1:(decide (x.length<y.length)||decide (strKind x<strKind y))
 ·cases hf:(j9 x y 0 x.length (x.length+1)).isEmpty
  ·refine gL F.slot_str_split (dR _ _ _) F.entry_str_split (F.args_str_split_2 _ _) (meets_str_split_sep x y t u h1 hy hf hsz hsz2) ?_
   show wants _ _ _ {s with toks:=_,heap:=s.heap.push {cls:=.type "list",data:=.seq (strsFrom s.toks (partsBetween x (j9 x y 0 x.length (x.length+1)) y.length)).toArray}}
   rw [strsFrom_eq]
   exact tF (l:=numbered s.toks _) lx ((numbered_texts _ _).trans ((if_neg (ne_true_of_eq_false h1)).trans (if_neg (ne_true_of_eq_false hf))).symm)
  ·exact gL F.slot_str_split (dR _ _ _) F.entry_str_split (F.args_str_split_2 _ _) (meets_str_split_not_found x y t u h1 hy hf)
    (tF (l:=[(x,t)]) lx ((if_neg (ne_true_of_eq_false h1)).trans (if_pos hf)).symm)
 ·exact gL F.slot_str_split (dR _ _ _) F.entry_str_split (F.args_str_split_2 _ _) (meets_str_split_cannot_occur x y t u h1)
   (tF (l:=[(x,t)]) lx (if_pos h1).symm)
theorem uU (h:x.length<=1000000):pR prog w A X I (.builtin "len") [.str x] (.int x.length):=λs vs z z r=>by
 refine mQ (qI r) λv T0 r1=> ?_;obtain rfl:=T0;refine eE (nq r1) λt T0=> ?_;obtain rfl:=T0
 exact P.len_str (by exact (mu (.i (.l xA (.c 1000000)) (.n (.L xS (.k xA)))) [_]) h) ⟨ox _ _,tJ⟩
theorem r4 (h:l.length<=1000000):pR prog w A X I (.builtin "len") [.list l] (.int l.length):=λs vs z z r=>by
 refine mQ (qI r) λv T0 r1=> ?_;obtain rfl:=T0
 refine nh (pC r1) λD us T0 z hl hr=> ?_;obtain rfl:=T0
 have e:us.toArray.size=l.length:=by simp [hr.len]
 refine call_len_list hl (by rw [e];exact (mu (.i (.l xA (.c 1000000)) (.B (.k xA) xS)) [_]) h) ?_
 rw [e]
 exact ⟨ox _ _,tJ⟩
end
section
variable {prog:aH} {w:av} {c:Sc} {σ:mW} {Λ:List (aF×List PV)}
structure MN (X:List aF) (p:PV) (T:String):Prop where
 is: ∀(s:aq) v,mO X s.heap p v->s.TypeIs v T
 noRef: ∀h v,mO X h p v-> ∀a,v≠ .ref a
theorem oh:MN X (.str x) "str":=⟨λs v r=>by obtain ⟨t,rfl⟩:=nq r;exact dR _ _ _,λh v r a e=>by obtain ⟨t,rfl⟩:=nq r;cases e⟩
theorem re {T id:String} (ho:Ev prog w (fs c σ Λ) o p) (hK:MN c.X p T) (pa:jA T) (slot:Slot T name id)
  (Vt:kE (.builtin id)=bG (.type "method_descriptor")) (ha:tH prog w (fs c σ Λ) pos (e::es) ps) (hc:pR prog w c.A c.X (In c σ Λ) (.builtin id) (p::ps) q)
  (Up:autoParam (db o name c.env (bJ o c.env)=bJ o c.env) XZ)
  (UZ:autoParam (((fa pos (aE (e::es) c.env)).all (λx=> !x.1)&&(cM pos (bR [] c.env)).all (λx=>x.1.isSome)
   &&decide ((e::es).length+([]:List eV).length+(if ([]:List eV).isEmpty then 0 else 1)<30))=ai) XZ)
  (Uu:autoParam ((apos.endLine==pos.line)=ai) XZ) (he:autoParam (aE (e::es) c.env=(false,bJ e c.env)::aE es c.env) XZ):
  Ev prog w (fs c σ Λ) (.Call (.Attribute o name apos) (e::es) [] pos) q:=.mk λs i=>
 dN Up UZ Uu pa slot Vt (ab (ho.run s i) (λov TZ uu=>eA uu λT1 T4=>⟨hK.is _ _ T4,λa e=>absurd e (hK.noRef _ _ T4 a),nH (qo (ab (ha.run TZ (i.mono (mz T1))) (λvs T2 uu=>eA uu λT3 Ug=>by
  have T7:=i.mono (mz (mG T1 T3))
  exact ⟨rg,ab (hc T2 (ov::vs) T7 T7.liveAll (mJ.cons (T4.keep (mz T3)) Ug)) (λz z uu=>eA uu λUb Ui=>⟨mG T1 (mG T3 Ub),Ui⟩) λz z e=>e⟩) λz z e=>e) he)⟩) λz z e=>e)
theorem qT {T id:String} (ho:Ev prog w (fs c σ Λ) o p) (hK:MN c.X p T) (pa:jA T) (slot:Slot T name id)
  (Vt:kE (.builtin id)=bG (.type "method_descriptor")) (hc:pR prog w c.A c.X (In c σ Λ) (.builtin id) [p] q)
  (Up:autoParam (db o name c.env (bJ o c.env)=bJ o c.env) XZ)
  (Uu:autoParam ((apos.endLine==pos.line)=ai) XZ):
  Ev prog w (fs c σ Λ) (.Call (.Attribute o name apos) [] [] pos) q:=.mk λs i=>
 dN Up rfl Uu pa slot Vt (ab (ho.run s i) (λov TZ uu=>eA uu λT1 T4=>⟨hK.is _ _ T4,λa e=>absurd e (hK.noRef _ _ T4 a),nH (v4 (by
  have T7:=i.mono (mz T1)
  exact ⟨rg,ab (hc TZ [ov] T7 T7.liveAll (mJ.cons T4 mJ.nil)) (λz z uu=>eA uu λUb Ui=>⟨mG T1 Ub,Ui⟩) λz z e=>e⟩))⟩) λz z e=>e)
theorem su (he:Ev prog w (fs c σ Λ) e p) (ha:yV prog w c T6 p bs) (hb:mS prog w c.env c.A (In c (bs++σ) Λ) b J)
  (hs:autoParam (swapsWithSole [T6] e pos.line c.env=bG false) XZ) (hw:autoParam (swappedStores [T6] e c.env=bG az) XZ) (hm:autoParam (assignEach [T6] c.env=[(false,lW T6 c.env)]) XZ):
  mS prog w c.env c.A (In c σ Λ) (.Assign [T6] e pos::b) J:=
 qQ (I':=In c (bs++σ) Λ) (λs i=>by
  refine wpAny_Assign_stores (ab (he.run s i) (λv TZ uu=>eA uu λT1 T4=> ?_) λz z e=>e) hs hw
  rw [hm]
  exact ab (ha σ Λ TZ v (i.mono (mz T1)) T4) (λz T2 uu=>rN uu λUD T7 z=>⟨(nA.of T1).trans UD,T7⟩) λz z e=>e) hb
theorem tt (hp:σ.lookup x=aa p) (he:Ev prog w (fs c σ Λ) e q) (ho:n0 prog w c.A c.X (inplaceOp op) p q r)
  (hb:mS prog w c.env c.A (In c ((x,r)::σ) Λ) b J) (hx:autoParam (sB c x) XJ) (hk:autoParam (c.env.scope.kind= .function) XZ):
  mS prog w c.env c.A (In c σ Λ) (.AugAssign (.Name x px) op e pos::b) J:=
 qQ (I':=In c ((x,r)::σ) Λ) (λs i=>by
  refine mQ (i.look hp) λv L rv=> ?_
  refine wpAny_AugAssign_Name (u9 hk L (ab (he.run s i) (λu TZ uu=>eA uu λT1 T4=> ?_) λy y e=>e))
  have T8:=i.mono (mz T1)
  refine ab (ho TZ v u T8.liveAll (mO.keep (mz T1) rv) T4) (λz T2 uu=>eA uu λT3 Ug=> ?_) λz z e=>e
  exact ab (tV (T8.mono (mz T3)) hx Ug hk) (λz T9 uu=>eA uu λUJ Uh=>⟨(nA.of (mG T1 T3)).trans UJ,Uh⟩) λz z e=>e) hb
theorem EZ (h: ∀g,In c σ Λ g->J .cont g):mS prog w c.env c.A (In c σ Λ) (.Continue pos::b) J:=.mk λs i=>by
 rw [ch]
 exact ae (wpAny_Continue (aj ⟨nA.rfl' s,h _ i⟩))
noncomputable def Sc.addOwn (c:Sc) (D:aF):Sc:={c with own:=D::c.own}
theorem In.addOwn (i:In c σ Λ h) (k:mT h h') (hD:h.get? D=az) (hn: ∃vs,h'.PlainList D vs):In (c.addOwn D) σ Λ h':=by
 have sb: ∀b,b∈(c.addOwn D).X->(∃o,h.get? b=aa o)->b∈c.X:=λb hb uu=>eE uu λo e=>by
  rcases ao.mp hb with q|q
  ·subst q;rw [hD] at e;exact nB e
  ·exact q
 have i':=i.mono k
 refine ⟨i'.keep,λa ha=> ?_,λa ha=> ?_,i'.liveX,.tail _ i'.locOwn,?_,?_,i'.cob,i'.kinds,?_⟩
 ·rcases ao.mp ha with q|q
  ·subst q
   cases e:c.g.get? a with
   |none=>exact e
   |some o=>have:=i.keep _ _ e;rw [hD] at this;exact nB this
  ·exact i'.fresh a q
 ·rcases ao.mp ha with q|q
  ·subst q;refine rR hn λvs n e=> ?_;exact ⟨_,e⟩
  ·exact i'.live a q
 ·refine mQ i.loc λm n r=> ?_
  exact ⟨m,n.at' λo e=>k _ _ e,λx p a b=>let ⟨v,e,q⟩:=r x p a b;⟨v,e,mO.keep k (q.sub sb)⟩⟩
 ·intro x p a b
  refine ng (i.cel x p a b) λcc v e q r=> ?_
  exact ⟨cc,v,e,q.keeps k,mO.keep k (r.sub sb)⟩
 ·intro q hq
  refine oV (i.lists q hq) λa vs b r=> ?_
  exact ⟨.tail _ a,vs,b.at λo e=>k _ _ e,mJ.keep k (r.sub sb)⟩
theorem w2 (hb: ∀D,c.g.get? D=az->D∉c.X->mS prog w c.env c.A (In (c.addOwn D) ((x,.raw (.ref D))::σ) ((D,[])::Λ)) b J)
  (hx: ∀D,sB (c.addOwn D) x:=by exact λz=>.inl rfl) (hk:autoParam (c.env.scope.kind= .function) XZ) (hs:autoParam (cJ (.List [] lp) (aa (.Name x px)) pos.line c.env=bG false) XZ):
  mS prog w c.env c.A (In c σ Λ) (.Assign [.Name x px] (.List [] lp) pos::b) J:=.mk λs i=>by
 rw [ch]
 refine ae (cN (jz (cF ⟨by decide,?_⟩)) hs)
 have T8:In (c.addOwn s.heap.objs.size) σ ((s.heap.objs.size,[])::Λ) (s.heap.push {cls:=.type "list",data:=.seq #[]}):=by
  have j:=i.addOwn (mz (mY s {cls:=.type "list",data:=.seq #[]} s.toks)) (nE _) ⟨#[],_,au _ rfl⟩
  refine {j with lists:=λq hq=> ?_}
  rcases ao.mp hq with e|e
  ·subst e;exact ⟨.head _,[],⟨_,au _ rfl⟩,mJ.nil⟩
  ·exact j.lists q e
 have gD:c.g.get? s.heap.objs.size=az:=T8.fresh _ (.head _)
 refine ab (tV (c:=c.addOwn s.heap.objs.size) (s:={s with heap:=s.heap.push {cls:=.type "list",data:=.seq #[]}}) (p:=.raw (.ref s.heap.objs.size)) T8 (hx _) o7 hk) (λz T2 uu=>eA uu λUD T7=> ?_) λz z e=>e
 exact ab ((hb _ gD (oJ i.liveAll)).run T2 T7) (λfl T9 uu=>eA uu λUJ j=>⟨(nA.trans ⟨_,_,rfl⟩ (UD.trans UJ)),j⟩) λz z e=>e
theorem In.push {h h':aW} (i:In c σ ((D,l)::Λ) h) (r:mO c.X h p v) (hl: ∀vs:List ay,h.PlainList D vs.toArray->h'.PlainList D (vs++[v]).toArray) (hs:cL D h h')
  (Uj: ∀q∈Λ,q.1≠D):In c σ ((D,l++[p])::Λ) h':=by
 refine oV (i.lists _ (.head _)) λhD vs pl rs=> ?_
 have VF:=hl vs pl
 have kx:oH c.X h h':=oH.of_same hs (ax _ hD)
 have lv: ∀a,(∃o,h.get? a=aa o)-> ∃o,h'.get? a=aa o:=λa uu=>eE uu λo e=>by
  by_cases q:a=D
  ·subst q;obtain ⟨_,e⟩:=VF;exact ⟨_,e⟩
  ·exact ⟨o,(hs.2 a q).trans e⟩
 refine ⟨λb o e=> ?_,i.fresh,λa ha=>lv a (i.live a ha),λa ha=>lv a (i.liveX a ha),i.locOwn,?_,λy q hk e=> ?_,λy a e=> ?_,i.kinds,λq hq=> ?_⟩
 ·rw [hs.2 b (λq=>by have:=i.fresh _ hD;rw [<-q,e] at this;exact tC this)];exact i.keep _ _ e
 ·refine mQ i.loc λm n hm=> ?_
  exact ⟨m,n.at' λo e=>by rw [hs.2 _ (sN pl n).symm];exact e,λy q hk e=>let ⟨u,e',r'⟩:=hm y q hk e;⟨u,e',r'.keepX kx⟩⟩
 ·refine ng (i.cel y q hk e) λa u q1 q2 q3=> ?_
  exact ⟨a,u,q1,q2.sameBut hs (qF pl q2).symm,q3.keepX kx⟩
 ·obtain ⟨u,q⟩:=i.cob y a e
  exact ⟨u,q.sameBut hs (qF pl q).symm⟩
 ·rcases ao.mp hq with e|e
  ·subst e;exact ⟨hD,vs++[v],VF,mJ.append (rs.keepX kx) (mJ.cons (r.keepX kx) mJ.nil)⟩
  ·refine oV (i.lists q (.tail _ e)) λa us b r'=> ?_
   exact ⟨a,us,b.at λo z=>by rw [hs.2 _ (Uj q e)];exact z,r'.keepX kx⟩
theorem Dl (i:In c σ ((D,l)::Λ) s.heap) (r:mO c.X s.heap p v) (Uj: ∀q∈Λ,q.1≠D) (hsz:l.length<=bn):
  aC (aI prog w) A (ft (.builtin "list.append") [.ref D,v]) (λz s'=>nA s s'/\In c σ ((D,l++[p])::Λ) s'.heap) (λz z=>False) s:=by
 refine oV (i.lists _ (.head _)) λhD vs pl rs=> ?_
 refine lK (hsz:=by rw [bo,rs.len];exact hsz) pl λh' hl hs=>⟨⟨_,_,rfl⟩,i.push r (λus pu=> ?_) hs Uj⟩
 refine eE pl λn e=> ?_
 refine eE pu λn' e'=> ?_
 rw [e] at e'
 have:vs=us:=by
  have q:=congrArg Obj.data (am e')
  injection q with q1 q2
  simpa using q1
 subst this
 simpa using hl
theorem BN (hy:σ.lookup y=aa (.raw (.ref D))) (he:Ev prog w (fs c σ ((D,l)::Λ)) e p) (hsz:l.length<=bn) (Uj: ∀q∈Λ,q.1≠D)
  (hb:mS prog w c.env c.A (In c σ ((D,l++[p])::Λ)) b J)
  (hi:autoParam (i5 c.env=false) XZ) (hs:autoParam (cJ (.Call (.Attribute (.Name y yp) ("append":Str) apos) [e] [] pos) az Vd.line c.env=bG false) XZ)
  (hd:autoParam ((y==("__debug__":Str))=false) XQ) (hk:autoParam (c.env.scope.kind= .function) XZ)
  (Up:autoParam (db (.Name y yp) ("append":Str) c.env (bJ (.Name y yp) c.env)=bJ (.Name y yp) c.env) XZ)
  (UZ:autoParam (((fa pos (aE [e] c.env)).all (λx=> !x.1)&&(cM pos (bR [] c.env)).all (λx=>x.1.isSome)
   &&decide ([e].length+([]:List eV).length+(if ([]:List eV).isEmpty then 0 else 1)<30))=ai) XZ)
  (Uu:autoParam ((apos.endLine==pos.line)=ai) XZ) (UR:autoParam (aE [e] c.env=(false,bJ e c.env)::aE [] c.env) XZ):
  mS prog w c.env c.A (In c σ ((D,l)::Λ)) (.Expr (.Call (.Attribute (.Name y yp) ("append":Str) apos) [e] [] pos) Vd::b) J:=
 qQ (I':=In c σ ((D,l++[p])::Λ)) (λs i=>by
  refine mQ (i.look hy) λv L rv=> ?_
  subst rv
  refine fM ?_ hi hs
  refine dN (T:="list") Up UZ Uu PySem.F.plainAttrs_list PySem.F.slot_list_append PySem.F.type_list_append (jy (u9 hk L ?_) hd)
  obtain ⟨hD,vs,⟨n,pl⟩,rs⟩:=i.lists _ (.head _)
  refine ⟨⟨_,pl,rfl⟩,λa e=>by cases e;exact ⟨_,pl,rfl⟩,nH (qo ?_ UR)⟩
  refine cB (ab (he.run s i) (λu TZ uu=>eA uu λT1 T4=>cF ⟨rg,?_⟩) λz z e=>e) UR
  exact ab (Dl (i.mono (mz T1)) T4 Uj hsz) (λz T2 uu=>eA uu λUD T7=>⟨(nA.of T1).trans UD,T7⟩) λz z e=>e) hb
theorem xm (e:aD y ((x,p)::σ)=aa q):(y=x/\q=p)\/(y≠x/\σ.lookup y=aa q):=by
 by_cases hy:y=x
 ·subst hy;simp [aD] at e;exact .inl ⟨rfl,e.symm⟩
 ·have:(y==x)=false:=by simpa using hy
  simp [aD,this] at e;exact .inr ⟨hy,e⟩
theorem In.release (i:In (c.addOwn D) σ ((D,l)::Λ) h) (hx:σ.lookup x=aa (.raw (.ref D))) (Uj: ∀q∈Λ,q.1≠D) (hD:D∉c.X) (hc:c.env.locals∈c.own):In c ((x,.list l)::σ) Λ h:=by
 have sb: ∀b,b∈c.X->(∃o,h.get? b=aa o)->b∈(c.addOwn D).X:=λb hb z=>.tail _ hb
 obtain ⟨_,vs,⟨n,pl⟩,rs⟩:=i.lists _ (.head _)
 have rl:mO c.X h (.list l) (.ref D):=uG hD ⟨_,pl,rfl,_,rfl⟩ (rs.sub sb)
 refine ⟨i.keep,λa ha=>i.fresh a (.tail _ ha),λa ha=>i.live a (.tail _ ha),i.liveX,hc,?_,?_,i.cob,?_,?_⟩
 ·refine mQ i.loc λm n r=> ?_
  refine ⟨m,n,λy p a b=> ?_⟩
  rcases xm b with ⟨rfl,rfl⟩|⟨_,b⟩
  ·refine mQ (r y _ a hx) λv e q=> ?_
   subst q
   exact ⟨_,e,rl⟩
  ·refine mQ (r y p a b) λv e q=> ?_;exact ⟨v,e,q.sub sb⟩
 ·intro y p a b
  rcases xm b with ⟨rfl,rfl⟩|⟨_,b⟩
  ·refine ng (i.cel y _ a hx) λcc v e q q'=> ?_
   subst q'
   exact ⟨cc,_,e,q,rl⟩
  ·refine ng (i.cel y p a b) λcc v e q r=> ?_
   exact ⟨cc,v,e,q,r.sub sb⟩
 ·intro y p b
  rcases xm b with ⟨rfl,rfl⟩|⟨_,b⟩
  ·exact i.kinds y _ hx
  ·exact i.kinds y p b
 ·intro q hq
  refine oV (i.lists q (.tail _ hq)) λa vs b r=> ?_
  rcases ao.mp a with e|e
  ·exact absurd e (Uj q hq)
  ·exact ⟨e,vs,b,r.sub sb⟩
theorem w1 (x:Str) (hx:σ.lookup x=aa (.raw (.ref D))) (Uj: ∀q∈Λ,q.1≠D) (hD:D∉c.X) (hb:mS prog w c.env c.A (In c ((x,.list l)::σ) Λ) b J) (hc:c.env.locals∈c.own:=by exact .head _):mS prog w c.env c.A (In (c.addOwn D) σ ((D,l)::Λ)) b J:=.mk λs i=>hb.run s (i.release hx Uj hD hc)
end
end
section
open PySem.Calls PyProof.Rows
section
variable {prog:aH} {w:av} {A:aX} {X:List aF}
theorem pQ (e:FR f x):bB s {s with toks:=s.toks+1}/\mO X ({s with toks:=s.toks+1}:aq).heap (.fx f) (.float x t):=⟨pf _ _,by exact ⟨_,_,rfl,e⟩⟩
noncomputable def zJ (n:Int):Bool:=decide (n.natAbs<2^40)
theorem tA (h:zJ n=ai):n.natAbs<2^1023:=by
 have h1:n.natAbs<2^40:=of_decide_eq_true h
 exact Nat.lt_trans h1 (lz (by decide) (by decide))
def nv:PV->Option Fx
 |.fx f=>aa f
 |.int n=>cond (zJ n) (Ql n) az
 |_=>az
noncomputable def wA:PV->Bool|.fx _=>ai|_=>false
theorem Q6 {n:Int} {f:Fx} (e:nv (.int n)=aa f):zJ n=ai/\FR f (Float64.ofInt n):=by
 change cond (zJ n) (Ql n) az=aa f at e
 cases h:zJ n with
 |false=>rw [h] at e;exact nB e
 |true=>rw [h] at e;exact ⟨rfl,Qd e⟩
theorem sv (hf:nv p=aa f) (r:mO X h p v):(∃x t,p= .fx f/\v= .float x t/\FR f x)\/ ∃n t,p= .int n/\v= .int n t/\zJ n=ai/\FR f (Float64.ofInt n):=by
 cases p with
 |fx g=>obtain rfl:=am hf;refine oU r λx t e F=> ?_;exact .inl ⟨x,t,rfl,e,F⟩
 |int n=>refine eA (Q6 hf) λhs F=> ?_;refine eE r λt e=> ?_;exact .inr ⟨n,t,rfl,e,hs,F⟩
 |_=>exact nB hf
theorem Kl (hf:nv p=aa f) (hg:nv q=aa g) (e:Cs f g=aa r) (hm:(wA p||wA q)=ai):n0 prog w A X (ca .Add) p q (.fx r):=λs x y z rp rq=>by
 rcases sv hf rp with ⟨x,t,rfl,rfl,Fx⟩|⟨n,t,rfl,rfl,hs,Fx⟩
 ·rcases sv hg rq with ⟨y,u,rfl,rfl,Fy⟩|⟨n,u,rfl,rfl,hs,Fy⟩
  ·exact add_float (pQ (xk Fx Fy e))
  ·exact add_fi_fits (tA hs) (pQ (xk Fx Fy e))
 ·rcases sv hg rq with ⟨y,u,rfl,rfl,Fy⟩|⟨_,u,rfl,rfl,_,Fy⟩
  ·exact add_if_fits (tA hs) (pQ (xk Fx Fy e))
  ·exact o8 hm
theorem JS (hf:nv p=aa f) (hg:nv q=aa g) (e:Mp f g=aa r) (hm:(wA p||wA q)=ai):n0 prog w A X (ca .Sub) p q (.fx r):=λs x y z rp rq=>by
 rcases sv hf rp with ⟨x,t,rfl,rfl,Fx⟩|⟨n,t,rfl,rfl,hs,Fx⟩
 ·rcases sv hg rq with ⟨y,u,rfl,rfl,Fy⟩|⟨n,u,rfl,rfl,hs,Fy⟩
  ·exact sub_float (pQ (Cu Fx Fy e))
  ·exact sub_fi_fits (tA hs) (pQ (Cu Fx Fy e))
 ·rcases sv hg rq with ⟨y,u,rfl,rfl,Fy⟩|⟨_,u,rfl,rfl,_,Fy⟩
  ·exact sub_if_fits (tA hs) (pQ (Cu Fx Fy e))
  ·exact o8 hm
theorem Kd (hf:nv p=aa f) (hg:nv q=aa g) (e:KZ f g=aa r) (hm:(wA p||wA q)=ai):n0 prog w A X (ca .Mult) p q (.fx r):=λs x y z rp rq=>by
 rcases sv hf rp with ⟨x,t,rfl,rfl,Fx⟩|⟨n,t,rfl,rfl,hs,Fx⟩
 ·rcases sv hg rq with ⟨y,u,rfl,rfl,Fy⟩|⟨n,u,rfl,rfl,hs,Fy⟩
  ·exact mul_float (pQ (CD Fx Fy e))
  ·exact mul_fi_fits (tA hs) (pQ (CD Fx Fy e))
 ·rcases sv hg rq with ⟨y,u,rfl,rfl,Fy⟩|⟨_,u,rfl,rfl,_,Fy⟩
  ·exact mul_if_fits (tA hs) (pQ (CD Fx Fy e))
  ·exact o8 hm
theorem zz (h:FR f x): ¬Float64.isInf x=ai:=by
 obtain ⟨a,m,e,hd⟩:=h.1
 unfold Float64.isInf
 exact hd▸dy
def AS (a b:Int):Option Fx:=cond (bN b.natAbs 0) az (wm (decide (a<0)!=decide (b<0)) (de a.natAbs U) b.natAbs)
theorem GA (e:AS a b=aa r):b≠0/\FR r (Float64.ofFrac (decide (a<0)!=decide (b<0)) a.natAbs b.natAbs):=by
 unfold AS at e
 cases hb:bN b.natAbs 0 with
 |true=>rw [hb] at e;exact nB e
 |false=>
  rw [hb,zW] at e
  have hz:=E3 hb
  refine ⟨by omega,?_⟩
  refine sW (Float64.ofFrac_right (W:=de a.natAbs U) (D:=b.natAbs) (by exact (mu (.i (.n (.e xA xJ)) (.b xJ xA)) [_]) hz) ?_ (by exact (mu (.i (.n (.e xA xJ)) (.b xJ xA)) [_]) hz)) (by exact (mu (.i (.n (.e xA xJ)) (.b xJ xA)) [_]) hz) e (.inl rfl)
  rw [jU];rfl
theorem J1 (e:AS a b=aa r):n0 prog w A X (ca .Div) (.int a) (.int b) (.fx r):=λs x y z rp rq=>by
 obtain ⟨hb,F⟩:=GA e
 obtain ⟨t,rfl⟩:=rp;obtain ⟨u,rfl⟩:=rq
 exact jQ (by simpa using hb) (zz F) (pQ F)
theorem JB (hf:nv p=aa f) (hg:nv q=aa g) (e:yU f g=aa r) (hm:(wA p||wA q)=ai):n0 prog w A X (ca .Div) p q (.fx r):=λs x y j rp rq=>by
 rcases sv hf rp with ⟨x,t,rfl,rfl,Fx⟩|⟨n,t,rfl,rfl,hs,Fx⟩
 ·rcases sv hg rq with ⟨y,u,rfl,rfl,Fy⟩|⟨n,u,rfl,rfl,hs,Fy⟩
  ·obtain ⟨Fr,z⟩:=zF Fx Fy e
   exact jx (by simp [z]) (pQ Fr)
  ·obtain ⟨Fr,z⟩:=zF Fx Fy e
   exact AutoFloatOps.truediv_fi_2 (zz Fy) (by simp [z]) (pQ Fr)
 ·rcases sv hg rq with ⟨y,u,rfl,rfl,Fy⟩|⟨_,u,rfl,rfl,_,Fy⟩
  ·obtain ⟨Fr,z⟩:=zF Fx Fy e
   exact AutoFloatOps.truediv_if_2 (zz Fx) (by simp [z]) (pQ Fr)
  ·exact o8 hm
end
section
variable {prog:aH} {w:av} {A:aX} {X:List aF}
theorem pt (h:FR f x):Ev prog w φ (.Constant (.float x) k pos) (.fx f):=.mk λs i=>
 ab (vU.run (prog:=prog) (w:=w) (φ:=φ) s i) (λv s' uu=>eA uu λa r=>⟨a,by unfold mO at r ⊢;obtain ⟨t,e⟩:=r;exact ⟨_,t,e,h⟩⟩) λz z e=>e
theorem uh (f:Fx) (hx:Float64.decode x= .fin a m e) (h:f=⟨a,m*2^(e+1074).toNat⟩):FR f x:=
 ⟨⟨_,_,_,hx⟩,by rw [Float64.val_eq hx,h]⟩
theorem I5 (e:DV f=aa r):n0 prog w A X (ca .Mod) (.fx f) (.float r6) (.fx r):=λs x y j rp rq=>by
 refine oU rp ?_;clear rp;intro x t T0 Fx;obtain rfl:=T0;obtain ⟨u,rfl⟩:=rq
 have z:Float64.isZero r6=false:=by decide+kernel
 exact AutoFloatOps.mod_1 (by simp [z]) (pQ (Lb Fx e))
theorem AU:n0 prog w A X (bP .Lt) (.fx f) (.fx g) (.bool (vf f g)):=λs x y z rp rq=>by
 refine oU rp ?_;clear rp;intro x t T0 Fx;obtain rfl:=T0;refine oU rq ?_;clear rq;intro y u T0 Fy;obtain rfl:=T0
 exact AutoFloatOps.lt_0 ⟨mN _,by unfold mO;rw [DN Fx Fy]⟩
theorem FU:n0 prog w A X (bP .LtE) (.fx f) (.fx g) (.bool (vf f g||tm f g)):=λs x y z rp rq=>by
 refine oU rp ?_;clear rp;intro x t T0 Fx;obtain rfl:=T0;refine oU rq ?_;clear rq;intro y u T0 Fy;obtain rfl:=T0
 exact AutoFloatOps.le_0 ⟨mN _,by unfold mO;rw [DN Fx Fy,IS Fx Fy]⟩
theorem AM:n0 prog w A X (bP .Eq) (.fx f) (.fx g) (.bool (tm f g)):=λs x y z rp rq=>by
 refine oU rp ?_;clear rp;intro x t T0 Fx;obtain rfl:=T0;refine oU rq ?_;clear rq;intro y u T0 Fy;obtain rfl:=T0
 exact jZ ⟨mN _,by unfold mO;rw [IS Fx Fy]⟩
def xg (n:Int):Fx:=⟨decide (n<0),de n.natAbs U⟩
theorem OB (n:Int):fz (xg n).s (xg n).m=n*2^1074:=by
 show fz (decide (n<0)) (de n.natAbs U)=_
 rw [jU,Float64.sgn_mul]
 have e1:(U:Int)=(2:Int)^1074:=by unfold U;rw [Int.natCast_pow];rfl
 rw [e1]
 congr 1
 unfold fz
 by_cases h:n<0
 ·rw [decide_eq_true h];simp only [if_true];omega
 ·rw [decide_eq_false h];simp only [a9,if_false];omega
theorem JR (hx:FR f x) (n:Int):mj x n=aa (compare (fz f.s f.m) (fz (xg n).s (xg n).m)):=by
 refine vk hx.1 λa m e h=> ?_
 rw [Float64.cmpInt_right h,hx.2,OB]
theorem yL (hx:FR f x) (n:Int):(mj x n==aa Ordering.eq)=tm f (xg n):=by
 rw [JR hx,GE]
 rcases jp (fz f.s f.m) (fz (xg n).s (xg n).m) with h|h|h
 ·rw [jq.mpr h,decide_eq_false (by exact (mu (.i (.B xA xB) (.n (.E xA xB))) [] [_,_]) h)];rfl
 ·rw [h,decide_eq_true rfl,Int.compare_eq_eq.mpr rfl];rfl
 ·rw [jr.mpr h,decide_eq_false (by exact (mu (.i (.B xB xA) (.n (.E xA xB))) [] [_,_]) h)];rfl
theorem K3:n0 prog w A X (bP .Eq) (.fx f) (.int n) (.bool (tm f (xg n))):=λs x y z rp rq=>by
 refine oU rp ?_;clear rp;intro x t T0 Fx;obtain rfl:=T0;obtain ⟨u,rfl⟩:=rq
 exact eq_fi ⟨mN _,by unfold mO;rw [yL Fx]⟩
theorem KT:n0 prog w A X (bP .Eq) (.int n) (.fx f) (.bool (tm f (xg n))):=λs x y z rp rq=>by
 obtain ⟨u,rfl⟩:=rp;refine oU rq ?_;clear rq;intro x t T0 Fx;obtain rfl:=T0
 exact eq_if ⟨mN _,by unfold mO;rw [yL Fx]⟩
end
end
section
open PySem.Calls PyProof.Rows PySem.Flt
section
variable {prog:aH} {w:av} {A:aX} {X:List aF} {I:aW->Prop}
theorem Bt (e:IR f=aa n):pR prog w A X I (.type "int") [.fx f] (.int n):=λs vs z z r=>by
 refine mQ (qI r) λv T0 r1=> ?_;obtain rfl:=T0
 refine oU r1 ?_;clear r1;intro x t T0 Fx;obtain rfl:=T0
 refine wN (Pe Fx e) λa m k hd ht=> ?_
 exact call_int_float hd (qx ht)
def uc:PV->PV->Bool
 |.int a,.int b=>decide (a<b)
 |.fx f,.fx g=>vf f g
 |_,_=>false
def qn:PV->PV->Prop
 |.int _,.int _=>True
 |.fx _,.fx _=>True
 |_,_=>False
theorem xY (n:qn p q):(∃a b,p= .int a/\q= .int b)\/ ∃f g,p= .fx f/\q= .fx g:=by
 cases p with
 |int a=>cases q with
  |int b=>exact .inl ⟨a,b,rfl,rfl⟩
  |_=>exact n.elim
 |fx a=>cases q with
  |fx b=>exact .inr ⟨a,b,rfl,rfl⟩
  |_=>exact n.elim
 |_=>exact n.elim
theorem vK (n:qn p q) (a:mO X h p v) (b:mO X h q u):ltV v u=uc p q:=by
 rcases xY n with ⟨_,_,rfl,rfl⟩|⟨_,_,rfl,rfl⟩
 ·obtain ⟨t,rfl⟩:=a;obtain ⟨t',rfl⟩:=b;rfl
 ·refine oU a ?_;clear a;intro x t T0 Fx;obtain rfl:=T0;refine oU b ?_;clear b;intro y t' T0 Fy;obtain rfl:=T0
  exact DN Fx Fy
theorem sC (n:qn p q) (a:mO X h p v):NumV v:=by
 rcases xY n with ⟨_,_,rfl,rfl⟩|⟨_,_,rfl,rfl⟩
 ·obtain ⟨t,rfl⟩:=a;constructor
 ·obtain ⟨x,t,rfl,Fx⟩:=a;constructor
def nw (p q r:PV):PV:=cond (uc p q) (cond (uc q r) r q) (cond (uc p r) r p)
def qm (p q r:PV):PV:=cond (uc q p) (cond (uc r q) r q) (cond (uc r p) r p)
theorem yB {s:aq} {Q:ay->aq->Prop} (hh:A.handled=az) (ha:NumV a) (hb:NumV b) (hc:NumV c)
  (h: ∀h' tk,mT s.heap h'->Q (cond (ltV a b) (cond (ltV b c) c b) (cond (ltV a c) c a)) {s with heap:=h',toks:=tk}):
  aC (aI prog w) A (ft (.builtin "max") [a,b,c]) Q E s:=by
 have hT:(s.heap.push {cls:=.type "tuple",data:=.seq #[a,b,c]}).IsTuple s.heap.objs.size #[a,b,c]:=⟨_,au _ rfl,rfl,0,rfl⟩
 refine call_max_three (eo hT ?_)
 have hsz:(s.heap.push {cls:=.type "tuple",data:=.seq #[a,b,c]}).objs.size=s.heap.objs.size+1:=cw ..
 refine ⟨_,[_,s.heap.objs.size],[_],_,_,_,_,rfl,kJ (A:=A.in1) hh _ s.heap.objs.size (by rw [hsz];exact di (du _)) #[a,b,c],
  ⟨⟨_,au _ rfl,rfl,rfl⟩,hT.push _⟩,λd hd=> ?_,by simp,cmpOf_gt #[a,b,c] (by simp [ha,hb,hc]),λv h' tk hP hk=> ?_⟩
 ·show d<((s.heap.push _).push _).objs.size
  rw [cw,hsz]
  rcases ao.mp hd with rfl|hd
  ·rw [hsz];exact du _
  ·rcases ao.mp hd with rfl|hd
   ·exact gG (du _)
   ·cases hd
 ·have W6:mT s.heap h':=λd o e=>by
   refine hk d o (λhm=> ?_) (aO _ (aO _ e))
   rcases ao.mp hm with e1|hm
   ·have:=aR e;rw [e1,hsz] at this;exact cn _ (gH this)
   ·cases hm
  have:=h h' tk W6
  have hv:v=cond (ltV a b) (cond (ltV b c) c b) (cond (ltV a c) c a):=by
   have hP':(#[a,b,c]:Array ay)[lZ (λi j=>ltV ((#[a,b,c]:Array ay).getD j .none) ((#[a,b,c]:Array ay).getD i .none)) 2]? =aa v:=hP
   cases e1:ltV a b<;>cases e2:ltV b c<;>cases e3:ltV a c<;>simpa [lZ,e1,e2,e3] using hP'.symm
  rw [hv];exact this
theorem yx {s:aq} {Q:ay->aq->Prop} (hh:A.handled=az) (ha:NumV a) (hb:NumV b) (hc:NumV c)
  (h: ∀h' tk,mT s.heap h'->Q (cond (ltV b a) (cond (ltV c b) c b) (cond (ltV c a) c a)) {s with heap:=h',toks:=tk}):
  aC (aI prog w) A (ft (.builtin "min") [a,b,c]) Q E s:=by
 have hT:(s.heap.push {cls:=.type "tuple",data:=.seq #[a,b,c]}).IsTuple s.heap.objs.size #[a,b,c]:=⟨_,au _ rfl,rfl,0,rfl⟩
 refine call_min_three (eo hT ?_)
 have hsz:(s.heap.push {cls:=.type "tuple",data:=.seq #[a,b,c]}).objs.size=s.heap.objs.size+1:=cw ..
 refine ⟨_,[_,s.heap.objs.size],[_],_,_,_,_,rfl,kJ (A:=A.in1) hh _ s.heap.objs.size (by rw [hsz];exact di (du _)) #[a,b,c],
  ⟨⟨_,au _ rfl,rfl,rfl⟩,hT.push _⟩,λd hd=> ?_,by simp,cmpOf_lt #[a,b,c] (by simp [ha,hb,hc]),λv h' tk hP hk=> ?_⟩
 ·show d<((s.heap.push _).push _).objs.size
  rw [cw,hsz]
  rcases ao.mp hd with rfl|hd
  ·rw [hsz];exact du _
  ·rcases ao.mp hd with rfl|hd
   ·exact gG (du _)
   ·cases hd
 ·have W6:mT s.heap h':=λd o e=>by
   refine hk d o (λhm=> ?_) (aO _ (aO _ e))
   rcases ao.mp hm with e1|hm
   ·have:=aR e;rw [e1,hsz] at this;exact cn _ (gH this)
   ·cases hm
  have:=h h' tk W6
  have hv:v=cond (ltV b a) (cond (ltV c b) c b) (cond (ltV c a) c a):=by
   have hP':(#[a,b,c]:Array ay)[lZ (λi j=>ltV ((#[a,b,c]:Array ay).getD i .none) ((#[a,b,c]:Array ay).getD j .none)) 2]? =aa v:=hP
   cases e1:ltV b a<;>cases e2:ltV c b<;>cases e3:ltV c a<;>simpa [lZ,e1,e2,e3] using hP'.symm
  rw [hv];exact this
theorem AK (hh:A.handled=az) (n1:qn p q) (n2:qn q r) (n3:qn p r) (n4:qn r p):pR prog w A X I (.builtin "max") [p,q,r] (nw p q r):=λs vs z z rr=>by
 refine rY (zQ rr) λv1 v2 v3 T0 r1 r2 r3=> ?_;obtain rfl:=T0
 refine yB hh (sC n1 r1) (sC n2 r2) (sC n4 r3) λh' tk k=>⟨⟨_,_,rfl,k⟩,?_⟩
 rw [vK n1 r1 r2,vK n2 r2 r3,vK n3 r1 r3]
 unfold nw
 cases uc p q<;>cases uc q r<;>cases uc p r<;>dsimp only [cond]<;>first|exact r1.keep k|exact r2.keep k|exact r3.keep k
theorem sa (n:qn p q):qn q p:=by
 rcases xY n with ⟨_,_,rfl,rfl⟩|⟨_,_,rfl,rfl⟩<;>trivial
theorem AX (hh:A.handled=az) (n1:qn p q) (n2:qn q r) (n3:qn p r) (n4:qn r p):pR prog w A X I (.builtin "min") [p,q,r] (qm p q r):=λs vs z z rr=>by
 refine rY (zQ rr) λv1 v2 v3 T0 r1 r2 r3=> ?_;obtain rfl:=T0
 refine yx hh (sC n1 r1) (sC n2 r2) (sC n4 r3) λh' tk k=>⟨⟨_,_,rfl,k⟩,?_⟩
 rw [vK (sa n1) r2 r1,vK (sa n2) r3 r2,vK n4 r3 r1]
 unfold qm
 cases uc q p<;>cases uc r q<;>cases uc r p<;>dsimp only [cond]<;>first|exact r1.keep k|exact r2.keep k|exact r3.keep k
end
def Hr (op:Fx->Fx->Option Fx) (p q:PV):Option PV:=match nv p with
 |none=>az
 |some f=>match nv q with
  |none=>az
  |some g=>match op f g with
   |none=>az
   |some r=>cond (wA p||wA q) (aa (.fx r)) az
theorem wl (e:Hr op p q=aa r): ∃f g k,nv p=aa f/\nv q=aa g/\op f g=aa k/\(wA p||wA q)=ai/\r= .fx k:=by
 unfold Hr at e
 cases h1:nv p with
 |none=>rw [h1] at e;exact nB e
 |some f=>
  cases h2:nv q with
  |none=>rw [h1,h2] at e;exact nB e
  |some g=>
   rw [h1,h2] at e
   dsimp only at e
   cases h3:op f g with
   |none=>rw [h3] at e;exact nB e
   |some k=>
    rw [h3] at e
    dsimp only at e
    cases h4:(wA p||wA q) with
    |false=>rw [h4] at e;exact nB e
    |true=>rw [h4] at e;obtain rfl:=am e;exact ⟨f,g,k,rfl,rfl,h3,rfl,rfl⟩
def qB (p q:PV):Option PV:=match p,q with
 |.int a,.int b=>aa (.int (a+b))
 |p,q=>Hr Cs p q
def nQ (p q:PV):Option PV:=match p,q with
 |.int a,.int b=>aa (.int (a - b))
 |p,q=>Hr Mp p q
def pE (p q:PV):Option PV:=Hr KZ p q
def qH (p q:PV):Option PV:=match p,q with
 |.int a,.int b=>match AS a b with|none=>az|some r=>aa (.fx r)
 |p,q=>Hr yU p q
def Bp (p:PV):Option PV:=match p with
 |.fx f=>match DV f with|none=>az|some r=>aa (.fx r)
 |_=>az
def rO (p q:PV):Bool:=match p,q with
 |.int a,.int b=>a==b
 |.fx f,.fx g=>tm f g
 |.fx f,.int n=>tm f (xg n)
 |.int n,.fx f=>tm f (xg n)
 |_,_=>false
noncomputable def uw:PV->Bool|.int _=>ai|.fx _=>ai|_=>false
section
variable {prog:aH} {w:av} {A:aX} {X:List aF} {I:aW->Prop} {p q r:PV}
theorem qA (e:qB p q=aa r):n0 prog w A X (ca .Add) p q r:=by
 unfold qB at e
 split at e
 ·obtain rfl:=am e;exact nV
 ·refine uI (wl e) λf g k a b c d T0=> ?_;obtain rfl:=T0;exact Kl a b c d
theorem nN (e:nQ p q=aa r):n0 prog w A X (ca .Sub) p q r:=by
 unfold nQ at e
 split at e
 ·obtain rfl:=am e;exact nI
 ·refine uI (wl e) λf g k a b c d T0=> ?_;obtain rfl:=T0;exact JS a b c d
theorem pI (e:pE p q=aa r):n0 prog w A X (ca .Mult) p q r:=by
 refine uI (wl e) λf g k a b c d T0=> ?_;obtain rfl:=T0;exact Kd a b c d
theorem rf (e:qH p q=aa r):n0 prog w A X (ca .Div) p q r:=by
 unfold qH at e
 split at e
 ·split at e
  ·exact nB e
  ·rename_i h;obtain rfl:=am e;exact J1 h
 ·refine uI (wl e) λf g k a b c d T0=> ?_;obtain rfl:=T0;exact JB a b c d
theorem Aq (e:Bp p=aa r):n0 prog w A X (ca .Mod) p (.float r6) r:=by
 unfold Bp at e
 split at e
 ·split at e
  ·exact nB e
  ·rename_i h;obtain rfl:=am e;exact I5 h
 ·exact nB e
theorem GX (h:uw p=ai):(∃n,p= .int n)\/ ∃f,p= .fx f:=by
 cases p with
 |int n=>exact .inl ⟨n,rfl⟩
 |fx f=>exact .inr ⟨f,rfl⟩
 |_=>exact o8 h
theorem tI (hp:uw p=ai) (hq:uw q=ai):n0 prog w A X (bP .Eq) p q (.bool (rO p q)):=by
 rcases GX hp with ⟨_,rfl⟩|⟨_,rfl⟩<;>rcases GX hq with ⟨_,rfl⟩|⟨_,rfl⟩
 ·exact pY
 ·exact KT
 ·exact K3
 ·exact AM
end
end
section
open PySem.Calls PyProof.Rows
noncomputable def nK (i:Nat):ef:=(ms.main.body[i]?).getD (.Pass ku)
def oY (j:Nat):ef:=match nK 43 with
 |.ClassDef _ _ _ b _ _ _ _ _ _ _=>(b[j]?).getD (.Pass ku)
 |_=>.Pass ku
noncomputable def nU (st:ef):List ef:=match st with
 |.FunctionDef _ _ b _ _ _ _ _ _ _=>b
 |_=>[]
noncomputable def Sj (st:ef) (q:Str) (dV kV doc pm:ay) (an:Option aF) (cdv ct:ay):bz:=match st with
 |.FunctionDef n a b _ _ _ sc _ _ _=>{name:=n,qualname:=q,params:=a,body:=.stmts b,scope:=sc,globals:=bm,closure:=[],defaults:=dV,kwdefaults:=kV,doc:=doc,pyModule:=pm,annotations:=an,code:=cdv,closureTuple:=ct,builtins:=dg}
 |_=>ku
noncomputable def pw (k:Nat):Nat:=if k<10 then 48+k else 55+k
def ph (k:Nat):List Nat:=[61,pw (k/16),pw (k % 16)]
def Ak (n:Nat):List ay:=(ag n).map λc=>.str (S (ph c)) (299+4*c)
def uY (l:List ay) (cs:List Nat) (t:Nat):List ay:=cs.zipIdx.foldl (λl c=>l.set c.1 (.str (S [c.1]) (t+3*c.2))) l
noncomputable def yb:List Nat:=[45,33,42,43,47]++(ag 26).map (97+ ·)++(ag 26).map (65+ ·)++(ag 10).map (48+ ·)
noncomputable def xZ:List Nat:=((ag 29).map (32+ ·))++(ag 65).map (62+ ·)++[9]
noncomputable def JL (st:ef):Str:=match st with
 |.FunctionDef n _ _ _ _ _ _ _ _ _=>n
 |_=>""
noncomputable def kh (P:aQ) (x:Str):Int:=g7 P x
def en (P:aQ) (x:String) (t:Nat) (v:ay):jd:=⟨kh P (.ofString x),.str (.ofString x) t,v⟩
noncomputable def sS (x:String) (t:Nat):ay:=.str (.ofString x) t
noncomputable def oD (l:Array jd) (n:Nat):Obj:=⟨.type "dict",az,.dict l n,#[]⟩
noncomputable def oT (l:Array ay):Obj:=⟨.type "tuple",az,.seq l 0,#[]⟩
noncomputable def oL (l:Array ay):Obj:=⟨.type "list",az,.seq l 0,#[]⟩
noncomputable def oC (l:Array ay):Obj:=⟨.type "code",az,.fields l,#[]⟩
def Tw (st:ef) (q:Str):bz:={Sj st q .none .none .none .none az .none .none with globals:=0,builtins:=0}
noncomputable def oF (c:String) (l:List ay):Obj:=⟨.type c,az,.fields l.toArray,#[]⟩
noncomputable def oN (l:List ay):Obj:=⟨.none,az,.fields l.toArray,#[]⟩
def nS (t:Nat) (l:List String):List ay:=l.zipIdx.map λq=>sS q.1 (t+q.2)
noncomputable def iS (l:List Nat):List ay:=l.map λn=>.int (.ofNat n) 0
def Q4 (t:Nat):ay:=sS "/claim/cut.py" t
noncomputable def fo (fd:bz):Obj:=⟨.type "function",az,.func fd,#[]⟩
def mA:ay:=sS "__main__" 164
def mB:ay:=sS "cpy313.email.quoprimime" 1336
def mC:ay:=sS "cpy313.colorsys" 1900
def mD:ay:=sS "cpy313.smtplib" 1985
def mE:ay:=sS "cpy313.wsgiref.headers" 2054
def mF:ay:=sS "law_wv0059_01" 2317
abbrev FF (α:Type):=ef->String->ay->ay->Nat->Nat->Nat->Nat->Nat->Nat->Option (List String)->α
def rQ:FF bz:=λst q md dv c z z z z z z=>Sj st (.ofString q) dv .none .none md az (.ref c) .none
def Iw (n q:ay) (t ln ac ko fl a e k:Nat) (b:Bool) (vs:List ay):Obj:=oC ([n,q,Q4 (t+2),.int (.ofNat ln) 0,.int (.ofNat ac) 0,.int 0 0,.int (.ofNat ko) 0,.int (.ofNat fl) 0,.ref a,.bool b,.int (.ofNat k) 0,.ref (a+1),.none]++vs++[.int (.ofNat e) 0,.int (.ofNat ln) 0,Q4 (e+1)]).toArray
def Nw:FF Obj:=λst q z z c t ln ac ko fl vs=>match vs with
 |some l=>Iw (.str (JL st) t) (sS q (t+1)) t ln ac ko fl (c - 5) (t+3+l.length) 276 ai [.ref (c - 3),.ref (c - 2),.ref (c - 1)]
 |none=>Iw (.str (JL st) t) (sS q (t+1)) t ln ac ko fl (c - 3) (t+3) 276 ai [.none,.none,.ref (c - 1)]
def qp:FF (List Obj):=λst q md dv c t ln ac ko fl vs=>oT #[]::oN []::((match vs with
 |some l=>[oT (nS (t+3) l).toArray,oT #[]]
 |none=>[])++[⟨.none,az,.func (Tw st (.ofString q)),#[]⟩,Nw st q md dv c t ln ac ko fl vs,fo (rQ st q md dv c t ln ac ko fl vs)])
def sg:FF Frag:=λst q md dv c t ln ac ko fl vs=>[(c,Nw st q md dv c t ln ac ko fl vs),(c+1,fo (rQ st q md dv c t ln ac ko fl vs))]
def PH {α:Type} (f:FF α):α:=f (nK 16) "unquote" mB .none 60 1835 21 1 0 3 (aa ["s"])
def Rh {α:Type} (f:FF α):α:=f (nK 17) "quote" mB .none 67 1842 23 1 0 3 (aa ["c"])
def Rd {α:Type} (f:FF α):α:=f (nK 18) "header_encode" mB (.ref 69) 75 1850 25 2 0 3 (aa ["header_bytes","charset","encoded"])
def PU {α:Type} (f:FF α):α:=f (nK 22) "body_encode" mB (.ref 82) 88 1868 34 3 0 3 (aa ["body","maxlinelen","eol","soft_break","maxlinelen1","encoded_body","append","line","start","laststart","stop","room","q"])
def PI {α:Type} (f:FF α):α:=f (nK 23) "decode" mB (.ref 90) 96 1887 72 2 0 3 (aa ["encoded","eol","decoded","line","i","n","c"])
def KQ {α:Type} (f:FF α):α:=f (nK 28) "rgb_to_hls" mC .none 103 1914 106 3 0 3 (aa ["r","g","b","maxc","minc","sumc","rangec","l","s","rc","gc","bc","h"])
def Mu {α:Type} (f:FF α):α:=f (nK 29) "hls_to_rgb" mC .none 110 1933 129 3 0 3 (aa ["h","l","s","m2","m1"])
def Mh {α:Type} (f:FF α):α:=f (nK 30) "_v" mC .none 117 1944 138 3 0 3 (aa ["m1","m2","hue"])
def L7 {α:Type} (f:FF α):α:=f (nK 31) "rgb_to_hsv" mC .none 124 1953 147 3 0 3 (aa ["r","g","b","maxc","minc","rangec","v","s","rc","gc","bc","h"])
def Ln {α:Type} (f:FF α):α:=f (nK 32) "hsv_to_rgb" mC .none 131 1971 166 3 0 3 (aa ["h","s","v","i","f","p","q","t"])
def LK {α:Type} (f:FF α):α:=f (nK 37) "quotedata" mD .none 148 2047 191 1 0 3 (aa ["data"])
def SR {α:Type} (f:FF α):α:=f (nK 42) "_formatparam" mE (.ref 165) 171 2151 197 3 0 3 (aa ["param","value","quote"])
def LU {α:Type} (f:FF α):α:=f (oY 0) "Headers.__init__" mE (.ref 180) 186 2172 208 2 0 3 (aa ["self","headers","k","v"])
def Mm {α:Type} (f:FF α):α:=f (oY 1) "Headers._convert_string_type" mE .none 193 2182 218 2 1 3 (aa ["self","value","name","regex"])
def S4 {α:Type} (f:FF α):α:=f (oY 2) "Headers.__len__" mE .none 200 2192 226 1 0 3 (aa ["self"])
def Tp {α:Type} (f:FF α):α:=f (oY 3) "Headers.__setitem__" mE .none 207 2199 229 3 0 3 (aa ["self","name","val"])
def S8 {α:Type} (f:FF α):α:=f (oY 4) "Headers.__delitem__" mE .none 212 2208 233 2 0 3 az
def SW {α:Type} (f:FF α):α:=f (oY 5) "Headers.__getitem__" mE .none 219 2214 237 2 0 3 (aa ["self","name"])
def Th {α:Type} (f:FF α):α:=f (oY 6) "Headers.__contains__" mE .none 226 2222 240 2 0 3 (aa ["self","name"])
def LX {α:Type} (f:FF α):α:=f (oY 7) "Headers.get_all" mE .none 231 2230 243 2 0 3 az
def Ll {α:Type} (f:FF α):α:=f (oY 8) "Headers.get" mE (.ref 233) 239 2236 247 3 0 3 (aa ["self","name","default","k","v"])
def K1 {α:Type} (f:FF α):α:=f (oY 9) "Headers.keys" mE .none 244 2247 254 1 0 3 az
def LM {α:Type} (f:FF α):α:=f (oY 10) "Headers.values" mE .none 249 2253 257 1 0 3 az
def Lh {α:Type} (f:FF α):α:=f (oY 11) "Headers.items" mE .none 256 2259 260 1 0 3 (aa ["self"])
def Td {α:Type} (f:FF α):α:=f (oY 12) "Headers.__repr__" mE .none 263 2266 263 1 0 3 (aa ["self"])
def Mw {α:Type} (f:FF α):α:=f (oY 13) "Headers.__str__" mE .none 268 2273 266 1 0 3 az
def SQ {α:Type} (f:FF α):α:=f (oY 14) "Headers.__bytes__" mE .none 275 2279 269 1 0 3 (aa ["self"])
def SO {α:Type} (f:FF α):α:=f (oY 15) "Headers.setdefault" mE .none 282 2286 272 3 0 3 (aa ["self","name","value"])
def K2 {α:Type} (f:FF α):α:=f (oY 16) "Headers.add_header" mE .none 289 2295 275 3 0 11 (aa ["self","_name","_value","_params","parts","k","v"])
def MU {α:Type} (f:FF α):α:=f (nK 45) "_law_hue" mF .none 303 2319 289 1 0 3 (aa ["place","sixth","rise","fall","paints","red","green","blue"])
def L3 {α:Type} (f:FF α):α:=f (nK 46) "_law_turned" mF .none 308 2333 295 5 0 3 az
def Lf {α:Type} (f:FF α):α:=f (nK 47) "_law_grey" mF .none 315 2339 309 2 0 3 (aa ["value","way","grey","told"])
def Lw {α:Type} (f:FF α):α:=f (nK 48) "_law_told" mF .none 320 2349 313 1 0 3 az
def LR {α:Type} (f:FF α):α:=f (nK 49) "_law_refused" mF .none 327 2355 326 1 0 3 (aa ["attempt","error"])
def Fp {α:Type} (f:FF α):α:=f (nK 50) "law" mF .none 332 2363 332 1 0 3 az
def Tq:bz:=PH rQ
def SV:bz:=Rh rQ
def Tf:bz:=Rd rQ
def ww:bz:=PU rQ
def w4:bz:=PI rQ
def IT:bz:=KQ rQ
def RE:bz:=Mu rQ
def RP:bz:=Mh rQ
def xn:bz:=L7 rQ
def Ru:bz:=Ln rQ
def Sb:bz:=LK rQ
def tq:bz:=LU rQ
def Bz:bz:=Mm rQ
def Se:bz:=LX rQ
def RJ:bz:=Ll rQ
def Sa:bz:=K1 rQ
def Rn:bz:=LM rQ
def Rz:bz:=Lh rQ
def R7:bz:=Mw rQ
def rh:bz:=K2 rQ
def M7:bz:=MU rQ
def zN:bz:=L3 rQ
def wT:bz:=Lf rQ
def Ir:bz:=Lw rQ
def qz:bz:=LR rQ
def pA:bz:=Fp rQ
def gE (P:aQ):List jd:=[en P "__doc__" 166 .none,en P "__package__" 167 .none,en P "__loader__" 168 (.builtin "__main__.__loader__#opaque"),en P "__spec__" 169 .none,en P "__annotations__" 170 (.ref 6),en P "__builtins__" 171 (.ref 4),en P "__file__" 173 (sS "/claim/cut.py" 172),en P "__cached__" 174 .none,en P "_sre" 275 (.ref 12),en P "_wall" 288 (.ref 38),en P "CRLF_quoprimime" 290 (sS "\r\n" 289),en P "NL" 292 (sS "\n" 291),en P "_QUOPRI_MAP" 1320 (.ref 41),en P "_QUOPRI_HEADER_MAP" 1321 (.ref 46),en P "_QUOPRI_BODY_MAP" 1322 (.ref 48),en P "ascii_lowercase" 1324 (sS "abcdefghijklmnopqrstuvwxyz" 1323),en P "ascii_uppercase" 1326 (sS "ABCDEFGHIJKLMNOPQRSTUVWXYZ" 1325),en P "ascii_letters" 1328 (sS "abcdefghijklmnopqrstuvwxyzABCDEFGHIJKLMNOPQRSTUVWXYZ" 1327),en P "digits" 1330 (sS "0123456789" 1329),en P "hexdigits" 1335 (sS "0123456789abcdefABCDEF" 1334),en P "unquote" 1841 (.ref 61),en P "quote" 1848 (.ref 68),en P "header_encode" 1858 (.ref 76),en P "_QUOPRI_BODY_ENCODE_MAP" 1859 (.ref 78),en P "body_encode" 1886 (.ref 89),en P "decode" 1899 (.ref 97),en P "ONE_THIRD" 1905 (.float 4599676419421066581 1904),en P "ONE_SIXTH" 1909 (.float 4595172819793696085 1908),en P "TWO_THIRD" 1913 (.float 4604180019048437077 1912),en P "rgb_to_hls" 1932 (.ref 104),en P "hls_to_rgb" 1943 (.ref 111),en P "_v" 1952 (.ref 118),en P "rgb_to_hsv" 1970 (.ref 125),en P "hsv_to_rgb" 1984 (.ref 132),en P "_twin_re_1" 2002 (.ref 137),en P "_twin_re_2" 2044 (.ref 142),en P "CRLF_smtplib" 2046 (sS "\r\n" 2045),en P "quotedata" 2053 (.ref 149),en P "tspecials" 2089 (.ref 154),en P "_name_disallowed_re" 2115 (.ref 159),en P "_value_disallowed_re" 2149 (.ref 164),en P "_formatparam" 2159 (.ref 172),en P "Headers" 2316 (.ref 293),en P "_law_hue" 2332 (.ref 304),en P "_law_turned" 2338 (.ref 309),en P "_law_grey" 2348 (.ref 316),en P "_law_told" 2354 (.ref 321),en P "_law_refused" 2362 (.ref 328),en P "law" 2368 (.ref 333)]
def gD (P:aQ) (m:ay) (k n:Nat):Obj:=oD (en P "__name__" 165 m::(gE P).take k).toArray n
noncomputable def oQ (l:List ay) (n:Nat):Obj:=⟨.type "list",az,.seq l.toArray n,#[]⟩
def o3 (P:aQ):Obj:=gD P (sS "law_wv0059_01" 2317) 49 52
def PW:Obj:=oQ (Ak 256) 256
def Ni:Obj:=oQ ((uY (Ak 256) yb 1347).set 32 (sS "_" 1546)) 0
def Nf:Obj:=oQ (uY (Ak 256) xZ 1552) 0
def NG:Obj:=oT #[(sS "iso-8859-1" 1849)]
def NB:Obj:=oQ (uY (uY (Ak 256) xZ 1552) [13,10] 1863) 0
def JV:Obj:=oT #[(.int 76 1867),(sS "\n" 291)]
def Nu:Obj:=oT #[(sS "\n" 291)]
def pT (l:List Nat):Obj:=oT (iS l).toArray
def pP (s:String) (t fl a n:Nat):Obj:=oF "re.Pattern" [sS s t,.int (.ofNat fl) (t+3+n),.int 0 0,.none,.none,.ref a,.int 0 0]
noncomputable def QR:List Nat:=[14,4,0,1,1,6,1,16,46,1]
def Qq:Obj:=pT QR
def Lx:Obj:=pP "(?m)^\\." 1988 40 136 10
noncomputable def Qi:List Nat:=[14,9,4,1,2,16,10,16,13,0,7,7,16,13,16,10,15,18,5,16,10,15,13,11,16,13,5,5,0,16,10,1,15,2,0,1]
def PB:Obj:=pT Qi
def LO:Obj:=pP "(?:\\r\\n|\\n|\\r(?!\\n))" 2004 32 141 36
noncomputable def SG:List Nat:=[14,14,4,1,1,9,0,4227896069,939524097,0,0,0,0,0,0,13,11,9,0,4227896069,939524097,0,0,0,0,0,0,1]
noncomputable def QF:List Nat:=[14,10,4,1,1,22,0,31,16,127,0,13,7,22,0,31,16,127,0,1]
def QW:Obj:=pT QF
def Ip:Obj:=pP "[\\x00-\\x1F\\x7F]" 2091 32 158 20
noncomputable def Qf:List Nat:=[14,14,4,1,1,9,4294966783,0,0,2147483648,0,0,0,0,0,13,11,9,4294966783,0,0,2147483648,0,0,0,0,0,1]
def Qr:Obj:=pT Qf
def Cj:Obj:=pP "[\\x00-\\x08\\x0A-\\x1F\\x7F]" 2117 32 163 28
def Jc:Obj:=oT #[.none]
def Mc:Obj:=oT #[.none]
def SE (P:aQ):List jd:=[en P "__firstlineno__" 2171 (.int 206 2170),en P "__init__" 2181 (.ref 187),en P "_convert_string_type" 2191 (.ref 194),en P "__len__" 2198 (.ref 201),en P "__setitem__" 2207 (.ref 208),en P "__delitem__" 2213 (.ref 213),en P "__getitem__" 2221 (.ref 220),en P "__contains__" 2229 (.ref 227),en P "get_all" 2235 (.ref 232),en P "get" 2246 (.ref 240),en P "keys" 2252 (.ref 245),en P "values" 2258 (.ref 250),en P "items" 2265 (.ref 257),en P "__repr__" 2272 (.ref 264),en P "__str__" 2278 (.ref 269),en P "__bytes__" 2285 (.ref 276),en P "setdefault" 2294 (.ref 283),en P "add_header" 2307 (.ref 290),en P "__static_attributes__" 2309 (.ref 291),en P "__dict__" 2311 (.ref 294),en P "__weakref__" 2313 (.ref 295),en P "__doc__" 2314 .none]
def QM (P:aQ):Obj:=oD (en P "__module__" 2167 (sS "cpy313.wsgiref.headers" 2054)::SE P).toArray 4
noncomputable def oK (n:String) (a d:Nat) (s:Array (Option ay)):Obj:=⟨.type "type",az,.cls {name:=.ofString n,bases:=[.type "object"],mro:=[.ref a,.type "object"],ns:=d,qualname:=.ofString n,hasDict:=ai,slotNames:=[],subclasses:=[],abstract:=false,collection:=az,hasDel:=false},s⟩
def PM:Obj:=oK "Headers" 293 292 #[az,az,aa (sS "Headers" 2160),aa (sS "Headers" 2168),aa (.builtin "object.__new__"),aa (.bool ai)]
def KB (P:aQ):Frag:=[(3,o3 P),(41,PW),(46,Ni),(48,Nf)]++(PH sg++(Rh sg++([(69,NG)]++(Rd sg++([(78,NB),(82,JV)]++(PU sg++([(90,Nu)]++(PI sg++(KQ sg++(Mu sg++(Mh sg++(L7 sg++(Ln sg++([(136,Qq),(137,Lx),(141,PB),(142,LO)]++(LK sg++([(158,QW),(159,Ip),(163,Qr),(164,Cj),(180,Jc)]++(LU sg++(Mm sg++(LX sg++([(233,Mc)]++(Ll sg++(K1 sg++(LM sg++(Lh sg++(Mw sg++(K2 sg++([(292,QM P),(293,PM)]++(MU sg++(L3 sg++(Lf sg++(Lw sg++(LR sg++(Fp sg)))))))))))))))))))))))))))))))))
structure qW (P:aQ) (a:aF) (fd:bz) (body:List ef):Prop where
 e:(KB P).lookup a=aa ⟨.type "function",az,.func fd,#[]⟩
 b:fd.body= .stmts body
 c:codeIn (KB P) fd.code fd.qualname=ai
theorem Q7 (P:aQ):qW P 61 Tq (nU (nK 16)):=⟨by kernel_rfl,rfl,by kernel_rfl⟩
theorem Px (P:aQ):qW P 68 SV (nU (nK 17)):=⟨by kernel_rfl,rfl,by kernel_rfl⟩
theorem I2 (P:aQ):qW P 76 Tf (nU (nK 18)):=⟨by kernel_rfl,rfl,by kernel_rfl⟩
theorem CA (P:aQ):qW P 89 ww (nU (nK 22)):=⟨by kernel_rfl,rfl,by kernel_rfl⟩
theorem B1 (P:aQ):qW P 97 w4 (nU (nK 23)):=⟨by kernel_rfl,rfl,by kernel_rfl⟩
theorem DS (P:aQ):qW P 104 IT (nU (nK 28)):=⟨by kernel_rfl,rfl,by kernel_rfl⟩
theorem I1 (P:aQ):qW P 111 RE (nU (nK 29)):=⟨by kernel_rfl,rfl,by kernel_rfl⟩
theorem DQ (P:aQ):qW P 118 RP (nU (nK 30)):=⟨by kernel_rfl,rfl,by kernel_rfl⟩
theorem vy (P:aQ):qW P 125 xn (nU (nK 31)):=⟨by kernel_rfl,rfl,by kernel_rfl⟩
theorem DY (P:aQ):qW P 132 Ru (nU (nK 32)):=⟨by kernel_rfl,rfl,by kernel_rfl⟩
theorem IY (P:aQ):qW P 149 Sb (nU (nK 37)):=⟨by kernel_rfl,rfl,by kernel_rfl⟩
theorem RM (P:aQ):qW P 187 tq (nU (oY 0)):=⟨by kernel_rfl,rfl,by kernel_rfl⟩
theorem zv (P:aQ):qW P 194 Bz (nU (oY 1)):=⟨by kernel_rfl,rfl,by kernel_rfl⟩
theorem MX (P:aQ):qW P 232 Se (nU (oY 7)):=⟨by kernel_rfl,rfl,by kernel_rfl⟩
theorem Ic (P:aQ):qW P 240 RJ (nU (oY 8)):=⟨by kernel_rfl,rfl,by kernel_rfl⟩
theorem HM (P:aQ):qW P 245 Sa (nU (oY 9)):=⟨by kernel_rfl,rfl,by kernel_rfl⟩
theorem Nh (P:aQ):qW P 250 Rn (nU (oY 10)):=⟨by kernel_rfl,rfl,by kernel_rfl⟩
theorem DT (P:aQ):qW P 257 Rz (nU (oY 11)):=⟨by kernel_rfl,rfl,by kernel_rfl⟩
theorem RW (P:aQ):qW P 269 R7 (nU (oY 13)):=⟨by kernel_rfl,rfl,by kernel_rfl⟩
theorem DU (P:aQ):qW P 290 rh (nU (oY 16)):=⟨by kernel_rfl,rfl,by kernel_rfl⟩
theorem DX (P:aQ):qW P 304 M7 (nU (nK 45)):=⟨by kernel_rfl,rfl,by kernel_rfl⟩
theorem NE (P:aQ):qW P 309 zN (nU (nK 46)):=⟨by kernel_rfl,rfl,by kernel_rfl⟩
theorem No (P:aQ):qW P 316 wT (nU (nK 47)):=⟨by kernel_rfl,rfl,by kernel_rfl⟩
theorem Nt (P:aQ):qW P 321 Ir (nU (nK 48)):=⟨by kernel_rfl,rfl,by kernel_rfl⟩
theorem RR (P:aQ):qW P 328 qz (nU (nK 49)):=⟨by kernel_rfl,rfl,by kernel_rfl⟩
theorem RA (P:aQ):qW P 333 pA (nU (nK 50)):=⟨by kernel_rfl,rfl,by kernel_rfl⟩
end
section
open PySem.Calls PyProof.Rows
noncomputable def Kg (s:String):List Nat:=(aS s).cps.toList
theorem yP (s:String):aS s=S (Kg s):=by
 unfold Kg S
 simp
noncomputable def wd:List Str:=["ord","chr","len","int","str","range","enumerate","zip","sum","sorted","divmod","max","min","list","tuple","bytes","type","ValueError","TypeError","AssertionError","repr"]
structure oi (P:aQ) (h:aW):Prop where
 frag:(KB P).In h
 lim:h.NoLimit
 blt: ∃mb,h.Ns dg mb/\ ∀x∈wd,mb x=iw x
theorem oi.keep (b:oi P h) (k:mT h h'):oi P h':=
 ⟨b.frag.keeps k,b.lim.keeps k,let ⟨m,n,e⟩:=b.blt;⟨m,n.keeps k,e⟩⟩
set_option tactic.hygienic true in
theorem oi.glob (b:oi P h) (e:lU (KB P) bm x=aa (aa v)) (ok:autoParam (nsOkIn (KB P) bm=ai) XQ):BU h x v:=
 ⟨_,.of_isNs (kH b.frag ok),by
  have G:h.Ns bm (h.nsMap bm):=.of_isNs (kH b.frag ok)
  refine rY G λo es ep ho hd _ hf=> ?_
  unfold lU at e
  split at e
  ·rename_i c d es' n' sl q
   have:=b.frag _ _ q
   rw [ho] at this
   obtain rfl:=am this
   cases hd
   rw [<-hf]
   split at e
   ·rename_i en he
    cases e
    unfold nsFind findBy
    rw [<-Array.find?_toList,he]
    rfl
   ·split at e<;>cases e
  ·exact nB e⟩
theorem oi.bltIs (b:oi P h) (e:lU (KB P) bm x=aa az) (hx:x∈wd) (hb:iw x=aa v) (ok:autoParam (nsOkIn (KB P) bm=ai) XQ):Ng h x v:=by
 have G:h.Ns bm (h.nsMap bm):=.of_isNs (kH b.frag ok)
 obtain ⟨mb,n,q⟩:=b.blt
 exact ⟨_,mb,G,ns_none_of b.frag G e,n,(q x hx).trans hb⟩
theorem oi.defAt {body:List ef} (b:oi P h) (T:qW P a fd body):yv h a fd body:=
 ⟨⟨_,b.frag _ _ T.e,rfl⟩,b.lim,codeRec_of b.frag T.c,T.b⟩
def sM (P:aQ) (X:List aF):Prop:= ∀a∈X,(KB P).lookup a=az
theorem zK (b:oi P h) (hl: ∀a∈l,h.get? a=az):sM P l:=λa ha=>by
 cases e:(KB P).lookup a with
 |none=>rfl
 |some o=>have:=b.frag _ _ e;rw [hl a ha] at this;exact nB this
theorem Cd (a:sM P l) (b:sM P m):sM P (l++m):=λx hx=>(ar.mp hx).elim (a x) (b x)
theorem OF (h:sM P X) (e:(KB P).lookup a=aa o):a∉X:=λq=>by rw [h a q] at e;exact nB e
def pn (n:Nat) (A:aX):Prop:=A.handled=az/\A.depth+n<dC/\A.units+10*n+100<fv
theorem pn.deeper (r:pn (n+1) A) (env:Env):pn n (A.deeper env):=by
 obtain ⟨a,b,c⟩:=r
 refine ⟨a,?_,?_⟩
 ·exact (mu (.i (.b (.a xA (.a xB xI)) xC) (.b (.a (.a xA xI) xB) xC)) [_,_,_]) b
 ·exact (mu (.i (.b (.a (.a xA (.m 10 (.a xB xI))) xP) xC) (.b (.a (.a (.a xA xO) (.m 10 xB)) xP) xC)) [_,_,_]) c
theorem pn.lim (r:pn n A):A.depth<dC:=cX (jD ..) r.2.1
theorem pn.less (r:pn n A) (h:m<=n):pn m A:=⟨r.1,by have:=r.2.1;exact (mu (.i (.l xB xD) (.i (.b (.a xA xD) xC) (.b (.a xA xB) xC))) [_,_,_,_]) h this,by have:=r.2.2;exact (mu (.i (.l xB xD) (.i (.b (.a (.a xA (.m 10 xD)) xP) xC) (.b (.a (.a xA (.m 10 xB)) xP) xC))) [_,_,_,_]) h this⟩
section
variable {prog:aH} {w:av} {c:Sc} {σ:mW} {Λ:List (aF×List PV)}
theorem m9 (he:Ev prog w (fs c σ Λ) e p) (hg:mT g c.g:=by exact mT.rfl) (hY: ∀a∈Y,a∈c.X:=by exact λa h=>aM _ h):
  mS prog w c.env c.A (In c σ Λ) (.Return (aa e) pos::b) (uy g Y p):=s9 (Hl he hg hY) (λz h=>h) λz z h=>h.2
theorem vS (base:oi w.params c.g) (off: ∀h,In c σ Λ h->sM w.params c.X) (gl:c.env.globals=bm) (fn:c.env.scope.kind= .function)
  (e:lU (KB w.params) bm x=aa (aa (.ref a))) (ho:(KB w.params).lookup a=aa o)
  (hl:o.cls= .type "list"/\ ∃k,o.data= .seq vs.toArray k) (hr: ∀h,mJ c.X h ps vs) (hx:autoParam (c.env.kindOf x=aa .globalImplicit) XZ) (hd:autoParam ((x==("__debug__":Str))=false) XQ):
  Ev prog w (fs c σ Λ) (.Name x pos) (.list ps):=.mk λs i=>by
 have b:=base.keep i.keep
 have:=(Co (prog:=prog) (w:=w) (φ:=fs c σ Λ) (x:=x) (pos:=pos) (v:=.ref a) (p:=.raw (.ref a)) fn hx gl (λh i=>(base.keep (In.keep i)).glob e) (λz=>o7) hd).run s i
 refine ab this (λv s' uu=>eA uu λk r=>⟨k,?_⟩) λz z e=>e
 subst r
 exact uG (OF (off _ i) ho) ⟨o,(b.keep (mz k)).frag _ _ ho,hl⟩ (hr _)
end
def rI (prog:aH) (w:av) (n:Nat) (a:aF) (ps:List PV) (p:PV):Prop:=
 ∀(A:aX) (X:List aF) (I:aW->Prop),pn n A->(∀h,I h->oi w.params h)->sM w.params X->pR prog w A X I (.ref a) ps p
section
variable {prog:aH} {w:av} {c:Sc} {σ:mW} {Λ:List (aF×List PV)}
structure Gd (w:av) (n:Nat) (c:Sc):Prop where
 base:oi w.params c.g
 off:sM w.params c.X0
 room:pn n c.A
 fn:c.env.scope.kind= .function
 gl:c.env.globals=bm
 bl:c.env.builtins=dg
theorem Gd.offX (G:Gd w n c) (i:In c σ Λ h):sM w.params c.X:=Cd (zK G.base i.fresh) G.off
theorem Gd.inBase (G:Gd w n c): ∀h,In c σ Λ h->oi w.params h:=λh i=>G.base.keep i.keep
theorem ur (G:Gd w n c) (e:lU (KB w.params) bm x=aa (aa v)) (hx:autoParam (c.env.kindOf x=aa .globalImplicit) XZ) (hd:autoParam ((x==("__debug__":Str))=false) XQ):
  Ev prog w (fs c σ Λ) (.Name x pos) (.raw v):=
 Co (v:=v) G.fn hx G.gl (λh i=>(G.inBase h i).glob e) (λz=>o7) hd
theorem rS (G:Gd w n c) (e:lU (KB w.params) bm x=aa az) (hb:iw x=aa v) (hm:autoParam (wd.elem x=ai) XQ) (hx:autoParam (c.env.kindOf x=aa .globalImplicit) XZ)
  (hd:autoParam ((x==("__debug__":Str))=false) XQ):Ev prog w (fs c σ Λ) (.Name x pos) (.raw v):=
 Kk G.fn hx G.gl G.bl (λh i=>(G.inBase h i).bltIs e (kf hm) hb) hd
theorem oE (G:Gd w n c) {id:Str} (hv:lU (KB w.params) bm id=aa (aa (.ref a)))
  (ho:(KB w.params).lookup a=aa ⟨oc,od,.func fd,sl⟩) (ha:tH prog w (fs c σ Λ) pos (e::es) ps) (hc:rI prog w n a ps p) (hx:autoParam (c.env.kindOf id=aa .globalImplicit) XZ) (hd:autoParam ((id==("__debug__":Str))=false) XQ)
  (he:autoParam (aE (e::es) c.env=(false,bJ e c.env)::aE es c.env) XZ):Ev prog w (fs c σ Λ) (.Call (.Name id np) (e::es) [] pos) p:=.mk λs i=>
 (Cp (ur G hv hx hd) ha (λs i=>rB ((G.inBase _ i).frag _ _ ho) rfl) (hc c.A c.X _ G.room G.inBase (G.offX i)) he).run s i
theorem n9 (G:Gd w n c) {id:Str} (hv:lU (KB w.params) bm id=aa az) (hb:iw id=aa v) (ha:tH prog w (fs c σ Λ) pos (e::es) ps)
  (hc:pR prog w c.A c.X (In c σ Λ) v ps p) (hk:(∃i,v= .builtin i)\/ ∃t,v= .type t:=by exact .inl ⟨_,rfl⟩) (hm:autoParam (wd.elem id=ai) XQ) (hx:autoParam (c.env.kindOf id=aa .globalImplicit) XZ) (hd:autoParam ((id==("__debug__":Str))=false) XQ)
  (he:autoParam (aE (e::es) c.env=(false,bJ e c.env)::aE es c.env) XZ):Ev prog w (fs c σ Λ) (.Call (.Name id np) (e::es) [] pos) p:=
 Cp (rS G hv hb hm hx hd) ha (λs i=>by rcases hk with ⟨_,rfl⟩|⟨_,rfl⟩<;>first|exact rg|exact ub) hc he
theorem qE (ns:List Str) {ps:List PV} (T:qW w.params a fd body)
  (Uk: ∀vs:List ay,vs.length=ps.length->ew fd ⟨vs,[]⟩=bG (ns.zip vs))
  (h: ∀A X g L,n6 X g->Gd w n (mU fd a A X [] g L)->mS prog w (bf fd L a) (A.deeper (bf fd L a)) (In (mU fd a A X [] g L) (pZ ns ps) []) body (uy g X p)) (F:autoParam (JD fd ns=ai) XQ):rI prog w (n+1) a ps p:=by
 have F:=vV F
 intro A X I hr hI hO
 refine GM ns (λh i=>(hI h i).defAt T) hr.lim (λs vs i r=>xw r Uk) F λg L i lx=> ?_
 exact h A X g L lx ⟨hI g i,hO,hr.deeper _,F.kind,F.gl,F.bl⟩
end
end
section
open PySem.Calls PyProof.Rows PySem.Builtin PySem.Builtin.Str
theorem A8 {α β:Type} (f:α->β->Sem (ForInStep β)) (I:List α->β->aq->Prop)
  (h: ∀x r b s,I (x::r) b s->aC M A (f x b) (λst s'=>match st with|.yield b'=>I r b' s'|.done b'=>False) E s):
  ∀(l:List α) (b:β) (s:aq) (Q:β->aq->Prop),I l b s->(∀b' s',I [] b' s'->Q b' s')->aC M A (iB l b f) Q E s
 |[],b,s,Q,i,q=>by rw [ii];exact aj (q b s i)
 |x::r,b,s,Q,i,q=>by
  rw [cD]
  refine ae (ab (h x r b s i) (λst s' k=> ?_) λz z e=>e)
  cases st with
  |yield b'=>exact A8 f I h r b' s' Q k q
  |done b'=>exact k.elim
theorem HS {α:Type} {l:List (Nat×α)} {a:α} (e:l.lookup x=aa a):(x,a)∈l:=by
 induction l with
 |nil=>simp at e
 |cons q l ih=>
  obtain ⟨y,b⟩:=q
  by_cases hy:(x==y)=ai
  ·simp [aD,hy] at e;subst e;rw [beq_iff_eq.mp hy];exact .head _
  ·simp [aD,hy] at e;exact .tail _ (ih e)
section
variable {prog:aH} {w:av} {A:aX} {X:List aF} {I:aW->Prop}
theorem AJ {vs:List ay} (hl:s.heap.IsList a vs.toArray) (hv:vs[c]? =aa (.str t u)) (hc:c<256)
  (h:Q (.text t) {s with toks:=s.toks+1}):aC (aI prog w) A (tableLookup (.ref a) c) Q E s:=by
 refine ae (lk (ae (wpAny_mkInt ?_)))
 have Wd:({s with toks:=s.toks+1}:aq).heap.IsList a vs.toArray:=hl
 refine wpAny_getItem_list Wd (by exact mu (.L xJ (.k xA)) [_]) (by exact (mu (.i (.b xA (.c 256)) (.B (.k xA) xS)) [_]) hc) (x:=.str t u) (by simpa using hv) ?_
 exact ae (bD (rfl:asInt? (.str t u)=bG az) (ae (bD (rfl:asStr? (.str t u)=bG (aa t)) (aj h))))
structure GB (l:List Nat) (f:Nat->List Nat) (s:aq) (rest:List Nat) (UC:List Str) (UP:Nat) (known:List (Nat×Option Nat)) (drop:Bool) (s':aq):Prop where
 keep:bB s s'
 at': ∃done,l=done++rest/\(UC.reverse.foldl (λUs p=>Us++p.cps) #[]).toList=done.flatMap f/\UP=(done.flatMap f).length
 kn: ∀q∈known,∃d,q.2=aa d/\f q.1=[d]
 dr:drop=false
section
variable {l:List Nat} {f:Nat->List Nat} {s s':aq} {rest:List Nat} {UC:List Str} {UP:Nat} {known:List (Nat×Option Nat)} {drop:Bool}
theorem GB.next (h:GB l f s (x::rest) UC UP known drop s') {kn:List (Nat×Option Nat)} (k:bB s T2) (hk: ∀q∈kn,∃d,q.2=aa d/\f q.1=[d]) (hp:p=S (f x)) (hn:n=p.length):GB l f s rest (p::UC) (UP+n) kn false T2:=by
 refine tE h.at' λdone e hd ht=> ?_
 subst hp hn
 refine ⟨k,⟨done++[x],by rw [e,aJ];rfl,?_,by rw [ht,mV,bV,af];simp⟩,hk,rfl⟩
 rw [fi,dc,bV]
 simp only [eX,List.foldl_nil,bg,jv,bK]
 rw [lh,hd]
theorem ER (r:List Nat):(r.map λc=>(f c).length).sum=(r.flatMap f).length:=by rw [fY]
theorem GB.small (hsz:(l.map λc=>(f c).length).sum<=100000) (h:GB l f s rest UC UP known drop s'):decide (gy UP=ai)=false:=by
 refine tE h.at' λdone e z T0=> ?_;obtain rfl:=T0
 rw [ER,e,bV,af] at hsz
 have:=aw
 unfold gy
 rw [decide_eq_false_iff_not,decide_eq_true_eq]
 exact (mu (.i (.l (.a xB xC) (.c 100000)) (.i (.e xA xL) (.n (.b xA xB)))) [_,_,_]) hsz this
theorem JP {α β1 β2 β3 β4 β5:Type} (f:α->β1×β2×β3×β4×β5->Sem (ForInStep (β1×β2×β3×β4×β5))) (I:List α->β1->β2->β3->β4->β5->aq->Prop)
  (h: ∀x r a b c d e s (Q:ForInStep (β1×β2×β3×β4×β5)->aq->Prop),I (x::r) a b c d e s->(∀a b c d e s,I r a b c d e s->Q (.yield (a,b,c,d,e)) s)->aC M A (f x (a,b,c,d,e)) Q E s)
  {l:List α} {a:β1} {b:β2} {c:β3} {d:β4} {e:β5} {Q:β1×β2×β3×β4×β5->aq->Prop} (i:I l a b c d e s) (q: ∀a b c d e s,I [] a b c d e s->Q (a,b,c,d,e) s):aC M A (iB l (a,b,c,d,e) f) Q E s:=
 A8 f (λl p s=>I l p.1 p.2.1 p.2.2.1 p.2.2.2.1 p.2.2.2.2 s) (λx r b s i=>h x r b.1 b.2.1 b.2.2.1 b.2.2.2.1 b.2.2.2.2 s _ i λz z z z z z q=>q) l _ s Q i λz s i=>q _ _ _ _ _ s i
end
theorem yA (hl: ∀c∈l,c<256) (hsz:(l.map λc=>(f c).length).sum<=100000) (hpos: ∀c∈l,1<=(f c).length):
  pR prog w A X I (.builtin "str.translate") [.str (S l),.list ((ag 256).map λk=>.str (S (f k)))] (.str (S (l.flatMap f))):=λs vs z lx r=>by
 refine ng (sP r) λv u T0 r1 r2=> ?_;obtain rfl:=T0
 refine eE (nq r1) λt T0=> ?_;obtain rfl:=T0
 refine nh (pC r2) λa us T0 na li hr=> ?_;obtain rfl:=T0
 have at': ∀c,c<256-> ∃tk,us[c]? =aa (.str (S (f c)) tk):=λc hc=>by
  refine mQ (hr.get (i:=c) (p:=.str (S (f c))) (by simp [hc])) λv e r=> ?_
  refine eE (nq r) λtk T0=> ?_;obtain rfl:=T0
  exact ⟨tk,e⟩
 have tl: ∀{x:Nat} {TZ:aq} {Q:Mapped->aq->Prop},x∈l->bB s TZ->(∀T2,bB s T2->Q (.text (S (f x))) T2)->aC (aI prog w) A.in1 (tableLookup (.ref a) x) Q (λe s'=>False) TZ:=λ{x TZ Q} hx T1 q=>
  let ⟨tk,hat⟩:=at' x (hl x hx)
  AJ (li.at λo e=>mz T1 _ _ e) hat (hl x hx) (q _ (mG T1 (pf _ _)))
 refine dA F.slot_str_translate (dR _ _ _) F.entry_str_translate ?_ (F.args_str_translate_2 _ _)
 unfold «str.translate»
 refine ae (bD (show strOneArg "translate" ⟨[.str (S l) t,.ref a],[]⟩=bG (.str (S l) t,S l,.ref a) from rfl) ?_)
 by_cases h0:l=[]
 ·subst h0
  refine bT (by rw [mV];rfl) (ae (gJ (ae ?_)))
  exact bD (show strUnchanged (.str (S []) t) (S [])=bG (.str (S []) t) from rfl) (aj ⟨_,rfl,mN _,og⟩)
 refine bY (by rw [mV];simpa using h0) ?_
 clear r r1 r2 hr na li at'
 refine ae ?_
 rw [List.forIn_toArray]
 refine JP _ (λrest UC UP z known drop s'=>GB l f s rest UC UP known drop s') ?_ ⟨mN _,⟨[],rfl,rfl,rfl⟩,(λz h=>nomatch h),rfl⟩ λUC UP fast known drop s' h=> ?_
 ·intro x rest UC UP fast known drop s' Q h q
  have hx:x∈l:=by
   obtain ⟨done,e,_⟩:=h.at'
   rw [e];exact aM _ dw
  refine bY (h.small hsz) ?_
  cases h.dr
  cases fast with
  |false=>
   refine bY rfl ?_
   refine bY rfl ?_
   refine ae (tl hx h.keep λT2 T3=> ?_)
   exact aj (q _ _ _ _ _ _ (h.next T3 h.kn rfl rfl))
  |true=>
   refine bT rfl ?_
   cases hlk:known.lookup x with
   |some an=>
    refine mQ (h.kn _ (HS hlk)) λd e1 e2=> ?_
    cases e1
    refine ae (aj (aj ?_))
    exact q _ _ _ _ _ _ (h.next h.keep h.kn (by rw [e2]) rfl)
   |none=>
    refine ae (tl hx h.keep λT2 T3=> ?_)
    by_cases hone:((S (f x)).length==1&&(S (f x)).cps.all λx=>decide (x<128))=ai
    ·have Ud:(f x).length=1:=by
      have:=(aP.mp hone).1
      rw [mV] at this;simpa using this
     refine eE (List.length_eq_one_iff.mp Ud) λd hfd=> ?_
     have e0:(if ((S (f x)).length==1&&(S (f x)).cps.all λx=>decide (x<128))=ai then aa (S (f x)).cps[0]? else az)=aa (aa d):=by rw [if_pos hone,hfd];rfl
     dsimp only
     rw [e0]
     refine ae (aj (aj ?_))
     exact q _ _ _ _ _ _ (h.next T3 (λq hq=>by
      rcases ao.mp hq with rfl|hq
      ·exact ⟨d,rfl,hfd⟩
      ·exact h.kn q hq) (by rw [hfd]) rfl)
    ·have e0:(if ((S (f x)).length==1&&(S (f x)).cps.all λx=>decide (x<128))=ai then aa (S (f x)).cps[0]? else az)=az:=if_neg hone
     dsimp only
     rw [e0]
     refine ae (aj (ae (gJ ?_)))
     refine bY rfl ?_
     refine ae (tl hx T3 λT9 Ub=> ?_)
     exact aj (q _ _ _ _ _ _ (h.next Ub h.kn rfl rfl))
 ·refine bY (h.small hsz) ?_
  refine tE h.at' λdone e hp ht=> ?_
  rw [bK] at e
  subst e
  have e2:(⟨UC.reverse.foldl (λUs p=>Us++p.cps) #[]⟩:Str)=S (l.flatMap f):=by
   rw [<-hp]
  have:=aw
  rw [ER] at hsz
  refine ae (ge (aj ⟨_,rfl,mG h.keep (pf _ _),by rw [<-e2];exact og⟩) (by rw [e2,mV];exact (mu (.i (.l xA (.c 100000)) (.i (.e xB xL) (.l xA xB))) [_,_]) hsz this))
end
namespace Lat
theorem entry_eq {c:UInt8} {cs:List UInt8} {t u:Tok}:«bytes.decode» ⟨[.bytes (c::cs).toArray t,.str (PySem.Str.ofString "latin1") u],[]⟩=(mkStr (PySem.Str.ofString "utf-8") >>= λz=>mkStr (PySem.Str.ofString "latin1") >>= λe=>mkStr (PySem.Str.ofString "bytes.decode") >>= λd=>
  ft (.builtin "_codecs.decode.text") [.bytes (c::cs).toArray t,e,.none,d] >>= λv=>ret v):=by kernel_rfl
theorem args_2 (a b:ay):argsOk "bytes.decode" ⟨[a,b],[]⟩:=by
 unfold argsOk;rw [ll (id:="bytes.decode") (n:=['e','d','o','c','e','d']) (o:=['s','e','t','y','b']) (by kernel_rfl) PySem.W.FB.owner_bytes];kernel_rfl
theorem road_eq {id:String} {b:Array UInt8}:_codecs.decodeRoad id b (PySem.Str.ofString "latin1") az []=(_codecs.runDecoder id _codecs.latin1Decoder az ai b 0 [] >>= λr=>mkStr ⟨r.1⟩):=by kernel_rfl
theorem run_eq {id:String} {l:List UInt8} (h:l.length<=5):_codecs.runDecoder id _codecs.latin1Decoder az ai l.toArray 0 []=bG ((l.map (·.toNat)).toArray,l.length):=by
 match l,h with
 |[],_=>kernel_rfl
 |[a],_=>kernel_rfl
 |[a,b],_=>kernel_rfl
 |[a,b,c],_=>kernel_rfl
 |[a,b,c,d],_=>kernel_rfl
 |[a,b,c,d,e],_=>kernel_rfl
 |a::b::c::d::e::f::r,h=>simp at h
end Lat
noncomputable def pi:List Nat:=[48,49,50,51,52,53,54,55,56,57,65,66,67,68,69,70,97,98,99,100,101,102]
noncomputable def oj (c:Nat):Nat:=if c<58 then c - 48 else if c<91 then c - 55 else c - 87
namespace Hex
theorem read {a b:Nat} (ha:a∈pi) (hb:b∈pi):(int_private% "readNumeral") 0 16 [a,b]=(int_private% "Numeral.value") ((16*oj a+oj b:Nat):Int):=by
 have e:pi.map (λa=>pi.map λb=>(int_private% "readNumeral") 0 16 [a,b])=pi.map λa=>pi.map λb=>(int_private% "Numeral.value") ((16*oj a+oj b:Nat):Int):=by kernel_rfl
 exact mo.mp (mo.mp e a ha) b hb
theorem seen {a b:Nat} (ha:a∈pi) (hb:b∈pi):([a,b].takeWhile (· !=0))=[a,b]:=by
 have nz: ∀c∈pi,(c !=0)=ai:=by decide
 simp [List.takeWhile,nz a ha,nz b hb]
theorem wp_text {M:Model} {A:aX} {E:ay->aq->Prop} {s:aq} {Q:ay->aq->Prop} {v:ay} {text:List Nat} {n:Int}
  (hs:(text.takeWhile (· !=0)).length<=640) (hr:(int_private% "readNumeral") 0 16 (text.takeWhile (· !=0))=(int_private% "Numeral.value") n)
  (ha:((text.takeWhile (· !=0)).length==text.length)=ai) (h:Q (.int n s.toks) {s with toks:=s.toks+1}):
  aC M A ((int_private% "intFromText") v text 16) Q E s:=by
 obtain ⟨hp,g,d,tk,os⟩:=s
 repeat (any_goals (first
  |assumption
  |(with_reducible refine bT (decide_eq_true hs) ?_)
  |(with_reducible refine bT (decide_eq_true ha) ?_)
  |wp_step))
 all_goals (try rw [hr])
 all_goals (try dsimp only)
 repeat (any_goals (first
  |assumption
  |(with_reducible refine bT (decide_eq_true hs) ?_)
  |(with_reducible refine bT (decide_eq_true ha) ?_)
  |wp_step))
theorem typeCall_2 (a b:ay):checkTypeCall "int" ⟨[a,b],[]⟩=bG ():=by kernel_rfl
theorem newCall_2 (a b:ay):checkBuiltinCall "int.__new__" ⟨[.type "int",a,b],[]⟩=bG ():=by kernel_rfl
set_option maxHeartbeats 4000000 in
theorem gives {a b:Nat} {u t:Tok} (ha:a∈pi) (hb:b∈pi):PySem.Gives (Builtin.«int.__new__» ⟨[.type "int",.str (S [a,b]) u,.int 16 t],[]⟩) (.int ((16*oj a+oj b:Nat):Int)):=
 .of_wp λM A E s Q h=>by
  obtain ⟨hp,g,d,tk,os⟩:=s
  have f1:=F.conv_sub_int
  have f2:=F.madeHere_int
  have f6:kE (.str (S [a,b]) u)=bG (.type "str"):=rfl
  have low: ∀c∈pi,decide (c<128)=ai:=by decide
  have htx:(if (S [a,b]).cps.all (· <128) then (S [a,b]).cps.toList else Unicode.numberText (S [a,b]).cps.toList)=[a,b]:=by
   rw [if_pos (by simp [of_decide_eq_true (low a ha),of_decide_eq_true (low b hb)])]
  have hs:(([a,b]:List Nat).takeWhile (· !=0)).length<=640:=by rw [seen ha hb];simp
  have hr:(int_private% "readNumeral") 0 16 (([a,b]:List Nat).takeWhile (· !=0))=(int_private% "Numeral.value") ((16*oj a+oj b:Nat):Int):=by rw [seen ha hb];exact read ha hb
  have hl:((([a,b]:List Nat).takeWhile (· !=0)).length==([a,b]:List Nat).length)=ai:=by rw [seen ha hb];rfl
  have hk:=KIN.Hid.mk (And.intro hs (And.intro hr hl))
  clear hs hr hl ha hb
  repeat (any_goals (first
   |assumption
   |((with_reducible show aC _ _ ((int_private% "intFromText") _ _ _) _ _ _);rw [htx];refine wp_text hk.out.1 hk.out.2.1 hk.out.2.2 ?_)
   |wp_step))
  all_goals first|exact ⟨_,rfl,h⟩|skip
end Hex
section
variable {prog:aH} {w:av} {A:aX} {X:List aF} {I:aW->Prop}
theorem IM (h:l.length<=5) (h0:l≠[]):pR prog w A X I (.builtin "bytes.decode") [.bytes l.toArray,.str (PySem.Str.ofString "latin1")] (.str (S (l.map (·.toNat)))):=λs vs z lx r=>by
 refine ng (sP r) λv u T0 r1 r2=> ?_;obtain rfl:=T0
 refine eE r1 ?_;clear r1;intro t T0;obtain rfl:=T0
 refine eE (nq r2) λtu T0=> ?_;obtain rfl:=T0
 cases l with
 |nil=>exact absurd rfl h0
 |cons c cs=>
  refine dA lN (typeIs_bytes _ _ _) FB.entry_bytes_decode ?_ (Lat.args_2 _ _)
  rw [Lat.entry_eq]
  refine ae (ge ?_ (by decide))
  refine ae (ge ?_ (by decide))
  refine ae (ge ?_ (by decide))
  refine ae (call_function_entry KBd.kind_text KBd.plain_text KBd.entry_text (KBd.args_text _ _ _ _) ?_)
  show aC _ _ (Bytes.bytesLike _ (.bytes (c::cs).toArray t) >>= λr=>_) _ _ _
  refine ae (bD KBd.like_eq ?_)
  refine ae (bD KBd.held_eq ?_)
  rw [Lat.road_eq,Lat.run_eq h]
  refine ae (ae (aj ?_))
  refine ge (aj ⟨_,rfl,aj ⟨_,rfl,ox _ _,og⟩⟩) ?_
  have:=aw
  rw [mV,ah];exact (mu (.i (.l xA xN) (.i (.e xB xL) (.l xA xB))) [_,_]) h this
theorem Ku (ha:a∈pi) (hb:b∈pi):pR prog w A X I (.type "int") [.str (S [a,b]),.int 16] (.int ((16*oj a+oj b:Nat):Int)):=λs vs z lx r=>by
 refine ng (sP r) λv u T0 r1 r2=> ?_;obtain rfl:=T0
 refine eE (nq r1) λt T0=> ?_;obtain rfl:=T0
 refine eE (ty r2) λtu T0=> ?_;obtain rfl:=T0
 exact callType_new F.called_int F.newNe_int (Hex.typeCall_2 _ _) (Hex.newCall_2 _ _) (λobj=>F.args_object_init_3 obj _ _) F.entry_int_new (Hex.gives ha hb).meets
  (show (Made.int _).post _ s from ⟨rfl,pf _ _,tJ⟩)
theorem uK: ∀{ns:List Int} {vs:List ay},mJ X h (ns.map .int) vs->IntsAre vs ns
 |[],vs,r=>by subst r;exact .nil
 |n::ns,vs,r=>by
  refine ng r ?_;clear r;intro v us T0 a b;obtain rfl:=T0
  obtain ⟨t,rfl⟩:=ty a
  exact .cons _ t (uK b)
theorem Kp (hr: ∀n∈ns,0<=n/\n<256) (hz:ns.length<=1000) (hh:A.handled=az):pR prog w A X I (.type "bytes") [.list (ns.map .int)] (.bytes (byteArr ns)):=λs vs z lx r=>by
 refine mQ (qI r) λv T0 r1=> ?_;obtain rfl:=T0
 refine nh (pC r1) λD us T0 z hl h=> ?_;obtain rfl:=T0
 have:=aw
 exact call_bytes_ints hl (uK h) hr (by rw [h.len,ah];exact (mu (.i (.l xA xQ) (.i (.e xB xL) (.l xA xB))) [_,_]) hz this) hh λh' t k hk=>⟨⟨h',k,rfl,hk⟩,by exact ⟨t,rfl⟩⟩
end
end
section
open PySem.Calls PyProof.Rows PySem.Builtin PySem.Builtin.Re
open Sre (M)
theorem zZ {m:M} (h:m.outcome.isSome=ai): ∀n,m.runFor n=m
 |0=>rfl
 |n+1=>by unfold M.runFor;rw [if_pos h]
theorem nM (a:Nat): ∀(b:Nat) (m:M),m.runFor (a+b)=(m.runFor a).runFor b:=by
 induction a with
 |zero=>intro b m;rw [Nat.zero_add];rfl
 |succ a ih=>
  intro b m
  rw [show a+1+b=(a+b)+1 by exact mu (.e (.a (.a xA xI) xB) (.a (.a xA xB) xI)) [_,_]]
  show (if m.outcome.isSome=ai then m else M.runFor (a+b) m.step)=(if m.outcome.isSome=ai then m else M.runFor a m.step).runFor b
  by_cases h:m.outcome.isSome=ai
  ·rw [if_pos h,if_pos h,zZ h]
  ·rw [if_neg h,if_neg h,ih]
theorem w3 {m:M} (h:(m.runFor N).outcome.isSome=ai) {K:Nat} (hk:N<=K):m.runFor K=m.runFor N:=by
 rw [show K=N+(K - N) by exact (mu (.i (.l xB xA) (.e xA (.a xB (.s xA xB)))) [_,_]) hk,nM,zZ h]
section
variable {prog:aH} {w:av} {A:aX} {E:ay->aq->Prop}
theorem Bg: ∀(turns:Nat) (m:M) (N:Nat) (s:aq) (Q:M->aq->Prop),N<=4*turns->0<turns->(m.runFor N).outcome.isSome=ai->Q (m.runFor N) s->aC Mo A (reDrive turns m) Q E s
 |0,_,_,_,_,_,h,_,_=>absurd h (cn _)
 |turns+1,m,N,s,Q,hN,_,ho,q=>by
  unfold reDrive
  by_cases h4:(m.runFor reTurnSteps).outcome.isSome=ai
  ·rw [if_pos h4]
   refine aj ?_
   have:m.runFor reTurnSteps=m.runFor N:=by
    by_cases Vm:N<=reTurnSteps
    ·exact w3 ho Vm
    ·exact (w3 h4 (by exact (mu (.i (.n (.l xB xA)) (.l xA xB)) [_,_]) Vm)).symm
   exact this▸q
  ·rw [if_neg h4]
   have Um: ¬N<=4:=λVm=>h4 (by exact (show m.runFor reTurnSteps=m.runFor N from w3 ho Vm)▸ho)
   have e:(m.runFor reTurnSteps).runFor (N - 4)=m.runFor N:=by
    rw [<-nM]
    congr 1
    exact (mu (.i (.n (.l xA xK)) (.e (.a xK (.s xA xK)) xA)) [_]) Um
   refine ae (gJ ?_)
   exact Bg turns _ (N - 4) s Q (by exact (mu (.i (.l xA (.m 4 (.a xB xI))) (.l (.s xA xK) (.m 4 xB))) [_,_]) hN) (by exact (mu (.i (.l xB (.m 4 (.a xA xI))) (.i (.n (.l xB xK)) (.b xJ xA))) [_,_]) hN Um) (by exact e▸ho) (by exact e▸q)
theorem D2 (hN:N<=2^66) (h:match (m.runFor N).outcome with|some .matched=>Q (aa (m.runFor N)) s|some .failed=>Q az s|_=>False):aC Mo A (reRunToEnd m) Q E s:=by
 have ho:(m.runFor N).outcome.isSome=ai:=by
  cases e:(m.runFor N).outcome with
  |none=>rw [e] at h;exact h.elim
  |some _=>rfl
 refine ae (Bg (2^64) m N s _ (by omega) (by decide) ho ?_)
 refine ae (A8 _ (λz z s'=>s'=s) (λx r b TZ e=> ?_) _ _ s _ rfl λz TZ e=> ?_)
 ·subst e
  split
  ·exact ae (gJ (aj rfl))
  ·exact aj rfl
 ·subst e
  cases e:(m.runFor N).outcome with
  |none=>rw [e] at ho;exact o8 ho
  |some o=>
   rw [e] at h
   cases o with
   |matched=>exact aj h
   |failed=>exact aj h
   |stuck why=>exact h.elim
end
noncomputable def uk:Array Nat:= #[14,10,4,1,1,22,0,31,16,127,0,13,7,22,0,31,16,127,0,1]
noncomputable def o6:Array Nat:= #[14,14,4,1,1,9,4294966783,0,0,2147483648,0,0,0,0,0,13,11,9,4294966783,0,0,2147483648,0,0,0,0,0,1]
noncomputable def Ha (c:Nat):Bool:=dz c 31||c==127
def uZ (c:Nat):Bool:=decide (c<256)&&(o6.getD (6+c/32) 0).testBit (c % 32)
theorem NP (c:Nat) (seen:cv): ∃Ue,eb uk c 20 5 ai seen= .ok (Ha c,Ue):=by
 have e:eb uk c 20 5 ai seen=if (decide (0<=c)&&decide (c<=31))=ai then .ok (ai,seen.add 22) else if (c==127)=ai then .ok (ai,(seen.add 22).add 16) else .ok (false,((seen.add 22).add 16).add 0):=rfl
 rw [e]
 unfold Ha
 by_cases h1:c<=31
 ·exact ⟨seen.add 22,by simp [h1,l9.mpr h1]⟩
 ·have:dz c 31=false:=by rw [Bool.eq_false_iff];exact λq=>h1 (l9.mp q)
  by_cases h2:c=127
  ·exact ⟨(seen.add 22).add 16,by simp [h2]⟩
  ·exact ⟨((seen.add 22).add 16).add 0,by simp [h1,h2,this]⟩
theorem GR (c:Nat) (seen:cv): ∃Ue,eb o6 c 28 5 ai seen= .ok (uZ c,Ue):=by
 have e:eb o6 c 28 5 ai seen=if (decide (c<256)&&(o6.getD (5+(1+c/32)) 0).testBit (c % 32))=ai then .ok (ai,seen.add 9) else .ok (false,(seen.add 9).add 0):=rfl
 rw [e]
 unfold uZ
 rw [show 5+(1+c/32)=6+c/32 by exact mu (.e (.a xN (.a xI (.d xA 32))) (.a (.c 6) (.d xA 32))) [_]]
 cases (decide (c<256)&&(o6.getD (6+c/32) 0).testBit (c % 32))<;>exact ⟨_,rfl⟩
theorem yD {cl:Nat->Bool} (qZ: ∀c seen,∃Ue,eb m.code c m.code.size 5 ai seen= .ok (cl c,Ue)):
  ∀(fuel s:Nat) (seen:cv),(∀i,s<=i->i<m.lim->cl (m.text.getD i 0)=false)-> ∃Ue,M.admitted m fuel s seen= .ok (az,Ue)
 |0,s,seen,_=>⟨seen,rfl⟩
 |fuel+1,s,seen,h=>by
  unfold M.admitted
  by_cases hs:s>=m.lim
  ·exact ⟨seen,by rw [if_pos hs]⟩
  ·rw [if_neg hs]
   refine eE (qZ (m.text.getD s 0) seen) λUe e=> ?_
   rw [e,h s (aN _) (by exact (mu (.i (.n (.l xB xA)) (.b xA xB)) [_,_]) hs)]
   exact yD qZ fuel (s+1) Ue λi hi=>h i (by exact (mu (.i (.l (.a xA xI) xB) (.l xA xB)) [_,_]) hi)
theorem yE {cl:Nat->Bool} (qZ: ∀c seen,∃Ue,eb m.code c m.code.size 5 ai seen= .ok (cl c,Ue)) (hk:k<m.lim) (hc:cl (m.text.getD k 0)=ai):
  ∀(fuel s:Nat) (seen:cv),s<=k->k - s<fuel->(∀i,s<=i->i<k->cl (m.text.getD i 0)=false)-> ∃Ue,M.admitted m fuel s seen= .ok (aa k,Ue)
 |0,s,seen,_,hf,_=>by exact ((mu (.n (.b (.s xA xB) xJ)) [_,_]) hf).elim
 |fuel+1,s,seen,hs,hf,h=>by
  unfold M.admitted
  rw [if_neg (by exact (mu (.i (.b xC xA) (.i (.l xB xC) (.n (.l xA xB)))) [_,_,_]) hk hs)]
  refine eE (qZ (m.text.getD s 0) seen) λUe e=> ?_
  rw [e]
  by_cases hsk:s=k
  ·subst hsk;rw [hc];exact ⟨_,rfl⟩
  ·rw [h s (aN _) (by exact (mu (.i (.l xA xB) (.i (.n (.e xA xB)) (.b xA xB))) [_,_]) hs hsk)]
   exact yE qZ hk hc fuel (s+1) Ue (by exact (mu (.i (.l xA xB) (.i (.n (.e xA xB)) (.l (.a xA xI) xB))) [_,_]) hs hsk) (by exact (mu (.i (.l xB xA) (.i (.b (.s xA xB) (.a xC xI)) (.i (.n (.e xB xA)) (.b (.s xA (.a xB xI)) xC)))) [_,_,_]) hs hf hsk) λi hi=>h i (by exact (mu (.i (.l (.a xA xI) xB) (.l xA xB)) [_,_]) hi)
noncomputable def m0 (code T:Array Nat) (pc p lim:Nat):M:={code,text:=T,lim,start:=p,pc,pos:=p,handed:=p,marks:= #[],seen:=({}:cv).add 14}
theorem Md (T:Array Nat) (p lim:Nat):bk uk T 0 p lim false=if (decide (p>lim)||decide (lim - p<1))=ai then (m0 uk T 11 p lim).say false else M.attemptFrom {m0 uk T 11 p lim with lastStart:=lim} p ai:=rfl
theorem ET (T:Array Nat) (p lim:Nat):bk o6 T 0 p lim false=if (decide (p>lim)||decide (lim - p<1))=ai then (m0 o6 T 15 p lim).say false else M.attemptFrom {m0 o6 T 15 p lim with lastStart:=lim} p ai:=rfl
theorem ui {m:M} (ho:m.outcome=az) (hf:m.frames=[]):((m.say false).runFor 1).outcome=aa .failed:=by
 obtain ⟨code,text,lim,start,ls,wt,ma,pc,pos,handed,om,marks,lm,li,loops,inner,frames,weight,answer,seen,outcome⟩:=m
 dsimp only at ho hf
 subst ho hf
 rfl
theorem wb {m:M} {cl:Nat->Bool} (qZ: ∀c seen,∃Ue,eb m.code c m.code.size 5 ai seen= .ok (cl c,Ue)) (hf:m.hasFirstSet=ai) (ho:m.outcome=az) (hfr:m.frames=[]) (p:Nat) (b:Bool)
  (h: ∀i,p<=i->i<m.lim->cl (m.text.getD i 0)=false):((m.attemptFrom p b).runFor 1).outcome=aa .failed:=by
 unfold M.attemptFrom
 rw [hf]
 refine eE (yD qZ (m.lim+1 - p) p m.seen h) λUe e=> ?_
 simp only [iN,a9,if_false,e]
 exact ui (m:={m with seen:=Ue}) ho hfr
theorem Em (h: ∀i,i<T.size->Ha (T.getD i 0)=false):((bk uk T 0 0 T.size false).runFor 1).outcome=aa .failed:=by
 rw [Md]
 split
 ·exact ui rfl rfl
 ·exact wb (m:={m0 uk T 11 0 T.size with lastStart:=T.size}) NP rfl rfl rfl 0 ai λi z hi=>h i hi
theorem Ej (h: ∀i,i<T.size->uZ (T.getD i 0)=false):((bk o6 T 0 0 T.size false).runFor 1).outcome=aa .failed:=by
 rw [ET]
 split
 ·exact ui rfl rfl
 ·exact wb (m:={m0 o6 T 15 0 T.size with lastStart:=T.size}) GR rfl rfl rfl 0 ai λi z hi=>h i hi
structure Q where
 code:Array Nat
 text:Array Nat
 lim:Nat
 start:Nat
 ls:Nat
noncomputable def Q.R (q:Q) (pc pos handed:Nat) (om:Bool) (frames:List iE) (weight:Nat) (answer:Option Bool) (seen:cv):M:=
 {code:=q.code,text:=q.text,lim:=q.lim,start:=q.start,lastStart:=q.ls,pc,pos,handed,outermost:=om,marks:= #[],frames,weight,answer,seen}
noncomputable def Q.F (q:Q) (wait:Sre.Wait) (pc pos:Nat) (om:Bool):iE:={wait,pc,pos,outermost:=om}
section
variable {q:Q} {pc pos handed:Nat} {om:Bool} {frames:List iE} {weight:Nat} {seen:cv}
noncomputable def Am (T:Array Nat) (pos lim x:Nat) (a b:M):M:=if pos>=lim then b else cond (T.getD pos 0==x) a b
theorem vL (h:pos<lim) (e:T.getD pos 0=x):Am T pos lim x a b=a:=by
 unfold Am;rw [if_neg (l8.mpr h),e,beq_self_eq_true];rfl
theorem y5 (h:pos<lim->T.getD pos 0≠x):Am T pos lim x a b=b:=by
 unfold Am
 by_cases q:pos>=lim
 ·rw [if_pos q]
 ·rw [if_neg q,beq_false_of_ne (h (l8.mp q))];rfl
theorem srch (h:p<lim): ¬((decide (p>lim)||decide (lim - p<1))=ai):=by
 simp only [Bool.or_eq_true,decide_eq_true_eq];exact (mu (.i (.b xB xA) (.n (.o (.b xA xB) (.b (.s xA xB) xI)))) [_,_]) h
theorem Ka {b:Bool} {w:Nat}:(q.R pc pos handed om [] w (aa b) seen).step.outcome=aa (if b then .matched else .failed)/\(q.R pc pos handed om [] w (aa b) seen).step.handed=handed/\(q.R pc pos handed om [] w (aa b) seen).step.start=q.start/\
  (q.R pc pos handed om [] w (aa b) seen).step.marks= #[]/\(q.R pc pos handed om [] w (aa b) seen).step.lastmark= -1/\(q.R pc pos handed om [] w (aa b) seen).step.lastindex= -1:=by
 cases b<;>exact ⟨rfl,rfl,rfl,rfl,rfl,rfl⟩
theorem Ao {m m':M} (h:m.step=m') (ho:m.outcome=az):m.runFor (n+1)=m'.runFor n:=by
 show (if m.outcome.isSome=ai then m else M.runFor n m.step)=_
 rw [ho,h];rfl
end
def uf (m:M) (b e:Nat):Prop:= ∃N,N<=10000/\(m.runFor N).outcome=aa .matched/\(m.runFor N).start=b/\(m.runFor N).handed=e/\(m.runFor N).marks= #[]/\(m.runFor N).lastmark= -1/\(m.runFor N).lastindex= -1
noncomputable def rT:Array Nat:= #[14,9,4,1,2,16,10,16,13,0,7,7,16,13,16,10,15,18,5,16,10,15,13,11,16,13,5,5,0,16,10,1,15,2,0,1]
noncomputable def wx (c:Nat):Bool:=c==10||c==13
theorem Ho (c:Nat) (seen:cv): ∃Ue,eb rT c 36 5 ai seen= .ok (wx c,Ue):=by
 have e:eb rT c 36 5 ai seen=if (c==10)=ai then .ok (ai,seen.add 16) else if (c==13)=ai then .ok (ai,(seen.add 16).add 16) else .ok (false,((seen.add 16).add 16).add 0):=rfl
 rw [e]
 unfold wx
 cases h1:c==10
 ·cases h2:c==13
  ·exact ⟨_,rfl⟩
  ·exact ⟨_,rfl⟩
 ·exact ⟨_,rfl⟩
theorem EB (T:Array Nat) (p lim:Nat):bk rT T 0 p lim false=if (decide (p>lim)||decide (lim - p<1))=ai then (m0 rT T 10 p lim).say false else M.attemptFrom {m0 rT T 10 p lim with lastStart:=lim} p ai:=rfl
theorem yX {q:Q} {pc pos handed:Nat} {om:Bool} {w:Nat} {seen:cv} {m:M} {N:Nat} (hN:N<=9000) (h:m.runFor N=q.R pc pos handed om [] w (aa ai) seen):uf m q.start handed:=by
 have e:m.runFor (N+1)=(q.R pc pos handed om [] w (aa ai) seen).step:=by
  rw [nM,h];rfl
 have z:= @Ka q pc pos handed om seen ai w
 refine ⟨N+1,by exact (mu (.i (.l xA (.c 9000)) (.l (.a xA xI) (.c 10000))) [_]) hN,?_⟩
 rw [e]
 exact ⟨z.1,z.2.2.1,z.2.1,z.2.2.2.1,z.2.2.2.2.1,z.2.2.2.2.2⟩
theorem Cz (hf:m.hasFirstSet=ai) (e:M.admitted m (m.lim+1 - p) p m.seen= .ok (aa k,Ue)):
  m.attemptFrom p b=M.attemptAt {m with mustAdvance:=false,seen:=Ue} k b:=by
 unfold M.attemptFrom
 rw [hf]
 simp only [iN,a9,if_false]
 rw [e]
section
variable {T:Array Nat} {p k lim:Nat}
theorem BH {code:Array Nat} {cl:Nat->Bool} (qZ: ∀c seen,∃Ue,eb code c code.size 5 ai seen= .ok (cl c,Ue)) (hf:(m0 code T pc p lim).hasFirstSet=ai) (hp:p<=k) (hk:k<lim)
  (UL: ∀i,p<=i->i<k->cl (T.getD i 0)=false) (hc:cl (T.getD k 0)=ai):
  ∃seen,M.attemptFrom {m0 code T pc p lim with lastStart:=lim} p ai=(⟨code,T,lim,k,lim⟩:Q).R pc k k ai [(⟨code,T,lim,k,lim⟩:Q).F .nextStart pc k ai] 1 az seen:=by
 generalize hm:({m0 code T pc p lim with lastStart:=lim}:M)=m
 have h1:m.hasFirstSet=ai:=by exact hm▸hf
 have h2:m.code=code:=by rw [<-hm];rfl
 have h3:m.text=T:=by rw [<-hm];rfl
 have h4:m.lim=lim:=by rw [<-hm];rfl
 refine eE (yE (m:=m) (by exact h2▸qZ) (k:=k) (by exact h4▸hk) (by exact h3▸hc) (m.lim+1 - p) p m.seen hp (by exact h4▸((mu (.i (.l xB xA) (.i (.b xA xC) (.b (.s xA xB) (.s (.a xC xI) xB)))) [_,_,_]) hp hk)) (by exact h3▸UL)) λUe e=> ?_
 refine ⟨Ue,?_⟩
 rw [Cz h1 e,<-hm]
 rfl
def qC (T:Array Nat) (lim s:Nat):Q:=⟨rT,T,lim,s,lim⟩
def fC (T:Array Nat) (lim k:Nat):List iE:=[(qC T lim k).F .nextStart 10 k ai]
def bC (T:Array Nat) (lim k a:Nat):List iE:={(qC T lim k).F .nextBranch a k ai with kept:={}}::fC T lim k
variable {seen:cv}
theorem Ly:((qC T lim k).R 10 k k ai (fC T lim k) 1 az seen).runFor 2=
  Am T k lim 13 ((qC T lim k).R 14 (k+1) k ai (bC T lim k 11) 2 az ((seen.add 7).add 16)) ((qC T lim k).R 12 k k ai (bC T lim k 11) 2 (aa false) ((seen.add 7).add 16)):=by kernel_rfl
theorem PZ:((qC T lim k).R 14 (k+1) k ai (bC T lim k 11) 2 az seen).runFor 1=
  Am T (k+1) lim 10 ((qC T lim k).R 16 (k+2) k ai (bC T lim k 11) 2 az (seen.add 16)) ((qC T lim k).R 14 (k+1) k ai (bC T lim k 11) 2 (aa false) (seen.add 16)):=by kernel_rfl
theorem SL:((qC T lim k).R 16 (k+2) k ai (bC T lim k 11) 2 az seen).runFor 4=(qC T lim k).R 10 k (k+2) ai [] 0 (aa ai) ((seen.add 15).add 1):=by kernel_rfl
theorem QT:((qC T lim k).R pc p' h' ai (bC T lim k 11) 2 (aa false) seen).runFor 2=
  Am T k lim 10 ((qC T lim k).R 21 (k+1) k ai (bC T lim k 18) 2 az (seen.add 16)) ((qC T lim k).R 19 k k ai (bC T lim k 18) 2 (aa false) (seen.add 16)):=by kernel_rfl
theorem SJ:((qC T lim k).R 21 (k+1) k ai (bC T lim k 18) 2 az seen).runFor 4=(qC T lim k).R 10 k (k+1) ai [] 0 (aa ai) ((seen.add 15).add 1):=by kernel_rfl
theorem SI:((qC T lim k).R 19 k k ai (bC T lim k 18) 2 (aa false) seen).runFor 2=
  Am T k lim 13 ((qC T lim k).R 26 (k+1) k ai (bC T lim k 23) 2 az (seen.add 16)) ((qC T lim k).R 24 k k ai (bC T lim k 23) 2 (aa false) (seen.add 16)):=by kernel_rfl
def lC (T:Array Nat) (lim k:Nat):List iE:={(qC T lim k).F .lookNot 26 (k+1) ai with kept:={}}::bC T lim k 23
theorem S9:((qC T lim k).R 26 (k+1) k ai (bC T lim k 23) 2 az seen).runFor 2=
  Am T (k+1) lim 10 ((qC T lim k).R 31 (k+2) (k+1) false (lC T lim k) 3 az ((seen.add 5).add 16)) ((qC T lim k).R 29 (k+1) (k+1) false (lC T lim k) 3 (aa false) ((seen.add 5).add 16)):=by kernel_rfl
theorem SM:((qC T lim k).R 29 (k+1) (k+1) false (lC T lim k) 3 (aa false) seen).runFor 5=(qC T lim k).R 10 k (k+1) ai [] 0 (aa ai) ((seen.add 15).add 1):=by kernel_rfl
theorem CF (hp:p<=k) (hk:k<lim) (UL: ∀i,p<=i->i<k->wx (T.getD i 0)=false) (hc:wx (T.getD k 0)=ai) (hN:N<=9000) (h: ∀s0,∃s1,((qC T lim k).R 10 k k ai (fC T lim k) 1 az s0).runFor N=(qC T lim k).R 10 k e ai [] 0 (aa ai) s1):uf (bk rT T 0 p lim false) k e:=by
 rw [EB,if_neg (srch (cX hp hk))]
 refine eE (BH (T:=T) (p:=p) (k:=k) (lim:=lim) (code:=rT) (pc:=10) Ho rfl hp hk UL hc) λs0 q=> ?_
 refine eE (h s0) λs1 r=> ?_
 rw [q]
 exact yX (q:=qC T lim k) hN r
theorem Ft (hp:p<=k) (hk:k+1<lim) (UL: ∀i,p<=i->i<k->wx (T.getD i 0)=false) (h0:T.getD k 0=13) (h1:T.getD (k+1) 0=10):uf (bk rT T 0 p lim false) k (k+2):=
 CF hp (gH hk) UL (by rw [h0];rfl) (N:=2+1+4) (by decide) λs0=>⟨_,by
  rw [nM,nM,Ly,vL (gH hk) h0,PZ,vL hk h1,SL]⟩
theorem HD (hp:p<=k) (hk:k<lim) (UL: ∀i,p<=i->i<k->wx (T.getD i 0)=false) (h0:T.getD k 0=10):uf (bk rT T 0 p lim false) k (k+1):=
 CF hp hk UL (by rw [h0];rfl) (N:=2+2+4) (by decide) λs0=>⟨_,by
  rw [nM,nM,Ly,y5 (λz=>by rw [h0];decide),QT,vL hk h0,SJ]⟩
theorem Ii (hp:p<=k) (hk:k<lim) (UL: ∀i,p<=i->i<k->wx (T.getD i 0)=false) (h0:T.getD k 0=13) (h1:k+1<lim->T.getD (k+1) 0≠10):uf (bk rT T 0 p lim false) k (k+1):=
 CF hp hk UL (by rw [h0];rfl) (N:=2+1+2+2+2+5) (by decide) λs0=>⟨_,by
  rw [nM,nM,nM,nM,nM,Ly,vL hk h0,PZ,y5 h1,QT,y5 (λz=>by rw [h0];decide),SI,vL hk h0,S9,y5 h1,SM]⟩
end
noncomputable def wO:Array Nat:= #[14,4,0,1,1,6,1,16,46,1]
section
variable {T:Array Nat} {lim:Nat}
def qd (T:Array Nat) (lim s:Nat):Q:=⟨wO,T,lim,s,lim⟩
def Di (T:Array Nat) (lim s:Nat) (om:Bool) (seen:cv):M:=(qd T lim s).R 5 s s om [(qd T lim s).F .nextStart 5 s om] 1 az seen
theorem Ei (T:Array Nat) (p lim:Nat):bk wO T 0 p lim false=if (decide (p>lim)||decide (lim - p<1))=ai then (m0 wO T 5 p lim).say false else Di T lim p ai (({}:cv).add 14):=rfl
theorem Es {seen:cv}:((qd T lim s).R pc' p' hd WF [(qd T lim s).F .nextStart 5 s om] 1 (aa false) seen).step=
  if s<lim then Di T lim (s+1) false seen else (qd T lim s).R 5 s hd om [] 0 (aa false) seen:=rfl
noncomputable def wP (T:Array Nat) (s:Nat):Bool:=s==0||T.getD (s - 1) 0==10
def rD (T:Array Nat) (lim s pc pos hd:Nat) (om:Bool) (a:Option Bool) (seen:cv):M:=(qd T lim s).R pc pos hd om [(qd T lim s).F .nextStart 5 s om] 1 a seen
theorem QB {seen:cv}:(Di T lim s om seen).runFor 1=cond (wP T s) (rD T lim s 7 s s om az ((seen.add 6).add 44)) (rD T lim s 5 s s om (aa false) ((seen.add 6).add 44)):=by
 have h:(Di T lim s om seen).runFor 1=if wP T s=ai then rD T lim s 7 s s om az ((seen.add 6).add 44) else rD T lim s 5 s s om (aa false) ((seen.add 6).add 44):=by kernel_rfl
 rw [h]
 cases wP T s<;>rfl
theorem Sg {seen:cv}:(rD T lim s 7 s s om az seen).runFor 1=Am T s lim 46 (rD T lim s 9 (s+1) s om az (seen.add 16)) (rD T lim s 7 s s om (aa false) (seen.add 16)):=by kernel_rfl
theorem TH {seen:cv}:(rD T lim s 9 (s+1) s om az seen).runFor 2=(qd T lim s).R 5 s (s+1) om [] 0 (aa ai) (seen.add 1):=by cases om<;>kernel_rfl
theorem RB {seen:cv} (hs:s<lim) (ha:wP T s=ai) (hc:T.getD s 0=46): ∃Ue,(Di T lim s om seen).runFor 4=(qd T lim s).R 5 s (s+1) om [] 0 (aa ai) Ue:=
 ⟨_,by rw [show 4=1+1+2 from rfl,nM,nM,QB,ha,cond_true,Sg,vL hs hc,TH]⟩
theorem E2 {seen:cv} (h:s<lim->wP T s=ai->T.getD s 0≠46): ∃n Ue pc' p' hd WF,n<=2/\(Di T lim s om seen).runFor n=(qd T lim s).R pc' p' hd WF [(qd T lim s).F .nextStart 5 s om] 1 (aa false) Ue:=by
 cases ha:wP T s with
 |false=>exact ⟨1,_,_,_,_,_,by decide,by rw [QB,ha];rfl⟩
 |true=>exact ⟨1+1,_,_,_,_,_,by decide,by rw [nM,QB,ha,cond_true,Sg,y5 λz=>h z ha];rfl⟩
theorem E6: ∀(n s k:Nat) (om:Bool) (seen:cv),k=s+n->k<lim->(∀i,s<=i->i<k->wP T i=ai->T.getD i 0≠46)->wP T k=ai->T.getD k 0=46->
  ∃N Ue pc pos WF,N<=3*n+4/\(Di T lim s om seen).runFor N=(qd T lim k).R pc pos (k+1) WF [] 0 (aa ai) Ue
 |0,s,k,om,seen,e,hk,_,ha,hc=>by
  rw [Nat.add_zero] at e;subst e
  refine eE (RB (om:=om) (seen:=seen) hk ha hc) λUe r=> ?_
  exact ⟨4,Ue,_,_,_,by exact mu (.l xK (.a (.m 3 xJ) xK)) [] [],r⟩
 |n+1,s,k,om,seen,e,hk,UL,ha,hc=>by
  refine AH (E2 (T:=T) (lim:=lim) (s:=s) (om:=om) (seen:=seen) (λz=>UL s (aN _) (by exact (mu (.i (.e xB (.a xA (.a xC xI))) (.b xA xB)) [_,_,_]) e))) λm s1 pc' p' hd WF hm r=> ?_
  refine GT (E6 n (s+1) k false s1 (by exact (mu (.i (.e xA (.a xB (.a xC xI))) (.e xA (.a (.a xB xI) xC))) [_,_,_]) e) hk (λi hi=>UL i (by exact (mu (.i (.l (.a xA xI) xB) (.l xA xB)) [_,_]) hi)) ha hc) λN s2 a b d hN r2=> ?_
  refine ⟨m+(1+N),s2,a,b,d,by exact (mu (.i (.l xA xM) (.i (.l xB (.a (.m 3 xC) xK)) (.l (.a xA (.a xI xB)) (.a (.m 3 (.a xC xI)) xK)))) [_,_,_]) hm hN,?_⟩
  rw [nM,r,nM]
  rw [Ao (Es (T:=T) (lim:=lim) (s:=s)) rfl,if_pos (by exact (mu (.i (.e xC (.a xA (.a xD xI))) (.i (.b xC xB) (.b xA xB))) [_,_,_,_]) e hk)]
  exact r2
theorem GH: ∀(n s:Nat) (om:Bool) (seen:cv),lim=s+n->(∀i,s<=i->i<lim->wP T i=ai->T.getD i 0≠46)->
  ∃N Ue pc pos hd WF s',N<=3*n+4/\(Di T lim s om seen).runFor N=(qd T lim s').R pc pos hd WF [] 0 (aa false) Ue
 |0,s,om,seen,e,UL=>by
  refine AH (E2 (T:=T) (lim:=lim) (s:=s) (om:=om) (seen:=seen) (λz=>absurd z (by exact (mu (.i (.e xB (.a xA xJ)) (.n (.b xA xB))) [_,_]) e))) λm s1 pc' p' hd WF hm r=> ?_
  refine ⟨m+1,s1,5,s,hd,om,s,by exact (mu (.i (.l xA xM) (.l (.a xA xI) (.a (.m 3 xJ) xK))) [_]) hm,?_⟩
  rw [nM,r,Ao (Es (T:=T) (lim:=lim) (s:=s)) rfl,if_neg (by exact (mu (.i (.e xB (.a xA xJ)) (.n (.b xA xB))) [_,_]) e)];rfl
 |n+1,s,om,seen,e,UL=>by
  refine AH (E2 (T:=T) (lim:=lim) (s:=s) (om:=om) (seen:=seen) (λz=>UL s (aN _) z)) λm s1 pc' p' hd WF hm r=> ?_
  refine C8 (GH n (s+1) false s1 (by exact (mu (.i (.e xA (.a xB (.a xC xI))) (.e xA (.a (.a xB xI) xC))) [_,_,_]) e) λi hi=>UL i (by exact (mu (.i (.l (.a xA xI) xB) (.l xA xB)) [_,_]) hi)) λN s2 a b c d s' hN r2=> ?_
  refine ⟨m+(1+N),s2,a,b,c,d,s',by exact (mu (.i (.l xA xM) (.i (.l xB (.a (.m 3 xC) xK)) (.l (.a xA (.a xI xB)) (.a (.m 3 (.a xC xI)) xK)))) [_,_,_]) hm hN,?_⟩
  rw [nM,r,nM]
  rw [Ao (Es (T:=T) (lim:=lim) (s:=s)) rfl,if_pos (by exact (mu (.i (.e xB (.a xA (.a xC xI))) (.b xA xB)) [_,_,_]) e)]
  exact r2
theorem N5 (hz:lim<=1000) (hp:p<=k) (hk:k<lim) (UL: ∀i,p<=i->i<k->wP T i=ai->T.getD i 0≠46) (ha:wP T k=ai) (hc:T.getD k 0=46):uf (bk wO T 0 p lim false) k (k+1):=by
 rw [Ei,if_neg (srch (cX hp hk))]
 refine GT (E6 (T:=T) (lim:=lim) (k - p) p k ai (({}:cv).add 14) (by exact (mu (.i (.l xB xA) (.e xA (.a xB (.s xA xB)))) [_,_]) hp) hk UL ha hc) λN s' a b d hN r=> ?_
 exact yX (by exact (mu (.i (.l xB xQ) (.i (.b xC xB) (.i (.l xA (.a (.m 3 (.s xC xD)) xK)) (.l xA (.c 9000))))) [_,_,_,_]) hz hk hN) r
def yd (m:M):Prop:= ∃N,N<=10000/\(m.runFor N).outcome=aa .failed
theorem BJ (hz:lim<=1000) (UL: ∀i,p<=i->i<lim->wP T i=ai->T.getD i 0≠46):yd (bk wO T 0 p lim false):=by
 rw [Ei]
 split
 ·exact ⟨1,by decide,ui rfl rfl⟩
 ·rename_i h
  have h: ¬(p>lim)/\ ¬(lim - p<1):=by simpa using h
  refine C8 (GH (T:=T) (lim:=lim) (lim - p) p ai (({}:cv).add 14) (by exact (mu (.i (.n (.b (.s xA xB) xI)) (.e xA (.a xB (.s xA xB)))) [_,_]) h.2) UL) λN s' a b c d Vo hN r=> ?_
  refine ⟨N+1,by exact (mu (.i (.l xB xQ) (.i (.l xA (.a (.m 3 (.s xB xC)) xK)) (.l (.a xA xI) (.c 10000)))) [_,_,_]) hz hN,?_⟩
  rw [nM,r]
  exact (@Ka _ _ _ _ _ _ false _).1
theorem JN (UL: ∀i,p<=i->i<lim->wx (T.getD i 0)=false):yd (bk rT T 0 p lim false):=by
 rw [EB]
 split
 ·exact ⟨1,by decide,ui rfl rfl⟩
 ·exact ⟨1,by decide,wb (m:={m0 rT T 10 p lim with lastStart:=lim}) Ho rfl rfl rfl p ai UL⟩
theorem QU (h: ∀i,i<T.size->Ha (T.getD i 0)=false):yd (bk uk T 0 0 T.size false):=⟨1,by decide,Em h⟩
theorem Qt (h: ∀i,i<T.size->uZ (T.getD i 0)=false):yd (bk o6 T 0 0 T.size false):=⟨1,by decide,Ej h⟩
def rV (T:Array Nat) (s pc pos hd:Nat) (a:Option Bool) (seen:cv):M:=(⟨o6,T,T.size,s,T.size⟩:Q).R pc pos hd ai [(⟨o6,T,T.size,s,T.size⟩:Q).F .nextStart 15 s ai] 1 a seen
theorem SU {seen:cv}:(rV T k 15 k k az seen).runFor 1=if k>=T.size then rV T k 15 k k (aa false) (seen.add 13) else
  cond (decide (T.getD k 0<256)&&(o6.getD (17+(1+T.getD k 0/32)) 0).testBit (T.getD k 0 % 32)) (rV T k 27 (k+1) k az ((seen.add 13).add 9)) (rV T k 15 k k (aa false) (((seen.add 13).add 9).add 0)):=by
 have e:eb o6 (T.getD k 0) 28 17 ai (seen.add 13)=if (decide (T.getD k 0<256)&&(o6.getD (17+(1+T.getD k 0/32)) 0).testBit (T.getD k 0 % 32))=ai then .ok (ai,(seen.add 13).add 9) else .ok (false,((seen.add 13).add 9).add 0):=rfl
 have h:(rV T k 15 k k az seen).runFor 1=if k>=T.size then rV T k 15 k k (aa false) (seen.add 13) else match eb o6 (T.getD k 0) 28 17 ai (seen.add 13) with
  |.error why=>M.stick (rV T k 15 k k az (seen.add 13)) why
  |.ok (false,s)=>rV T k 15 k k (aa false) s
  |.ok (ai,s)=>rV T k 27 (k+1) k az s:=by kernel_rfl
 rw [h,e]
 cases (decide (T.getD k 0<256)&&(o6.getD (17+(1+T.getD k 0/32)) 0).testBit (T.getD k 0 % 32))<;>rfl
theorem Tm {seen:cv}:(rV T k 27 (k+1) k az seen).runFor 2=(⟨o6,T,T.size,k,T.size⟩:Q).R 15 k (k+1) ai [] 0 (aa ai) (seen.add 1):=by kernel_rfl
theorem R3 (hc:uZ c=ai):(decide (c<256)&&(o6.getD (17+(1+c/32)) 0).testBit (c % 32))=ai:=by
 have same: ∀k,k<8->o6.getD (17+(1+k)) 0=o6.getD (6+k) 0:=by decide
 unfold uZ at hc
 have h2:c<256:=of_decide_eq_true (aP.mp hc).1
 rw [same _ (by exact (mu (.i (.b xA (.c 256)) (.b (.d xA 32) (.c 8))) [_]) h2)]
 exact hc
theorem Pc (hk:k<T.size) (UL: ∀i,i<k->uZ (T.getD i 0)=false) (hc:uZ (T.getD k 0)=ai):uf (bk o6 T 0 0 T.size false) k (k+1):=by
 rw [ET,if_neg (srch (cX (cx _) hk))]
 refine eE (BH (T:=T) (p:=0) (k:=k) (lim:=T.size) (code:=o6) (pc:=15) GR rfl (cx _) hk (λi z=>UL i) hc) λs0 e=> ?_
 rw [e]
 exact yX (N:=1+2) (by decide) (show (rV T k 15 k k az s0).runFor (1+2)=_ by rw [nM,SU,if_neg (l8.mpr hk),R3 hc,cond_true,Tm])
end
namespace Pat
theorem plainAttrs:jA "re.Pattern":=
 ⟨⟨"object.__getattribute__",by rw [cz,bA];kernel_rfl,by decide+kernel⟩,by rw [cz,bA];kernel_rfl⟩
theorem slot_search:Slot "re.Pattern" "search" "re.Pattern.search":=
 .of (owner:="re.Pattern") (n:="search") (by rw [cz,bA];kernel_rfl) (by decide+kernel) (by decide+kernel) (by decide+kernel)
  (by first|exact .inl (by decide+kernel)|exact .inr (by decide+kernel)) (by rw [dZ];kernel_rfl)
theorem slot_sub:Slot "re.Pattern" "sub" "re.Pattern.sub":=
 .of (owner:="re.Pattern") (n:="sub") (by rw [cz,bA];kernel_rfl) (by decide+kernel) (by decide+kernel) (by decide+kernel)
  (by first|exact .inl (by decide+kernel)|exact .inr (by decide+kernel)) (by rw [dZ];kernel_rfl)
theorem type_search:kE (.builtin "re.Pattern.search")=bG (.type "method_descriptor"):=by show builtinType _=_;rw [builtinType_eq_fast];kernel_rfl
theorem type_sub:kE (.builtin "re.Pattern.sub")=bG (.type "method_descriptor"):=by show builtinType _=_;rw [builtinType_eq_fast];kernel_rfl
theorem entry_search:entryFor table "re.Pattern.search"=aa Builtin.«re.Pattern.search»:=ic (by kernel_rfl)
theorem entry_sub:entryFor table "re.Pattern.sub"=aa Builtin.«re.Pattern.sub»:=ic (by kernel_rfl)
theorem entry_loop:entryFor table "re.Pattern.sub.loop"=aa Builtin.«re.Pattern.sub.loop»:=ic (by kernel_rfl)
theorem args_search (a b:ay):argsOk "re.Pattern.search" ⟨[a,b],[]⟩:=by kernel_rfl
theorem args_sub (a b c:ay):argsOk "re.Pattern.sub" ⟨[a,b,c],[]⟩:=by kernel_rfl
end Pat
structure ro (h:aW) (a:aF) (code:Array Nat):Prop where
 at': ∃VI sl p f b t1 t2,h.get? a=aa ⟨.type "re.Pattern",VI,.fields #[p,f,.int 0 t1,.none,.none,.ref b,.int 0 t2],sl⟩/\ ∃ob vs n,h.get? b=aa ob/\ob.data= .seq vs n/\(vs.map reRawOf).map (·.toNat)=code
theorem ro.keep {code:Array Nat} (p:ro h a code) (k:mT h h'):ro h' a code:=by
 refine r7 p.at' λVI sl p f b t1 t2 e ob vs n e2 e3 e4=> ?_
 exact ⟨VI,sl,p,f,b,t1,t2,k _ _ e,ob,vs,n,k _ _ e2,e3,e4⟩
section
variable {prog:aH} {w:av} {A:aX} {X:List aF} {I:aW->Prop} {E:ay->aq->Prop}
theorem Aw {code:Array Nat} {Q:ReTarget->aq->Prop} (p:ro s.heap a code) (q:Q ⟨.ref a,.str x t,code,x.cps,0,0,0,x.cps.size⟩ s):aC (aI prog w) A (reWholeTarget (.ref a) (.str x t)) Q E s:=by
 refine r7 p.at' λVI sl p f b t1 t2 e ob vs n e2 e3 e4=> ?_
 refine ae (wpAny_fieldsOf e rfl ?_)
 refine ae (bD (show reTextOf (.str x t)=bG (x.cps,0) from rfl) ?_)
 show aC _ _ (reRawItems (.ref b) >>= λr=>bG _) _ _ _
 refine ae (ae (dY e2 e3 (aj (aj ?_))))
 show Q ⟨_,_,(vs.map reRawOf).map (·.toNat),_,_,_,_,_⟩ _
 rw [e4]
 exact q
theorem CP {code:Array Nat} {Q:ReTarget->aq->Prop} (p:ro s.heap a code) (hx:x.cps.size<=100000) (q:Q ⟨.ref a,.str x t,code,x.cps,0,0,0,x.cps.size⟩ s):
  aC (aI prog w) A (reTarget "re.Pattern.search" "search" ⟨[.ref a,.str x t],[]⟩) Q E s:=by
 refine r7 p.at' λVI sl p f b t1 t2 e ob vs n e2 e3 e4=> ?_
 refine ae (bD (show reNamed "re.Pattern.search" "search" ["string","pos","endpos"] 1 [.str x t] []=bG [aa (.str x t),az,az] from rfl) ?_)
 refine ae (aj (ae (aj ?_)))
 refine ae (wpAny_fieldsOf e rfl ?_)
 refine ae (bD (show reTextOf (.str x t)=bG (x.cps,0) from rfl) ?_)
 show aC _ _ (reRawItems (.ref b) >>= λr=>bG _) _ _ _
 refine ae (ae (dY e2 e3 (aj (aj ?_))))
 show Q ⟨_,_,(vs.map reRawOf).map (·.toNat),_,_,_,min (0:Int).toNat x.cps.size,min (2^63 - 1:Int).toNat x.cps.size⟩ _
 rw [e4]
 have h1:min (0:Int).toNat x.cps.size=0:=by rfl
 have h2:min (2^63 - 1:Int).toNat x.cps.size=x.cps.size:=by
  have:(2^63 - 1:Int).toNat=9223372036854775807:=by decide
  exact (mu (.i (.l xA (.c 100000)) (.e (.n (.t (.s xS xI)) xA) xA)) [_]) hx
 rw [h1,h2]
 exact q
theorem GO {Q:Option M->aq->Prop} (h:yd m) (q:Q az s):aC Mo A (reRunToEnd m) Q E s:=by
 obtain ⟨N,hN,e⟩:=h
 exact D2 (N:=N) (by omega) (by exact e▸q)
theorem FK {Q:Option M->aq->Prop} (h:uf m b e) (q: ∀m',m'.start=b->m'.handed=e->m'.marks= #[]->m'.lastmark= -1->m'.lastindex= -1->Q (aa m') s):aC Mo A (reRunToEnd m) Q E s:=by
 refine Mb h λN hN e1 e2 e3 e4 e5 e6=> ?_
 exact D2 (N:=N) (by omega) (by exact e1▸(q _ e2 e3 e4 e5 e6))
theorem Gr {code:Array Nat} {Q:ay->aq->Prop} (p:ro s.heap a code) (hx:x.cps.size<=100000) (hT:s.TypeIs (.ref a) "re.Pattern") (h:yd (bk code x.cps 0 0 x.cps.size false)) (q:Q .none s):
  aC (aI prog w) A (ft (.builtin "re.Pattern.search") [.ref a,.str x t]) Q E s:=by
 refine dA Pat.slot_search hT Pat.entry_search ?_ (Pat.args_search _ _)
 unfold «re.Pattern.search»
 refine ae (CP p hx ?_)
 exact ae (GO h (aj ⟨_,rfl,q⟩))
theorem Ew {code:Array Nat} {Q:ay->aq->Prop} (p:ro s.heap a code) (hx:x.cps.size<=100000) (hT:s.TypeIs (.ref a) "re.Pattern") (h:uf (bk code x.cps 0 0 x.cps.size false) b e)
  (q: ∀s' c o,bB s s'->s'.heap.get? c=aa o->o.cls= .type "re.Match"->Q (.ref c) s'):
  aC (aI prog w) A (ft (.builtin "re.Pattern.search") [.ref a,.str x t]) Q E s:=by
 refine dA Pat.slot_search hT Pat.entry_search ?_ (Pat.args_search _ _)
 unfold «re.Pattern.search»
 refine ae (CP p hx ?_)
 refine ae (FK h λm' e1 e2 e3 e4 e5=> ?_)
 refine ae ?_
 refine ae (eH ?_ (by show 2<=_;decide))
 refine eH ?_ (by show 6<=_;decide)
 exact aj ⟨_,rfl,q _ _ _ (mG (mY s _ s.toks) (mY {s with heap:=s.heap.push _} _ _)) (au _ rfl) rfl⟩
end
inductive uE (code:Array Nat) (repl T:List Nat):Nat->List Nat->Prop
 |done (p:Nat):p<=T.length->yd (bk code T.toArray 0 p T.length false)->uE code repl T p (T.drop p)
 |step (p b e:Nat) (r:List Nat):p<=b->b<e->e<=T.length->uf (bk code T.toArray 0 p T.length false) b e->uE code repl T e r->uE code repl T p ((T.drop p).take (b - p)++repl++r)
theorem FX (T:List Nat) (a b:Nat):(⟨T.toArray.extract a b⟩:Str)=S ((T.drop a).take (b - a)):=by
 simp [List.extract_toArray,List.extract_eq_drop_take]
theorem Iz: ∀xs:List (List Nat),Txt.join (S []) (xs.map S)=S xs.flatten:=by
 intro xs
 show kd _ _=_
 rw [ka]
 induction xs with
 |nil=>rfl
 |cons x xs ih=>
  cases xs with
  |nil=>simp [jl]
  |cons y ys=>
   show S x++S []++jl (S []) (S y::ys.map S)=_
   have:jl (S []) (S y::ys.map S)=S (y::ys).flatten:=ih
   rw [this,uP,uP];simp
theorem t5 {ys:List (List Nat)} (h:ys.flatten.length+ys.length*Vf.length<=1000000):JoinOk (S Vf) (ys.map S)=ai:=by
 unfold JoinOk
 rw [StrLaws.joinTotal]
 have e:((ys.map S).map (·.length)).sum=ys.flatten.length:=by
  rw [aB,List.length_flatten]
  congr 1
 rw [e,ah,mV]
 have:=aw
 generalize ys.flatten.length=N at*
 generalize ys.length*Vf.length=K at*
 simp [Str.tooLong]
 exact (mu (.i (.e xC xL) (.i (.l (.a xA xB) (.c 1000000)) (.l (.a xA xB) xC))) [_,_,_]) this h
section
variable {prog:aH} {w:av} {A:aX} {X:List aF} {I:aW->Prop}
theorem E5 {Q:Unit->aq->Prop} (pl:s.heap.PlainList D vs.toArray) (hz:vs.length<=100000)
  (q: ∀h',h'.PlainList D (vs++[y]).toArray->cL D s.heap h'->Q () {s with heap:=h'}):aC (aI prog w) A (updateSeq D (·.push y)) Q E s:=by
 obtain ⟨n,ho⟩:=pl
 have:=aw
 refine fg ho rfl (hz:=by simp;exact (mu (.i (.l xA (.c 100000)) (.i (.e xB xL) (.l xA xB))) [_,_]) hz this) (_hz':=by simp;exact (mu (.i (.l xA (.c 100000)) (.i (.e xB xL) (.l xA xB))) [_,_]) hz this) (q _ ⟨n+1,?_⟩ (ed ..))
 rw [cr _ ho (by rw [fE];rfl),fE]
 simp
theorem Js {T:List Nat} {Q:ay->aq->Prop} (hT:T.length<=1000) (q:Q (.str (S ((T.drop a).take (b - a))) s.toks) {s with toks:=s.toks+1}):aC (aI prog w) A (mkStr ⟨T.toArray.extract a b⟩) Q E s:=by
 rw [FX]
 refine ge q ?_
 have:=aw
 rw [mV,dk,bH];exact (mu (.i (.l xC xQ) (.i (.e xD xL) (.l (.n (.s xA xB) (.s xC xB)) xD))) [_,_,_,_]) hT this
theorem vC:plainId "re.Pattern.sub.loop"=ai:=by decide+kernel
theorem Ms {code:Array Nat} (hT:T.length<=1000) (hr:repl.length<=10): ∀(p:Nat) (r:List Nat),uE code repl T p r->
  ∀(s:aq) (n:Nat) (xs:List (List Nat)) (l:List (Str×Tok)),n<=p->ro s.heap a code->a≠D->(∀VI sl p f b t1 t2,s.heap.get? a=aa ⟨.type "re.Pattern",VI,.fields #[p,f,.int 0 t1,.none,.none,.ref b,.int 0 t2],sl⟩->b≠D)->s.heap.PlainList D (c8 l).toArray->l.map (·.1)=xs.map S->xs.length<=2*n->(xs.flatten).length<=20*p->
   (∀s' tk,nA s s'->(∀b o,b≠D->s.heap.get? b=aa o->s'.heap.get? b=aa o)->R (.ok (.ret (.str (S (xs.flatten++r)) tk))) s')->
   gx (aI prog w) A (.builtin "re.Pattern.sub.loop" ⟨[.ref a,.str (S T) t,.str (S repl) tr,eO 0,eO 0,eO n,eO p,eO p,.bool false,.ref D,.bool false],[]⟩) R s:=by
 have hsz:(S T).cps.size=T.length:=by rfl
 intro p r hs
 induction hs with
 |done p hp Wx=>
  intro s n xs l hn pa na nb pl hl U5 WY q
  refine gq Pat.entry_loop ?_
  rw [fF vC _]
  unfold «re.Pattern.sub.loop»
  refine ae (Aw pa (bT rfl ?_))
  refine ae (bD (show reLiteralCannotBeTurned (.str (S repl) tr)=bG () from rfl) (ae (bY rfl (GO Wx ?_))))
  have tail: ∀(TZ:aq) (UT:List (Str×Tok)) (ys:List (List Nat)),nA s TZ->(∀b o,b≠D->s.heap.get? b=aa o->TZ.heap.get? b=aa o)->TZ.heap.PlainList D (c8 UT).toArray->UT.map (·.1)=ys.map S->ys.length<=2*n+1->ys.flatten=xs.flatten++T.drop p->
    aC (aI prog w) A.in1 (do
     let Wp <-reSlice (S T).cps 0 0 0
     let VS <-seqItems? (jm D)
     if (VS.getD #[]).isEmpty=ai then ret Wp
     else do
      let text <-ft (ay.builtin (if (0==0)=ai then "str.join" else "bytes.join")) [Wp,jm D]
      ret text) (λqq s'=>match qq with|.done f=>R (.ok f) s'|.again c'=>c'.quiet=ai/\gx (aI prog w) A c' R s') (λe s'=>R (.error e) s') TZ:=by
   intro TZ UT ys ex T1 pl1 Vw hy Vz
   refine ae (ge ?_ (by simp [fJ]))
   refine eE pl1 λWC VT=> ?_
   have e₁':({TZ with toks:=TZ.toks+1}:aq).heap.get? D=aa {cls:=.type "list",data:=.seq (c8 UT).toArray WC}:=VT
   refine ae (dY e₁' rfl ?_)
   have ej:(⟨(S T).cps.extract 0 0⟩:Str)=S []:=by simp
   rw [ej]
   by_cases h0:((aa (c8 UT).toArray).getD #[]).isEmpty=ai
   ·refine bT (decide_eq_true h0) ?_
    have:UT=[]:=by
     cases UT with
     |nil=>rfl
     |cons q r=>simp [c8] at h0
    subst this
    have hys:ys=[]:=by cases ys with|nil=>rfl|cons _ _=>simp at Vw
    subst hys
    refine aj ?_
    have:=q {TZ with toks:=TZ.toks+1} TZ.toks (ex.trans ⟨_,_,rfl⟩) T1
    rw [<-Vz] at this
    exact this
   ·refine bY (decide_eq_false h0) (ae ?_)
    have hjoin:Txt.join (S []) (ys.map S)=S (xs.flatten++T.drop p):=by rw [Iz,Vz]
    have W8:({TZ with toks:=TZ.toks+1}:aq).heap.IsList D (c8 UT).toArray:=⟨_,VT,rfl,_,rfl⟩
    refine SC.join W8 Vw (t5 (by rw [Vz,af,bH,bQ,kK];exact (mu (.i (.l xB xQ) (.i (.l xC xB) (.i (.l xA (.m 20 xC)) (.l (.a (.a xA (.s xB xC)) xJ) (.c 1000000))))) [_,_,_]) hT hp WY)) λt' k=> ?_
    refine aj ?_
    rw [hjoin]
    exact q _ _ (ex.trans ⟨_,_,rfl⟩) T1
  by_cases Um:p<T.length
  ·refine bT (decide_eq_true Um) ?_
   refine ae (Js (T:=T) (a:=p) (b:=T.length) hT ?_)
   refine ae (E5 (s:={s with toks:=s.toks+1}) pl (by have:=congrArg bj hl;simp [c8] at this ⊢;exact (mu (.i (.l xB xQ) (.i (.l xC xD) (.i (.l xE (.m 2 xC)) (.i (.b xD xB) (.i (.e xA xE) (.l xA (.c 100000))))))) [_,_,_,_,_]) hT hn U5 Um this) λh' VF sb=> ?_)
   refine tail _ (l++[(S ((T.drop p).take (T.length - p)),s.toks)]) (xs++[T.drop p]) ⟨h',_,rfl⟩ (λb o nb e=>(sb.2 b nb).trans e) (by simpa [c8] using VF) ?_ (by simp;omega) (by simp)
   have:(T.drop p).take (T.length - p)=T.drop p:=bF (by simp)
   rw [this]
   simp [hl]
  ·refine bY (decide_eq_false Um) ?_
   exact tail _ l xs (nA.rfl' s) (λy y y e=>e) pl hl (by exact (mu (.i (.l xA (.m 2 xB)) (.l xA (.a (.m 2 xB) xI))) [_,_]) U5) (by rw [fj (by exact (mu (.i (.n (.b xB xA)) (.l xA xB)) [_,_]) Um)];simp)
 |step p b e r hpb hbe he V3 sub ih=>
  intro s n xs l hn pa na nb pl hl U5 WY q
  refine gq Pat.entry_loop ?_
  rw [fF vC _]
  unfold «re.Pattern.sub.loop»
  refine ae (Aw pa (bT rfl ?_))
  refine ae (bD (show reLiteralCannotBeTurned (.str (S repl) tr)=bG () from rfl) (ae (bY rfl (FK V3 λm' e1 e2 e3 e4 e5=> ?_))))
  obtain rfl:=e1
  obtain rfl:=e2
  have Uj:(m'.handed==m'.start)=false:=beq_eq_false_iff_ne.mpr (by exact (mu (.i (.b xB xA) (.n (.e xA xB))) [_,_]) hbe)
  have Ud:l.length=xs.length:=by have:=congrArg bj hl;simpa using this
  have qq: ∀(TZ:aq) (UT:List (Str×Tok)) (ys:List (List Nat)),nA s TZ->(∀b o,b≠D->s.heap.get? b=aa o->TZ.heap.get? b=aa o)->TZ.heap.PlainList D (c8 UT).toArray->UT.map (·.1)=ys.map S->ys.length<=2*n+1->ys.flatten=xs.flatten++(T.drop p).take (m'.start - p)->
    aC (aI prog w) A.in1 (do
     updateSeq D λx=>x.push (ay.str (S repl) tr)
     again (.builtin "re.Pattern.sub.loop" ⟨[.ref a,.str (S T) t,.str (S repl) tr,.int 0 0,.int 0 0,.int ((n:Int)+1) 0,.int (m'.handed:Int) 0,.int (m'.handed:Int) 0,.bool (m'.handed==m'.start),.ref D,.bool false],[]⟩))
     (λqq s'=>match qq with|.done f=>R (.ok f) s'|.again c'=>c'.quiet=ai/\gx (aI prog w) A c' R s') (λe s'=>R (.error e) s') TZ:=by
   intro TZ UT ys ex T1 pl1 Vw hy Vz
   have WG:UT.length=ys.length:=by have:=congrArg bj Vw;simpa using this
   refine ae (E5 pl1 (by simp [c8];exact (mu (.i (.l xB xQ) (.i (.l xC xD) (.i (.l xD xE) (.i (.l xF xB) (.i (.b xE xF) (.i (.l xG (.a (.m 2 xC) xI)) (.i (.e xA xG) (.l xA (.c 100000))))))))) [_,_,_,_,_,_,_]) hT hn hpb he hbe hy WG) λh' VF sb=> ?_)
   refine aj ⟨jt vC _,?_⟩
   have kk: ∀b o,b≠D->s.heap.get? b=aa o->h'.get? b=aa o:=λb o nb e=>(sb.2 b nb).trans (T1 b o nb e)
   refine r7 pa.at' λVI sl pp f bb t1 t2 z1 ob vs nn z2 z3 z4=> ?_
   have pa':ro h' a code:=⟨VI,sl,pp,f,bb,t1,t2,kk _ _ na z1,ob,vs,nn,kk _ _ (nb _ _ _ _ _ _ _ z1) z2,z3,z4⟩
   have:=ih {TZ with heap:=h'} (n+1) (ys++[repl]) (UT++[(S repl,tr)]) (by exact (mu (.i (.l xA xC) (.i (.l xC xD) (.i (.b xD xB) (.l (.a xA xI) xB)))) [_,_,_,_]) hn hpb hbe) pa' na (λVI sl p f b t1 t2 z=>by
    have z':=kk _ _ na z1
    have z:h'.get? a=_:=z
    rw [z'] at z
    cases z
    exact nb _ _ _ _ _ _ _ z1) (by simpa [c8] using VF) (by simp [Vw]) (by simp;exact (mu (.i (.l xA (.a (.m 2 xB) xI)) (.l (.a xA xI) (.m 2 (.a xB xI)))) [_,_]) hy) (by
     have h1:((T.drop p).take (m'.start - p)).length<=m'.start - p:=iH ..
     rw [eN,Vz]
     simp only [af,cu,List.flatten_nil,bK]
     exact (mu (.i (.l xC (.c 10)) (.i (.l xA (.m 20 xE)) (.i (.l xE xF) (.i (.b xF xD) (.i (.l xB (.s xF xE)) (.l (.a (.a xA xB) xC) (.m 20 xD))))))) [_,_,_,_,_,_]) hr WY hpb hbe h1) (λs' tk ex' k'=>by
     have:=q s' tk (ex.trans (nA.trans ⟨h',TZ.toks,rfl⟩ ex')) (λb o nb e=>k' b o nb (kk b o nb e))
     rw [eN,Vz]
     simpa using this)
   rw [Uj,show ((n:Int)+1)=((n+1:Nat):Int) by push_cast;rfl]
   exact this
  by_cases Um:p<m'.start
  ·refine bT (decide_eq_true Um) (ae (Js (T:=T) (a:=p) (b:=m'.start) hT ?_))
   refine ae (E5 (s:={s with toks:=s.toks+1}) pl (by simp [c8];exact (mu (.i (.l xB xQ) (.i (.l xC xD) (.i (.l xE (.m 2 xC)) (.i (.l xF xB) (.i (.b xG xF) (.i (.e xA xE) (.i (.b xD xG) (.l xA (.c 100000))))))))) [_,_,_,_,_,_,_]) hT hn U5 he hbe Ud Um) λh' VF sb=> ?_)
   refine bT rfl (ae (aj (bT rfl ?_)))
   refine qq _ (l++[(S ((T.drop p).take (m'.start - p)),s.toks)]) (xs++[(T.drop p).take (m'.start - p)]) ⟨h',_,rfl⟩ (λb o nb e=>(sb.2 b nb).trans e) (by simpa [c8] using VF) (by simp [hl]) (by simp;omega) (by simp)
  ·refine bY (decide_eq_false Um) (bT rfl (ae (aj (bT rfl ?_))))
   have hb:m'.start - p=0:=by exact (mu (.i (.n (.b xB xA)) (.e (.s xA xB) xJ)) [_,_]) Um
   refine qq _ l xs (nA.rfl' s) (λz z z e=>e) pl hl (by exact (mu (.i (.l xA (.m 2 xB)) (.l xA (.a (.m 2 xB) xI))) [_,_]) U5) (by rw [hb];simp)
theorem Hg {code:Array Nat} (hI: ∀h,I h->ro h a code) (hT:T.length<=1000) (hr:repl.length<=10) (hb:repl.contains 92=false) (hs:uE code repl T 0 r):
  pR prog w A X I (.builtin "re.Pattern.sub") [.raw (.ref a),.str (S repl),.str (S T)] (.str (S r)):=λs vs i lx rr=>by
 refine rY (zQ rr) λv u z T0 r1 r2 r3=> ?_;obtain rfl:=T0
 subst r1
 refine eE (nq r2) λtr T0=> ?_;obtain rfl:=T0
 refine eE (nq r3) λt T0=> ?_;obtain rfl:=T0
 have pa:=hI _ i
 refine r7 (id pa.at') λVI sl pp f bb t1 t2 z1 ob vs nn z2 z3 z4=> ?_
 refine ei (i8 Pat.slot_sub.plain Pat.entry_sub (Pat.slot_sub.check _ _ _ _ _ _ _ _ ⟨_,z1,rfl⟩ (Pat.args_sub _ _ _) ?_))
 unfold «re.Pattern.sub» reSubstitute
 refine ae (bD (show reNamed "re.Pattern.sub" "sub" ["repl","string","count"] 2 [.str (S repl) tr,.str (S T) t] []=bG [aa (.str (S repl) tr),aa (.str (S T) t),az] from rfl) ?_)
 refine ae (aj ?_)
 refine ae (bD (show specialOf (.str (S repl) tr) "__call__"=bG az from by
  show fu (.type "str") "__call__"=bG az
  rw [cz,bA];kernel_rfl) ?_)
 refine bY rfl ?_
 refine ae (bD (show asStr? (.str (S repl) tr)=bG (aa (S repl)) from rfl) ?_)
 refine ae (aj ?_)
 refine bY rfl ?_
 have hlit:(!(S repl).cps.contains 92)=ai:=by
  have:(S repl).cps.contains 92=repl.contains 92:=by simp [S]
  rw [this,hb];rfl
 refine bT (decide_eq_true hlit) ?_
 refine ae (aj ?_)
 refine ae (bL (Aw pa ?_))
 refine bY rfl ?_
 refine ae (wpAny_newList ?_ (by decide))
 refine aj ⟨jt vC _,?_⟩
 have k:=mY s {cls:=.type "list",data:=.seq ([]:List ay).toArray} s.toks
 have hD:s.heap.get? s.heap.objs.size=az:=nE _
 have ne: ∀{b:aF} {o:Obj},s.heap.get? b=aa o->b≠s.heap.objs.size:=λe q=>by rw [q,hD] at e;exact nB e
 refine Ms (D:=s.heap.objs.size) hT hr 0 r hs {s with heap:=s.heap.push {cls:=.type "list",data:=.seq ([]:List ay).toArray}} 0 [] [] (aN _) (pa.keep (mz k)) (ne z1) (λdct' sl' p' f' b' t1' t2' z=> ?_) ⟨_,au _ rfl⟩ rfl (by simp) (by simp) λs' tk ex k'=> ?_
 ·have z':=mz k _ _ z1
  have z:(s.heap.push {cls:=.type "list",data:=.seq ([]:List ay).toArray}).get? a=_:=z
  rw [z'] at z
  cases z
  exact ne z2
 ·refine rR ex ?_;clear ex;intro h' t' T0;obtain rfl:=T0
  exact ⟨⟨h',t',rfl,λb o e=>k' b o (ne e) (mz k _ _ e)⟩,by simpa using og⟩
end
noncomputable def pb:List Nat->List Nat
 |[]=>[]
 |c::r=>match r with
  |d::r'=>if c=13 then (if d=10 then 13::10::pb r' else 13::10::pb (d::r')) else if c=10 then 13::10::pb (d::r') else c::pb (d::r')
  |[]=>if c=13\/c=10 then [13,10] else [c]
theorem Iu (h:wx c=false) (r:List Nat):pb (c::r)=c::pb r:=by
 have h1:c≠13:=by rintro rfl;exact rj h
 have h2:c≠10:=by rintro rfl;exact rj h
 cases r with
 |nil=>simp [pb,h1,h2]
 |cons d r=>rw [pb];simp [h1,h2]
theorem xu: ∀(Uw r:List Nat),(∀c∈Uw,wx c=false)->pb (Uw++r)=Uw++pb r
 |[],r,_=>rfl
 |c::Uw,r,h=>by
  rw [bx,Iu (h c (.head _)),xu Uw r λd hd=>h d (.tail _ hd)];rfl
theorem Hm (r:List Nat):pb (10::r)=13::10::pb r:=by
 cases r with
 |nil=>simp [pb]
 |cons d r=>rw [pb];rfl
theorem CU (r:List Nat):pb (13::10::r)=13::10::pb r:=by rw [pb];rfl
theorem Hc (h:r.head?≠aa 10):pb (13::r)=13::10::pb r:=by
 cases r with
 |nil=>simp [pb]
 |cons d r=>
  have:d≠10:=by simpa using h
  rw [pb];simp [this]
theorem AP (f:Nat->Bool) (n:Nat): ∀(m p:Nat),n - p=m->p<=n->(∀i,p<=i->i<n->f i=false)\/ ∃k,p<=k/\k<n/\f k=ai/\ ∀i,p<=i->i<k->f i=false
 |0,p,h,hp=>.inl λi h1 h2=>by exact ((mu (.i (.e (.s xA xB) xJ) (.i (.l xB xC) (.n (.b xC xA)))) [_,_,_]) h h1 h2).elim
 |m+1,p,h,hp=>by
  cases hf:f p with
  |true=>exact .inr ⟨p,aN _,by exact (mu (.i (.e (.s xB xA) (.a xC xI)) (.b xA xB)) [_,_,_]) h,hf,λi h1 h2=>by exact ((mu (.i (.l xA xB) (.n (.b xB xA))) [_,_]) h1 h2).elim⟩
  |false=>
   rcases AP f n m (p+1) (by exact (mu (.i (.e (.s xA xB) (.a xC xI)) (.e (.s xA (.a xB xI)) xC)) [_,_,_]) h) (by exact (mu (.i (.e (.s xB xA) (.a xC xI)) (.l (.a xA xI) xB)) [_,_,_]) h) with q|⟨k,q1,q2,q3,q4⟩
   ·exact .inl λi h1 h2=>by
     by_cases e:i=p
     ·exact e▸hf
     ·exact q i (by exact (mu (.i (.l xA xB) (.i (.n (.e xB xA)) (.l (.a xA xI) xB))) [_,_]) h1 e) h2
   ·exact .inr ⟨k,by exact (mu (.i (.l (.a xA xI) xB) (.l xA xB)) [_,_]) q1,q2,q3,λi h1 h2=>by
     by_cases e:i=p
     ·exact e▸hf
     ·exact q4 i (by exact (mu (.i (.l xA xB) (.i (.n (.e xB xA)) (.l (.a xA xI) xB))) [_,_]) h1 e) h2⟩
theorem pO (T:List Nat) (i:Nat):T.toArray.getD i 0=T.getD i 0:=by simp [aZ]
theorem DD {T:List Nat} (h:c∈(T.drop p).take (k - p)): ∃i,p<=i/\i<k/\i<T.length/\T.getD i 0=c:=by
 obtain ⟨j,hj,e⟩:=lD h
 rw [dk,bH] at hj
 refine ⟨p+j,by exact mu (.l xA (.a xA xB)) [_,_],by exact (mu (.i (.b xB (.n (.s xC xA) (.s xD xA))) (.b (.a xA xB) xC)) [_,_,_,_]) hj,by exact (mu (.i (.b xB (.n (.s xD xA) (.s xC xA))) (.b (.a xA xB) xC)) [_,_,_,_]) hj,?_⟩
 rw [<-e,List.getElem_take,jg,aZ,aA (by exact (mu (.i (.b xB (.n (.s xD xA) (.s xC xA))) (.b (.a xA xB) xC)) [_,_,_,_]) hj)];rfl
theorem Lp {T:List Nat} (h:c∈T.drop p): ∃i,p<=i/\i<T.length/\T.getD i 0=c:=by
 obtain ⟨j,hj,e⟩:=lD h
 rw [bH] at hj
 refine ⟨p+j,by exact mu (.l xA (.a xA xB)) [_,_],by exact (mu (.i (.b xB (.s xC xA)) (.b (.a xA xB) xC)) [_,_,_]) hj,?_⟩
 rw [<-e,jg,aZ,aA (by exact (mu (.i (.b xB (.s xC xA)) (.b (.a xA xB) xC)) [_,_,_]) hj)];rfl
theorem w7 {T:List Nat} (h:k<T.length):T.drop k=T.getD k 0::T.drop (k+1):=by
 rw [gw h,aZ,aA h];rfl
theorem H6 {T:List Nat} (h:p<=k):T.drop p=(T.drop p).take (k - p)++T.drop k:=by
 conv=>lhs;rw [<-kQ (k - p) (T.drop p)]
 rw [List.drop_drop,show p+(k - p)=k by exact (mu (.i (.l xA xB) (.e (.a xA (.s xB xA)) xB)) [_,_]) h]
theorem QO (T:List Nat): ∀(m p:Nat),T.length - p<=m->p<=T.length->uE rT [13,10] T p (pb (T.drop p)):=by
 intro m
 induction m with
 |zero=>
  intro p hm hp
  have:p=T.length:=by exact (mu (.i (.l (.s xB xA) xJ) (.i (.l xA xB) (.e xA xB))) [_,_]) hm hp
  subst this
  have:=uE.done (code:=rT) (repl:=[13,10]) (T:=T) T.length (aN _) (JN λi h1 h2=>by exact ((mu (.i (.l xA xB) (.n (.b xB xA))) [_,_]) h1 h2).elim)
  rw [jw] at this ⊢
  exact this
 |succ m ih=>
  intro p hm hp
  rcases AP (λi=>wx (T.getD i 0)) T.length _ p rfl hp with q|⟨k,q1,q2,q3,q4⟩
  ·have e:pb (T.drop p)=T.drop p:=by
    have:=xu (T.drop p) [] λc hc=>by obtain ⟨i,h1,h2,rfl⟩:=Lp hc;exact q i h1 h2
    simpa [pb] using this
   rw [e]
   exact .done p hp (JN λi h1 h2=>by rw [pO];exact q i h1 h2)
  ·have UL: ∀i,p<=i->i<k->wx (T.toArray.getD i 0)=false:=λi h1 h2=>by rw [pO];exact q4 i h1 h2
   have V5:pb (T.drop p)=(T.drop p).take (k - p)++pb (T.drop k):=by
    conv=>lhs;rw [H6 q1]
    exact xu _ _ λc hc=>by obtain ⟨i,h1,h2,_,rfl⟩:=DD hc;exact q4 i h1 h2
   rw [V5,w7 q2]
   have h2:T.getD k 0=10\/T.getD k 0=13:=by simpa [wx] using q3
   rcases h2 with h2|h2
   ·rw [h2,Hm]
    have:=uE.step p k (k+1) _ q1 (by exact mu (.b xA (.a xA xI)) [_]) (by exact (mu (.i (.b xA xB) (.l (.a xA xI) xB)) [_,_]) q2) (HD (T:=T.toArray) q1 q2 UL (by rw [pO];exact h2)) (ih (k+1) (by exact (mu (.i (.l (.s xA xD) (.a xC xI)) (.i (.l xD xB) (.l (.s xA (.a xB xI)) xC))) [_,_,_,_]) hm q1) (by exact (mu (.i (.b xA xB) (.l (.a xA xI) xB)) [_,_]) q2))
    simpa using this
   ·rw [h2]
    by_cases hn:k+1<T.length/\T.getD (k+1) 0=10
    ·rw [w7 hn.1,hn.2,CU]
     have:=uE.step p k (k+2) _ q1 (by exact mu (.b xA (.a xA xM)) [_]) (by exact (mu (.i (.b (.a xA xI) xB) (.l (.a xA xM) xB)) [_,_]) hn.1) (Ft (T:=T.toArray) q1 hn.1 UL (by rw [pO];exact h2) (by rw [pO];exact hn.2)) (ih (k+2) (by exact (mu (.i (.l (.s xA xD) (.a xC xI)) (.i (.l xD xB) (.l (.s xA (.a xB xM)) xC))) [_,_,_,_]) hm q1) (by exact (mu (.i (.b (.a xA xI) xB) (.l (.a xA xM) xB)) [_,_]) hn.1))
     simpa using this
    ·rw [Hc (by
      by_cases hk:k+1<T.length
      ·rw [w7 hk];simpa using λe=>hn ⟨hk,e⟩
      ·rw [fj (by exact (mu (.i (.n (.b (.a xB xI) xA)) (.l xA (.a xB xI))) [_,_]) hk)];decide)]
     have:=uE.step p k (k+1) _ q1 (by exact mu (.b xA (.a xA xI)) [_]) (by exact (mu (.i (.b xA xB) (.l (.a xA xI) xB)) [_,_]) q2) (Ii (T:=T.toArray) q1 q2 UL (by rw [pO];exact h2) (λhk e=>hn ⟨hk,by rw [pO] at e;exact e⟩)) (ih (k+1) (by exact (mu (.i (.l (.s xA xD) (.a xC xI)) (.i (.l xD xB) (.l (.s xA (.a xB xI)) xC))) [_,_,_,_]) hm q1) (by exact (mu (.i (.b xA xB) (.l (.a xA xI) xB)) [_,_]) q2))
     simpa using this
noncomputable def dots:Bool->List Nat->List Nat
 |_,[]=>[]
 |b,c::r=>if b=ai/\c=46 then 46::46::dots false r else c::dots (c==10) r
noncomputable def wI (T:List Nat) (p:Nat):Bool:=p==0||T.getD (p - 1) 0==10
theorem EU (T:List Nat) (p:Nat):wP T.toArray p=wI T p:=by unfold wP wI;rw [pO]
theorem A5 (T:List Nat): ∀(n p k:Nat),k - p=n->p<=k->k<=T.length->(∀i,p<=i->i<k-> ¬(wI T i=ai/\T.getD i 0=46))->dots (wI T p) (T.drop p)=(T.drop p).take (k - p)++dots (wI T k) (T.drop k)
 |0,p,k,e,hp,hk,_=>by
  have:k=p:=by exact (mu (.i (.e (.s xA xB) xJ) (.i (.l xB xA) (.e xA xB))) [_,_]) e hp
  subst this;simp
 |n+1,p,k,e,hp,hk,h=>by
  have Um:p<T.length:=by exact (mu (.i (.e (.s xC xA) (.a xD xI)) (.i (.l xC xB) (.b xA xB))) [_,_,_,_]) e hk
  have ih:=A5 T n (p+1) k (by exact (mu (.i (.e (.s xA xB) (.a xC xI)) (.e (.s xA (.a xB xI)) xC)) [_,_,_]) e) (by exact (mu (.i (.e (.s xB xA) (.a xC xI)) (.l (.a xA xI) xB)) [_,_,_]) e) hk λi h1 h2=>h i (by exact (mu (.i (.l (.a xA xI) xB) (.l xA xB)) [_,_]) h1) h2
  have UM:wI T (p+1)=(T.getD p 0==10):=by unfold wI;rfl
  rw [w7 Um,dots,if_neg (h p (aN _) (by exact (mu (.i (.e (.s xB xA) (.a xC xI)) (.b xA xB)) [_,_,_]) e)),<-UM,ih,show k - p=(k - (p+1))+1 by exact (mu (.i (.e (.s xA xB) (.a xC xI)) (.e (.s xA xB) (.a (.s xA (.a xB xI)) xI))) [_,_,_]) e,eM];rfl
theorem QX (T:List Nat) (hT:T.length<=1000): ∀(m p:Nat),T.length - p<=m->p<=T.length->uE wO [46,46] T p (dots (wI T p) (T.drop p)):=by
 intro m
 induction m with
 |zero=>
  intro p hm hp
  have:p=T.length:=by exact (mu (.i (.l (.s xB xA) xJ) (.i (.l xA xB) (.e xA xB))) [_,_]) hm hp
  subst this
  have:=uE.done (code:=wO) (repl:=[46,46]) (T:=T) T.length (aN _) (BJ hT λi h1 h2=>by exact ((mu (.i (.l xA xB) (.n (.b xB xA))) [_,_]) h1 h2).elim)
  rw [jw] at this ⊢
  exact this
 |succ m ih=>
  intro p hm hp
  rcases AP (λi=>wI T i&&T.getD i 0==46) T.length _ p rfl hp with q|⟨k,q1,q2,q3,q4⟩
  ·have e:dots (wI T p) (T.drop p)=T.drop p:=by
    rw [A5 T _ p T.length rfl hp (aN _) λi h1 h2 z=>by have:=q i h1 h2;rw [z.1,z.2] at this;exact rj this]
    rw [jw,bF (by simp)];simp [dots]
   rw [e]
   exact .done p hp (BJ hT λi h1 h2 ha hc=>by rw [EU] at ha;rw [pO] at hc;have:=q i h1 h2;rw [ha,hc] at this;exact rj this)
  ·obtain ⟨ha,hc⟩:wI T k=ai/\T.getD k 0=46:=⟨(aP.mp q3).1,beq_iff_eq.mp (aP.mp q3).2⟩
   have UL: ∀i,p<=i->i<k-> ¬(wI T i=ai/\T.getD i 0=46):=λi h1 h2 z=>by have:=q4 i h1 h2;rw [z.1,z.2] at this;exact rj this
   rw [A5 T _ p k rfl q1 (by exact (mu (.i (.b xA xB) (.l xA xB)) [_,_]) q2) UL,w7 q2,dots,if_pos ⟨ha,hc⟩]
   have UM:wI T (k+1)=false:=by unfold wI;rw [ja,hc];rfl
   have:=uE.step p k (k+1) _ q1 (by exact mu (.b xA (.a xA xI)) [_]) (by exact (mu (.i (.b xA xB) (.l (.a xA xI) xB)) [_,_]) q2) (N5 (T:=T.toArray) (lim:=T.length) hT q1 q2 (λi h1 h2 ha hc=>UL i h1 h2 ⟨by rw [<-EU];exact ha,by rw [<-pO];exact hc⟩) (by rw [EU];exact ha) (by rw [pO];exact hc)) (ih (k+1) (by exact (mu (.i (.l (.s xA xD) (.a xC xI)) (.i (.l xD xB) (.l (.s xA (.a xB xI)) xC))) [_,_,_,_]) hm q1) (by exact (mu (.i (.b xA xB) (.l (.a xA xI) xB)) [_,_]) q2))
   rw [UM] at this
   simpa using this
end
section
open PySem.Calls PyProof.Rows
section
variable {prog:aH} {w:av} {c:Sc} {σ:mW} {Λ:List (aF×List PV)}
theorem LP {T id:String} (ho:Ev prog w (fs c σ Λ) o p)
  (hK: ∀(s:aq) v,In c σ Λ s.heap->mO c.X s.heap p v->s.TypeIs v T/\ ∀a,v= .ref a-> ∃ob,s.heap.get? a=aa ob/\ob.dict=az) (pa:jA T) (slot:Slot T name id)
  (Vt:kE (.builtin id)=bG (.type "method_descriptor")) (ha:tH prog w (fs c σ Λ) pos (e::es) ps) (hc:pR prog w c.A c.X (In c σ Λ) (.builtin id) (p::ps) q)
  (Up:autoParam (db o name c.env (bJ o c.env)=bJ o c.env) XZ)
  (UZ:autoParam (((fa pos (aE (e::es) c.env)).all (λx=> !x.1)&&(cM pos (bR [] c.env)).all (λx=>x.1.isSome)
   &&decide ((e::es).length+([]:List eV).length+(if ([]:List eV).isEmpty then 0 else 1)<30))=ai) XZ)
  (Uu:autoParam ((apos.endLine==pos.line)=ai) XZ) (he:autoParam (aE (e::es) c.env=(false,bJ e c.env)::aE es c.env) XZ):
  Ev prog w (fs c σ Λ) (.Call (.Attribute o name apos) (e::es) [] pos) q:=.mk λs i=>
 dN Up UZ Uu pa slot Vt (ab (ho.run s i) (λov TZ uu=>eA uu λT1 T4=>⟨(hK _ _ (i.mono (mz T1)) T4).1,(hK _ _ (i.mono (mz T1)) T4).2,nH (qo (ab (ha.run TZ (i.mono (mz T1))) (λvs T2 uu=>eA uu λT3 Ug=>by
  have T7:=i.mono (mz (mG T1 T3))
  exact ⟨rg,ab (hc T2 (ov::vs) T7 T7.liveAll (mJ.cons (T4.keep (mz T3)) Ug)) (λz z uu=>eA uu λUb Ui=>⟨mG T1 (mG T3 Ub),Ui⟩) λz z e=>e⟩) λz z e=>e) he)⟩) λz z e=>e)
theorem yc (G:Gd w n c) {T id:String} (ho:Ev prog w (fs c σ Λ) o (.raw (.ref a)))
  (hl:(KB w.params).lookup a=aa ob) (hT:ob.cls= .type T) (hd:ob.dict=az) (pa:jA T) (slot:Slot T name id)
  (Vt:kE (.builtin id)=bG (.type "method_descriptor")) (ha:tH prog w (fs c σ Λ) pos (e::es) ps) (hc:pR prog w c.A c.X (In c σ Λ) (.builtin id) (.raw (.ref a)::ps) q)
  (Up:autoParam (db o name c.env (bJ o c.env)=bJ o c.env) XZ)
  (UZ:autoParam (((fa pos (aE (e::es) c.env)).all (λx=> !x.1)&&(cM pos (bR [] c.env)).all (λx=>x.1.isSome)
   &&decide ((e::es).length+([]:List eV).length+(if ([]:List eV).isEmpty then 0 else 1)<30))=ai) XZ)
  (Uu:autoParam ((apos.endLine==pos.line)=ai) XZ) (he:autoParam (aE (e::es) c.env=(false,bJ e c.env)::aE es c.env) XZ):
  Ev prog w (fs c σ Λ) (.Call (.Attribute o name apos) (e::es) [] pos) q:=
 LP ho (λs v i r=>by
  subst r
  have:=(G.inBase _ i).frag _ _ hl
  exact ⟨⟨_,this,hT⟩,λb e=>by cases e;exact ⟨_,this,hd⟩⟩) pa slot Vt ha hc Up UZ Uu he
theorem ue (G:Gd w n c) (e:lU (KB w.params) bm x=aa (aa v)) (hr: ∀h,mO c.X h p v) (hx:autoParam (c.env.kindOf x=aa .globalImplicit) XZ) (hd:autoParam ((x==("__debug__":Str))=false) XQ):
  Ev prog w (fs c σ Λ) (.Name x pos) p:=
 Co (v:=v) G.fn hx G.gl (λh i=>(G.inBase h i).glob e) hr hd
end
theorem NQ (b:oi P h):ro h 137 wO:=⟨_,_,_,_,_,_,_,b.frag 137 Lx (by kernel_rfl),_,_,_,b.frag 136 Qq (by kernel_rfl),rfl,by decide+kernel⟩
theorem OH (b:oi P h):ro h 142 rT:=⟨_,_,_,_,_,_,_,b.frag 142 LO (by kernel_rfl),_,_,_,b.frag 141 PB (by kernel_rfl),rfl,by decide+kernel⟩
theorem Pd (b:oi P h):ro h 159 uk:=⟨_,_,_,_,_,_,_,b.frag 159 Ip (by kernel_rfl),_,_,_,b.frag 158 QW (by kernel_rfl),rfl,by decide+kernel⟩
theorem Ov (b:oi P h):ro h 164 o6:=⟨_,_,_,_,_,_,_,b.frag 164 Cj (by kernel_rfl),_,_,_,b.frag 163 Qr (by kernel_rfl),rfl,by decide+kernel⟩
theorem Lc: ∀(n:Nat) (l:List Nat),l.length<=n->(pb l).length<=2*l.length:=by
 intro n
 induction n with
 |zero=>intro l h;have:l=[]:=cC (by exact (mu (.i (.l xA xJ) (.e xA xJ)) [_]) h);subst this;simp [pb]
 |succ n ih=>
  intro l h
  cases l with
  |nil=>simp [pb]
  |cons c r=>
   cases r with
   |nil=>rw [pb];split<;>simp
   |cons d r'=>
    have h1:=ih r' (by simp at h;exact (mu (.i (.l (.a xA xI) xB) (.l xA xB)) [_,_]) h)
    have h2:=ih (d::r') (by simp at h ⊢;omega)
    simp only [aU] at h2 ⊢
    rw [pb]
    split
    ·split<;>simp only [aU]<;>(first|exact (mu (.i (.l xA (.m 2 (.a xB xI))) (.l (.a (.a xA xI) xI) (.m 2 (.a (.a xB xI) xI)))) [_,_]) h2|exact (mu (.i (.l xA (.m 2 xB)) (.l (.a (.a xA xI) xI) (.m 2 (.a (.a xB xI) xI)))) [_,_]) h1)
    ·split<;>simp only [aU]<;>(first|exact (mu (.i (.l xA (.m 2 (.a xB xI))) (.l (.a (.a xA xI) xI) (.m 2 (.a (.a xB xI) xI)))) [_,_]) h2|exact (mu (.i (.l xA (.m 2 (.a xB xI))) (.l (.a xA xI) (.m 2 (.a (.a xB xI) xI)))) [_,_]) h2)
end
section
open PySem.Calls PyProof.Rows PySem.Builtin.Str PySem.Builtin
set_option maxHeartbeats 4000000 in
theorem FV (ha:a.length<=1000000) (hb:b.length<=1000000):
  Meets («str.__mod__» ⟨[.str ⟨#[37,115,58,32,37,115]⟩ t,.ref d],[]⟩) (λz R s=>IsTup s.heap d #[.str a t1,.str b t2]/\ ∀t' k,R (.ok (.ret (.str ((a++PySem.Str.ofString ": ")++b) t'))) {s with toks:=k}):=by kpt_run
section
variable {prog:aH} {w:av} {A:aX} {X:List aF} {I:aW->Prop}
theorem OU (hm: ∀t t1 t2 d,Meets («str.__mod__» ⟨[.str (S fm) t,.ref d],[]⟩) (λj R s=>IsTup s.heap d #[.str (S a) t1,.str (S b) t2]/\ ∀t' k,R (.ok (.ret (.str T t'))) {s with toks:=k})):
  n0 prog w A X (ca .Mod) (.str (S fm)) (.tup [.str (S a),.str (S b)]) (.str T):=λs x y j r q=>by
 obtain ⟨t,rfl⟩:=nq r
 refine nh (O6 q) λd vs T0 y ht hr=> ?_;obtain rfl:=T0
 refine ng (sP hr) λu z T0 r1 r2=> ?_;obtain rfl:=T0
 obtain ⟨t1,rfl⟩:=nq r1
 obtain ⟨t2,rfl⟩:=nq r2
 have hT:s.TypeIs (.ref d) "tuple":=by
  obtain ⟨o,ho,hc,_⟩:=ht
  exact ⟨o,ho,hc⟩
 exact KPt.bin_left (T:="str") (U:="tuple") (op:=.Mod) (by decide) (dR s _ t) hT F.fills_str_mod KPt.fills_tuple F.slot_str_mod
  (gL F.slot_str_mod (dR s _ t) F.entry_str_mod (F.args_str_mod_2 _ _) (hm t t1 t2 d) ⟨ht,λt' k=>⟨(λe=>nomatch e),ox _ _,og⟩⟩)
theorem KX (ha:a.length<=1000000) (hb:b.length<=1000000):n0 prog w A X (ca .Mod) (.str (S [37,115,58,32,37,115])) (.tup [.str (S a),.str (S b)]) (.str (S (a++58::32::b))):=by
 have e:(S a++PySem.Str.ofString ": ")++S b=S (a++58::32::b):=by
  rw [show PySem.Str.ofString ": "=S [58,32] by decide+kernel,uP,uP,aJ];rfl
 exact e▸OU λt t1 t2 d=>FV (by rw [mV];exact ha) (by rw [mV];exact hb)
end
end
section
open PySem.Calls PyProof.Rows PySem.Builtin.Str
section
variable {prog:aH} {w:av} {A:aX} {X:List aF} {I:aW->Prop}
theorem tZ (h:l.length<=1000000):tS prog w A X (.str (S l)) (!l.isEmpty):=λs v r=>by
 refine eE (nq r) λt T0=> ?_;obtain rfl:=T0
 refine P.truthy_str (by rw [mV];exact (mu (.i (.l xA (.c 1000000)) (.n (.L xS (.k xA)))) [_]) h) ⟨ox _ _,?_⟩
 rw [mV]
 cases l with
 |nil=>rfl
 |cons=>simp;exact mu (.n (.E (.a (.k xA) xI) xJ)) [_]
theorem z6 {l:List UInt8} (h:l.length<=1000000):tS prog w A X (.bytes l.toArray) (!l.isEmpty):=λs v r=>by
 refine eE r ?_;clear r;intro t T0;obtain rfl:=T0
 refine truthy_bytes (by rw [bo];omega) ⟨ox _ _,?_⟩
 rw [bo]
 cases l with
 |nil=>rfl
 |cons=>simp;exact mu (.n (.E (.a (.k xA) xI) xJ)) [_]
theorem qt:tS prog w A X (.bool b) b:=λs v r=>by
 rw [L4 r]
 exact fO ⟨mN _,rfl⟩
theorem Kw:tS prog w A X (.int i) (i !=0):=λs v r=>by
 refine eE (ty r) λt T0=> ?_;obtain rfl:=T0
 exact truthy_int ⟨mN _,rfl⟩
structure Il (prog:aH) (w:av) (φ:Fs) (es:List Expr) (l:List Nat):Prop where
 run: ∀(s:aq) (Us:List Nat) (Q:Str->aq->Prop),φ.I s.heap->Us.length+l.length<=100000->(∀s',bB s s'->Q (S (Us++l)) s')->PySem.Joins (aI prog w) φ.A (λz z=>False) (evalEach es φ.env) (S Us) Q s
theorem OT:Il prog w φ [] []:=.mk λs Us Q i hl q=>by
 have:=q s (mN _)
 rw [bK] at this
 exact this
theorem vZ (h:Ev prog w φ e (.str (S a))) (hs:Il prog w φ es b):Il prog w φ (e::es) (a++b):=.mk λs Us Q i hl q=>by
 rw [af] at hl
 have hz:=aw
 refine ab (h.run s i) (λv TZ uu=>eA uu λT1 T4=> ?_) λz z e=>e
 refine eE (nq T4) λt T0=> ?_;obtain rfl:=T0
 refine ⟨_,t,rfl,by rw [uP,mV,af];exact (mu (.i (.l (.a xA (.a xB xD)) (.c 100000)) (.i (.e xC xL) (.l (.a xA xB) xC))) [_,_,_,_]) hl hz,?_⟩
 rw [uP]
 exact hs.run TZ (Us++a) Q (φ.mono' i T1) (by rw [af];exact (mu (.i (.l (.a xA (.a xB xC)) (.c 100000)) (.l (.a (.a xA xB) xC) (.c 100000))) [_,_,_]) hl) λs' k=>by rw [aJ];exact q s' (mG T1 k)
theorem JZ (h:Il prog w φ (VT::UD::es) l) (hl:l.length<=100000):Ev prog w φ (.JoinedStr (VT::UD::es) pos) (.str (S l)):=.mk λs i=>by
 have hz:=aw
 refine wpAny_JoinedStr (h.run s [] _ i (by simpa using hl) λs' k=>⟨by rw [dD,mV];exact (mu (.i (.l xA (.c 100000)) (.i (.e xB xL) (.l xA xB))) [_,_]) hl hz,mG k (ox _ _),og⟩)
theorem M1 (h:Ev prog w φ e (.str (S a))) (hl:a.length<=100000):Ev prog w φ (.FormattedValue e 115 az pos) (.str (S a)):=.mk λs i=>by
 have hz:=aw
 have hb:(S a).length<=bn:=by rw [mV];exact (mu (.i (.l xA (.c 100000)) (.i (.e xB xL) (.l xA xB))) [_,_]) hl hz
 refine wpAny_FormattedValue_s (ab (h.run s i) (λv TZ uu=>eA uu λT1 T4=> ?_) λz z e=>e)
 refine eE (nq T4) λt T0=> ?_;obtain rfl:=T0
 exact wpAny_habitSame_str (hx:=hb) (wpAny_formatField_str (hx:=hb) ⟨T1,og⟩ ⟨mG T1 (ox _ _),og⟩)
  (wpAny_formatField_str (hx:=hb) ⟨mG T1 (ox _ _),og⟩ ⟨mG T1 (ox _ _),og⟩)
noncomputable def DM:ay->Option (List Nat)
 |.str x _=>aa x.cps.toList
 |_=>az
theorem yi: ∀{ls:List (List Nat)} {vs:List ay},vs.map DM=ls.map aa->mJ X h (ls.map λl=>.str (S l)) vs
 |[],[],_=>mJ.nil
 |[],_::_,e=>by cases e
 |_::_,[],e=>by cases e
 |l::ls,v::vs,e=>by
  simp only [ba,List.cons.injEq] at e
  refine mJ.cons ?_ (yi e.2)
  cases v with
  |str x t=>
   have:=e.1
   simp only [DM,ke] at this
   subst this
   exact og
  |_=>exact nB e.1
theorem t6 (ns:List Str) {ps ds:List PV} (dvs:List ay) (T:qW w.params a fd body) (hds: ∀X h,mJ X h ds dvs)
  (Uk: ∀(s:aq) (vs:List ay),oi w.params s.heap->vs.length=ps.length->l0 s fd ⟨vs,[]⟩ (ns.zip (vs++dvs)))
  (h: ∀A X g L,n6 X g->Gd w n (mU fd a A X [] g L)->mS prog w (bf fd L a) (A.deeper (bf fd L a)) (In (mU fd a A X [] g L) (pZ ns (ps++ds)) []) body (uy g X p)) (F:autoParam (JD fd ns=ai) XQ):rI prog w (n+1) a ps p:=by
 have F:=vV F
 intro A X I hr hI hO
 refine GM (qs:=ps++ds) ns (λh i=>(hI h i).defAt T) hr.lim (λs vs i r=> ?_) F λg L i lx=> ?_
 ·exact Uk s vs (hI _ i) r.len _ _ _ _ ⟨mN _,_,rfl,r.append (hds _ _)⟩
 ·exact h A X g L lx ⟨hI g i,hO,hr.deeper _,F.kind,F.gl,F.bl⟩
end
def Has (σ σ':mW):Prop:= ∀q∈σ',σ.lookup q.1=aa q.2
theorem Cy:Has σ []:=λz h=>nomatch h
theorem xv (h:σ.lookup x=aa p) (t:Has σ σ'):Has σ ((x,p)::σ'):=λq hq=>by
 rcases ao.mp hq with e|e
 ·subst e;exact h
 ·exact t q e
theorem K8 {σ:mW} (e:σ.lookup x=aa p):(x,p)∈σ:=by
 induction σ with
 |nil=>simp at e
 |cons q σ ih=>
  obtain ⟨y,b⟩:=q
  by_cases hy:(x==y)=ai
  ·simp [aD,hy] at e;subst e;rw [beq_iff_eq.mp hy];exact .head _
  ·simp [aD,hy] at e;exact .tail _ (ih e)
theorem In.has (i:In c σ Λ h) (k:Has σ σ'):In c σ' Λ h:=i.weak λx p e=>k (x,p) (K8 e)
section
variable {prog:aH} {w:av} {c:Sc} {σ σ':mW} {Λ:List (aF×List PV)}
theorem o0 (k:Has σ σ') (h:mS prog w c.env c.A (In c σ' Λ) b J):mS prog w c.env c.A (In c σ Λ) b J:=s9 h (λz i=>i.has k) λz z j=>j
theorem Gd.loop (G:Gd w n c) (k:mT c.g g') (hf: ∀a∈is,c.g.get? a=az):Gd w n ((c.addX is).at g'):=
 ⟨G.base.keep k,Cd (zK G.base hf) G.off,G.room,G.fn,G.gl,G.bl⟩
theorem rK (G:Gd w n c) {α:Type} {l:List α} {V:α->PV} {bs:α->mW} {J:hG->aW->Prop} (σs:Nat->mW) (Λs:Nat->List (aF×List PV))
  (hi:uv prog w c σ Λ c.own T6 iter (l.map V)) (h0:σs 0=σ) (Xr:Λs 0=Λ) (ha: ∀a is,a∈l->yV prog w (c.addX is) T6 (V a) (bs a))
  (hb: ∀i a g' is,l[i]? =aa a->Gd w n ((c.addX is).at g')->mS prog w ((c.addX is).at g').env ((c.addX is).at g').A (In ((c.addX is).at g') (bs a++σs i) (Λs i)) body (λfl h=>((fl= .next\/fl= .cont)/\In ((c.addX is).at g') (σs (i+1)) (Λs (i+1)) h)\/((∃v,fl= .ret v)/\J fl h)))
  (hr:mS prog w c.env c.A (In c (σs l.length) (Λs l.length)) rest J) (hs:autoParam (∀x,cO iter c.env x=bG x) X1):
  mS prog w c.env c.A (In c σ Λ) (.For T6 iter body [] pos::rest) J:=
 Hh σs Λs hi h0 Xr ha (λi a g' is hk kg hf=>hb i a g' is hk (G.loop kg hf)) hr hs
theorem qK {J:hG->aW->Prop} (k:Has σ σ'):mS prog w c'.env c'.A (In c' σ Λ) [] (λfl h=>((fl= .next\/fl= .cont)/\In c' σ' Λ h)\/((∃v,fl= .ret v)/\J fl h)):=sD λg i=>.inl ⟨.inl rfl,i.has k⟩
theorem Ks {J:hG->aW->Prop} (k:Has σ σ'):mS prog w c'.env c'.A (In c' σ Λ) (.Continue pos::b) (λfl h=>((fl= .next\/fl= .cont)/\In c' σ' Λ h)\/((∃v,fl= .ret v)/\J fl h)):=EZ λg i=>.inl ⟨.inr rfl,i.has k⟩
theorem Gw {ι:Type} {P:ι->Prop} {m:ι->Nat} {σs:ι->mW} {Λs:ι->List (aF×List PV)} {i:ι} (j:ι) (hP:P j) (hm:m j<m i) (hL:Λs j=Λ) (k:Has σ (σs j)):
  mS prog w c.env c.A (In c σ Λ) [] (λfl h=>(fl= .next\/fl= .cont)/\ ∃j,P j/\m j<m i/\In c (σs j) (Λs j) h):=sD λg q=>⟨.inl rfl,j,hP,hm,by rw [hL];exact q.has k⟩
theorem O5 {ι:Type} {P:ι->Prop} {m:ι->Nat} {σs:ι->mW} {Λs:ι->List (aF×List PV)} {i:ι} (j:ι) (hP:P j) (hm:m j<m i) (hL:Λs j=Λ) (k:Has σ (σs j)):
  mS prog w c.env c.A (In c σ Λ) (.Continue pos::b) (λfl h=>(fl= .next\/fl= .cont)/\ ∃j,P j/\m j<m i/\In c (σs j) (Λs j) h):=EZ λg q=>⟨.inr rfl,j,hP,hm,by rw [hL];exact q.has k⟩
end
section
variable {prog:aH} {w:av} {A:aX} {X:List aF} {I:aW->Prop}
theorem wC:n0 prog w A X (bP .In) (.str y) (.str x) (.bool (Txt.contains x y)):=λs a b z r q=>by
 obtain ⟨t,rfl⟩:=nq r;obtain ⟨u,rfl⟩:=nq q
 exact P.in_str ⟨mN _,uC⟩
theorem D3:n0 prog w A X (bP .NotIn) (.str y) (.str x) (.bool (!Txt.contains x y)):=λs a b z r q=>by
 obtain ⟨t,rfl⟩:=nq r;obtain ⟨u,rfl⟩:=nq q
 exact P.notIn_str ⟨mN _,uC⟩
theorem sR (l:List Nat) (c:Nat):Txt.contains (S l) (S [c])=l.contains c:=by
 show (!(j9 (S l) ⟨#[c]⟩ 0 (S l).length 1).isEmpty)=_
 rw [StrLaws.found_one]
 simp
end
section
variable {α:Type}
theorem yq (n i:Nat):dQ n (i:Int)=min i n:=by
 have:=clipAt_cast n (i:Int)
 rw [if_neg (by exact mu (.n (.B (.k xA) xJ)) [_])] at this
 exact (mu (.i (.E (.k xA) (.x xJ (.n (.k xB) (.k xC)))) (.e xA (.n xB xC))) [_,_,_]) this
theorem A3 (n k:Nat) (hk:1<=k):dQ n (-(k:Int))=n - k:=by
 have:=clipAt_cast n (-(k:Int))
 rw [if_pos (by exact (mu (.i (.l xI xA) (.B (.g (.k xA)) xJ)) [_]) hk)] at this
 exact (mu (.i (.E (.k xA) (.x xJ (.n (.a (.g (.k xC)) (.k xB)) (.k xB)))) (.e xA (.s xB xC))) [_,_,_]) this
theorem FN {l:List α} (h:min a l.length=min b l.length):l.take a=l.take b:=List.take_eq_take_iff.mpr h
theorem Fg (l:List α) (i:Nat):l.drop (min i l.length)=l.drop i:=by
 rcases kM i l.length with h|h
 ·rw [fX h]
 ·rw [Nat.min_eq_right h,fq (aN _),fq h]
theorem BM (l:List α) (i j:Nat):qX l (aa (i:Int)) (aa (j:Int))=(l.drop i).take (j - i):=by
 show (l.drop (dQ l.length (i:Int))).take (dQ l.length (j:Int) - dQ l.length (i:Int))=_
 rw [yq,yq,Fg]
 refine FN ?_
 rw [bH]
 rcases kM i l.length with h|h
 ·rw [fX h,<-Nat.sub_min_sub_right,Nat.min_assoc,Nat.min_self]
 ·rw [kW h,kL,kL]
theorem Rm (l:List α) (i:Nat):qX l (aa (i:Int)) az=l.drop i:=by
 show (l.drop (dQ l.length (i:Int))).take (l.length - dQ l.length (i:Int))=_
 rw [yq,Fg]
 refine bF ?_
 rw [bH]
 exact mu (.l (.s xA xB) (.s xA (.n xB xA))) [_,_]
theorem JA (l:List α) (j:Nat):qX l az (aa (j:Int))=l.take j:=by
 show (l.drop 0).take (dQ l.length (j:Int) - 0)=_
 rw [yq,eD]
 exact FN (by exact mu (.e (.n (.s (.n xA xB) xJ) xB) (.n xA xB)) [_,_])
theorem Br (l:List α) (k:Nat) (hk:1<=k):qX l az (aa (-(k:Int)))=l.take (l.length - k):=by
 show (l.drop 0).take (dQ l.length (-(k:Int)) - 0)=_
 rw [A3 _ _ hk,eD,g4]
theorem QQ (l:List α):qX l az az=l:=by
 show (l.drop 0).take (l.length - 0)=_
 simp
end
end
section
open PySem.Calls PyProof.Rows PySem.Builtin.Str PySem.Builtin
namespace BA
noncomputable def bound (D:aF):Obj:={cls:=.type "builtin_function_or_method",data:=.fields #[.builtin "list.append",.ref D]}
theorem slot_get:Slot "method_descriptor" "__get__" "method_descriptor.__get__":=
 .of (owner:="method_descriptor") (n:="__get__") (by rw [cz,bA];kernel_rfl) (by decide+kernel) (by decide+kernel) (by decide+kernel)
  (by first|exact .inl (by decide+kernel)|exact .inr (by decide+kernel)) (by rw [dZ];kernel_rfl)
theorem entry_get:entryFor table "method_descriptor.__get__"=aa Builtin.«method_descriptor.__get__»:=ic (by kernel_rfl)
theorem args_get (a b c:ay):argsOk "method_descriptor.__get__" ⟨[a,b,c],[]⟩:=by kernel_rfl
theorem no_set:fu (.type "method_descriptor") "__set__"=bG az:=by rw [cz,bA];kernel_rfl
theorem no_delete:fu (.type "method_descriptor") "__delete__"=bG az:=by rw [cz,bA];kernel_rfl
theorem sub_list:jT (.type "list") (.type "list")=bG ai:=by rw [dZ];kernel_rfl
theorem not_told:Manifest.toldItsClass.contains "list.append"=false:=by decide+kernel
section
variable {prog:aH} {w:av} {M:Model} {A:aX} {E:ay->aq->Prop} {s:aq} {D:aF} {vs:Array ay} {n:Nat}
theorem run_get {P:Fin->aq->Prop} (hD:s.heap.get? D=aa {cls:=.type "list",data:=.seq vs n}) (h:P (.done (.ret (.ref s.heap.objs.size))) {s with heap:=s.heap.push (bound D)}):
  aC M A (Builtin.«method_descriptor.__get__» ⟨[.builtin "list.append",.ref D,.type "list"],[]⟩) P E s:=by
 unfold Builtin.«method_descriptor.__get__»
 refine ae (bD (a:=(.builtin "list.append",aa (.ref D),aa (.type "list"))) (by first|rfl|kernel_rfl) ?_)
 simp only [not_told]
 have hT:s.TypeIs (.ref D) "list":=⟨_,hD,rfl⟩
 have e1:(kfb_private% "nameAndClass") (.builtin "list.append")=bG (PySem.Str.ofString "append",.type "list"):=by first|rfl|kernel_rfl
 refine gZ rfl ?_
 k_delta "bindBuiltin"
 k_delta "checkInstance"
 refine ae (ae (bD e1 ?_))
 refine ae (jW hT sub_list ?_)
 refine gZ rfl ?_
 exact aj (ae (eH (aj h)))
theorem run_find {t:Tok} {P:PySem.Fin->aq->Prop} (hD:s.heap.get? D=aa {cls:=.type "list",data:=.seq vs n})
  (h:P (.done (.ret (.ref s.heap.objs.size))) {s with heap:=s.heap.push (bound D)}):
  aC (aI prog w) A (Builtin.«object.__getattribute__» ⟨[.ref D,.str "append" t],[]⟩) P E s:=by
 obtain ⟨hp,g,d,tk,os⟩:=s
 have hT:(⟨hp,g,d,tk,os⟩:aq).TypeIs (.ref D) "list":=⟨_,hD,rfl⟩
 have f6:=F.slot_list_append.lookup
 have f7:=F.type_list_append
 have f8:=slot_get.lookup
 have f9:=no_set
 have f10:=no_delete
 unfold Builtin.«object.__getattribute__»
 repeat (any_goals (first|assumption|wp_step))
 refine i8 slot_get.plain entry_get (slot_get.check _ _ _ _ _ _ _ _ f7 (args_get _ _ _) (run_get hD ?_))
 exact aj h
theorem getAttr_append {Q:ay->aq->Prop} (hD:s.heap.get? D=aa {cls:=.type "list",data:=.seq vs n})
  (h: ∀tk,Q (.ref s.heap.objs.size) {s with heap:=s.heap.push (bound D),toks:=tk}):aC (aI prog w) A (getAttr (.ref D) "append" ai) Q E s:=by
 obtain ⟨hp,g,d,tk,os⟩:=s
 have hT: ∀tk',(⟨hp,g,d,tk',os⟩:aq).TypeIs (.ref D) "list":=λz=>⟨_,hD,rfl⟩
 have f3:=F.slot_list_getattribute.lookup
 have f4:=F.slot_list_getattribute.bind (.ref D)
 have f5:=am_list_getattr_none
 repeat (any_goals (first|assumption|exact hT _|wp_step))
 exact i8 F.slot_list_getattribute.plain am_entry_list_getattribute (F.slot_list_getattribute.check _ _ _ _ _ _ _ _ (hT _) (F.args_list_getattribute_2 _ _) (run_find hD (aj (h _))))
def StandsAt (x D:aF) (h:aW):Prop:=h.get? x=aa (bound D)
theorem callWith_fields {x:aF} {pos:Pos} {first:List ay} {args:List (Bool×Sem ay)} {Q:ay->aq->Prop} (Xc:args.any (·.1)=false)
  (h:aC M A (evalArgs (.ref x) ai args []) (λy TZ=>StandsAt x D TZ.heap/\aC M A (ft (.ref x) (first++y.pos) y.kw) Q E TZ) E s):aC M A (gI pos (.ref x) first args []) Q E s:=by
 refine ae (bL (ab h (λx TZ Ua=>ae (eC ?_)) λz z x=>x))
 refine eA Ua λho Wg=> ?_
 simp only [Xc,List.any_nil,iM]
 refine ae (m:=keeperOf (.ref _)) ?_
 refine ae (wpAny_load ho ?_)
 refine KFB.if_so (show (dq "builtin_function_or_method"!=dq "method")=ai by decide) ?_
 refine aj ?_
 exact ae (ab Wg (λr T2 hr=>ae (bL (wpAny_point (aj hr)))) λz z x=>x)
theorem quiet: ∀{as:Args},(Code.builtin "list.append" as).quiet=ai:=Code.quiet_builtin _ (by decide+kernel)
theorem sub_module:jT (.type "list") (.type "module")=bG false:=by rw [dZ];kernel_rfl
theorem sigd:(g9 "list.append").isSome=ai:=by rw [ll (id:="list.append") (n:=['d','n','e','p','p','a']) (o:=['t','s','i','l']) (by kernel_rfl) F.owner_list];kernel_rfl
theorem kind:builtinKind "list.append"=aa .method:=by kernel_rfl
theorem noVar:Manifest.varargsMethods.contains "list.append"=false:=by decide+kernel
theorem args_here {D:aF} {y:ay}:(match g9 "list.append" with|some sig=>Bind.checkArgs "list.append" {sig with full:="list.append"} ⟨[.ref D,y],[]⟩|none=>bG ())=bG ():=by
 rw [ll (id:="list.append") (n:=['d','n','e','p','p','a']) (o:=['t','s','i','l']) (by kernel_rfl) F.owner_list];kernel_rfl
theorem check {y:ay} {Q:Unit->aq->Prop} (hD:s.heap.get? D=aa {cls:=.type "list",data:=.seq vs n}) (h:Q () s):aC M A (checkBoundCall "list.append" ⟨[.ref D,y],[]⟩) Q E s:=by
 have hT:s.TypeIs (.ref D) "list":=⟨_,hD,rfl⟩
 have hg:=args_here (D:=D) (y:=y)
 unfold checkBoundCall
 cases hs:g9 "list.append" with
 |none=>have:=sigd;rw [hs] at this;exact o8 this
 |some sig=>
  rw [hs] at hg
  dsimp only at hg ⊢
  rw [kind]
  refine gZ rfl ?_
  refine ae (jW hT sub_module ?_)
  rw [noVar]
  refine gZ rfl ?_
  have e:(toString (Bind.lastOf "list")++toString "."++toString (Bind.lastOf "list.append"):String)="list.append":=by decide+kernel
  refine ae ?_
  simp only [isType,loadHead]
  refine ae (kI hD (aj ?_))
  refine gZ rfl ?_
  refine ae (wpAny_typeOf hT ?_)
  dsimp only
  rw [e]
  exact bD hg h
theorem call_app {x:aF} {y:ay} {Uf:Array ay} {Q:ay->aq->Prop} (ho:StandsAt x D s.heap) (hl:s.heap.PlainList D Uf)
  (hQ: ∀h',h'.PlainList D (Uf.push y)->cL D s.heap h'->Q .none {s with heap:=h'}) (hsz:Uf.size<=bn):aC (aI prog w) A (ft (.ref x) [y]) Q E s:=by
 refine ei (codeAny_of_tree ?_)
 refine ae (wpAny_load ho ?_)
 show aC _ _ (if (dq "builtin_function_or_method"==dq "method"||Value.type "builtin_function_or_method"==dq "builtin_function_or_method"||Value.type "builtin_function_or_method"==dq "method-wrapper")=ai then _ else _) _ _ _
 refine KFB.if_so (by decide) ?_
 show aC _ _ (if (dq "builtin_function_or_method"!=dq "method")=ai then _ else _) _ _ _
 refine KFB.if_so (by decide) ?_
 refine eE hl λn hl=> ?_
 refine ae (check hl ?_)
 refine aj ⟨quiet,gq entry_list_append ?_⟩
 show aC _ _ (updateSeq D (·.push y) >>= λz=>ret .none) _ _ s
 refine ae ?_
 refine fg hl rfl (aj (hQ _ ⟨n+1,?_⟩ (ed ..)))
 rw [cr _ hl (by rw [fE];rfl),fE]
end
end BA
end
section
open PySem.Calls PyProof.Rows PySem.Builtin.Str
section
variable {prog:aH} {w:av} {c:Sc} {σ:mW} {Λ:List (aF×List PV)}
theorem Gd.addOwn (G:Gd w n c) (D:aF):Gd w n (c.addOwn D):=⟨G.base,G.off,G.room,G.fn,G.gl,G.bl⟩
theorem Gd.at' (G:Gd w n c) (k:mT c.g g'):Gd w n (c.at g'):=⟨G.base.keep k,G.off,G.room,G.fn,G.gl,G.bl⟩
theorem vQ (G:Gd w n c) {α:Type} {l:List α} {V:α->PV} {bs:α->mW} (σs:Nat->mW) (Λs:Nat->List (aF×List PV))
  (hi:uv prog w c σ Λ c.own T6 iter (l.map V)) (h0:σs 0=σ) (Xr:Λs 0=Λ) (ha: ∀a is,a∈l->yV prog w (c.addX is) T6 (V a) (bs a))
  (hb: ∀i a g' is,l[i]? =aa a->Gd w n ((c.addX is).at g')->mT c.g g'->mS prog w ((c.addX is).at g').env ((c.addX is).at g').A (In ((c.addX is).at g') (bs a++σs i) (Λs i)) body (λfl h=>((fl= .next\/fl= .cont)/\In ((c.addX is).at g') (σs (i+1)) (Λs (i+1)) h)\/((∃v,fl= .ret v)/\J fl h)))
  (hr:mS prog w c.env c.A (In c (σs l.length) (Λs l.length)) rest J) (hs:autoParam (∀x,cO iter c.env x=bG x) X1):
  mS prog w c.env c.A (In c σ Λ) (.For T6 iter body [] pos::rest) J:=
 Hh σs Λs hi h0 Xr ha (λi a g' is hk kg hf=>hb i a g' is hk (G.loop kg hf) kg) hr hs
theorem F1 (hy:σ.lookup y=aa (.raw (.ref D))) (hl: ∃q∈Λ,q.1=D)
  (hb: ∀m g',mT c.g g'->g'.get? m=aa (BA.bound D)->mS prog w (c.at g').env (c.at g').A (In (c.at g') ((x,.raw (.ref m))::σ) Λ) b J)
  (hx:autoParam (sB c x) XJ) (hk:autoParam (c.env.scope.kind= .function) XZ) (hd:autoParam ((y==("__debug__":Str))=false) XQ)
  (hs:autoParam (cJ (.Attribute (.Name y yp) ("append":Str) ap) (aa (.Name x px)) pos.line c.env=bG false) XZ)
  (Up:autoParam (db (.Name y yp) ("append":Str) c.env (bJ (.Name y yp) c.env)=bJ (.Name y yp) c.env) XZ) (ht:autoParam (∀o r,i7 (.Name y yp) o r=bG ()) X2):
  mS prog w c.env c.A (In c σ Λ) (.Assign [.Name x px] (.Attribute (.Name y yp) ("append":Str) ap) pos::b) J:=.mk λs i=>by
 refine mQ (i.look hy) λv L rv=> ?_
 subst rv
 refine mQ hl ?_;clear hl;intro q hq T0;obtain rfl:=T0
 obtain ⟨hD,vs,⟨n,pl⟩,rs⟩:=i.lists _ hq
 rw [ch]
 refine ae (cN ?_ hs)
 rw [arm_eval_Attribute,Up]
 refine ae (jy (u9 hk L ?_) hd)
 refine ae (eC ?_)
 refine ae (bL ?_)
 refine BA.getAttr_append pl λtk=> ?_
 rw [ht]
 refine ae (aj (aj ?_))
 have T1:bB s {s with heap:=s.heap.push (BA.bound q.1),toks:=tk}:=mY s _ tk
 have T8:=i.mono (mz T1)
 refine ab (rt (p:=.raw (.ref s.heap.objs.size)) T8 hx o7 hk) (λz T2 uu=>rN uu λUD T7 kx=> ?_) λz z e=>e
 have hn:s.heap.objs.size∉c.own:=λhm=>by obtain ⟨_,e⟩:=i.live _ hm;exact absurd (aR e) (cn _)
 have hm:(hideAll T2.heap c.own).get? s.heap.objs.size=aa (BA.bound q.1):=by
  exact bS _ (kx _ _ hn (au _ rfl)) hn
 exact ab ((hb _ _ (wM T7) hm).run T2 T7.hide) (λfl T9 uu=>eA uu λUJ j=>⟨((nA.of T1).trans (UD.trans UJ)),j⟩) λz z e=>e
theorem tM (hm:c.g.get? m=aa (BA.bound D)) (hx:σ.lookup x=aa (.raw (.ref m)))
  (he:Ev prog w (fs c σ ((D,l)::Λ)) e p) (hsz:l.length<=bn) (Uj: ∀q∈Λ,q.1≠D)
  (hb:mS prog w c.env c.A (In c σ ((D,l++[p])::Λ)) b J)
  (hi:autoParam (i5 c.env=false) XZ) (hs:autoParam (cJ (.Call (.Name x xp) [e] [] pos) az Vd.line c.env=bG false) XZ)
  (hd:autoParam ((x==("__debug__":Str))=false) XQ) (hk:autoParam (c.env.scope.kind= .function) XZ)
  (UR:autoParam (aE [e] c.env=(false,bJ e c.env)::aE [] c.env) XZ):
  mS prog w c.env c.A (In c σ ((D,l)::Λ)) (.Expr (.Call (.Name x xp) [e] [] pos) Vd::b) J:=
 qQ (I':=In c σ ((D,l++[p])::Λ)) (λs i=>by
  refine mQ (i.look hx) λv L rv=> ?_
  subst rv
  refine fM ?_ hi hs
  refine cj (jy (u9 hk L ?_) hd)
  refine BA.callWith_fields (D:=D) (by rw [UR];rfl) (qo (cB (ab (he.run s i) (λu TZ uu=>eA uu λT1 T4=>cF ?_) λz z e=>e) UR) UR)
  have T8:=i.mono (mz T1)
  have hm1:TZ.heap.get? m=aa (BA.bound D):=T8.keep _ _ hm
  refine ⟨hm1,?_⟩
  refine oV (T8.lists _ (.head _)) λhD vs pl rs=> ?_
  refine BA.call_app hm1 pl (λh' hl XH=>⟨(nA.of T1).trans ⟨_,_,rfl⟩,T8.push T4 (λus pu=> ?_) XH Uj⟩) (by rw [bo,rs.len];exact hsz)
  refine eE pl λn e=> ?_
  refine eE pu λn' e'=> ?_
  rw [e] at e'
  have:vs=us:=by
   have q:=congrArg Obj.data (am e')
   injection q with q1 q2
   simpa using q1
  subst this
  simpa using hl) hb
theorem sn {J:hG->aW->Prop} (k:Has σ σ') (e:Λ=Λ'):mS prog w c'.env c'.A (In c' σ Λ) [] (λfl h=>((fl= .next\/fl= .cont)/\In c' σ' Λ' h)\/((∃v,fl= .ret v)/\J fl h)):=by subst e;exact qK k
end
end
section
open PySem.Calls PyProof.Rows PySem.Builtin.Str
def un (X:List aF) (h:aW) (a:aF) (l:List PV):Prop:= ∃d D vs,oI h a d D/\h.IsList D vs.toArray/\mJ X h l vs
theorem oI.keep (t:oI h a d D) (k:mT h h'):oI h' a d D:=⟨k _ _ t.obj,let ⟨o,e,r⟩:=t.dic;⟨o,k _ _ e,r⟩⟩
theorem un.keep (t:un X h a l) (k:mT h h'):un X h' a l:=
 let ⟨d,D,vs,x,y,z⟩:=t;⟨d,D,vs,x.keep k,y.at λo e=>k _ _ e,z.keep k⟩
theorem un.sub (t:un X h a l) (k: ∀b,b∈Y->(∃o,h.get? b=aa o)->b∈X):un Y h a l:=
 let ⟨d,D,vs,x,y,z⟩:=t;⟨d,D,vs,x,y,z.sub k⟩
theorem vM (t:oI h a d D): ∃od,InstAt h a (gd 293 d) 293 (aa od)/\gp "_headers" od=aa (aa (.ref D))/\ ∀n:Str,(n=="_headers")=false->gp n od=aa az:=
 let ⟨od,e,p,q⟩:=t.dic;⟨od,⟨t.obj,rfl,rfl,e⟩,p,q⟩
theorem BV (P:aQ):iU (KB P) (.ref 293) "__getattribute__"=aa (aa (.builtin "object.__getattribute__")):=by kernel_rfl
theorem DZ (P:aQ):iU (KB P) (.ref 293) "__getattr__"=aa az:=by kernel_rfl
theorem RU (P:aQ):iU (KB P) (.ref 293) "_headers"=aa az:=by kernel_rfl
theorem Hd (P:aQ):(clsIn (KB P) 293).any (·.hasDict)=ai:=by kernel_rfl
theorem NY (e:gp "_headers" od=aa (aa (.ref D))):findObj (KB P) 293 (aa od) "_headers"=aa (.value (.ref D)):=by
 refine mQ (any_some (Hd P)) λcd hc hd=> ?_
 unfold findObj
 rw [hc,gF,RU,gF]
 unfold W.ownOf
 rw [gF,gF,hd,if_pos rfl]
 dsimp only
 rw [e];rfl
section
variable {prog:aH} {w:av} {c:Sc} {σ:mW} {Λ:List (aF×List PV)}
theorem uH (G:Gd w n c) (ho:Ev prog w (fs c σ Λ) o (.raw (.ref a))) (ht:oI c.g a d D)
  (Up:autoParam (db o "_headers" c.env (bJ o c.env)=bJ o c.env) XZ) (hl:autoParam (∀v r,i7 o v r=bG ()) X2):
  Ev prog w (fs c σ Λ) (.Attribute o "_headers" ap) (.raw (.ref D)):=.mk λs i=>by
 show aC _ _ (bJ _ c.env) _ _ s
 rw [arm_eval_Attribute,Up]
 refine ae (ab (ho.run s i) (λv TZ uu=>eA uu λT1 T4=> ?_) λz z e=>e)
 subst T4
 have T8:=i.mono (mz T1)
 refine ae (eC (ae (bL ?_)))
 refine tE (vM (ht.keep T8.keep)) λod I e1 e2=> ?_
 refine get_value (G.inBase _ T8).frag I (BV _) (NY e1) rfl ?_
 rw [hl]
 exact ae (aj (aj ⟨mG T1 (ox _ _),o7⟩))
def Ex (prog:aH) (w:av) (φ:Fs) (pos:Pos) (Vc:List eV) (ks:List (Str×PV)):Prop:=
 (cM pos (bR Vc φ.env)).all (·.1.isSome)=ai/\(cM pos (bR Vc φ.env)).filterMap (·.1)=ks.map (·.1)/\
 ∀s:aq,φ.I s.heap->aC (aI prog w) φ.A (evalAll ((cM pos (bR Vc φ.env)).map (·.2))) (λus s'=>bB s s'/\mJ φ.X s'.heap (ks.map (·.2)) us) (λz z=>False) s
theorem yg:Ex prog w φ pos [] []:=⟨rfl,rfl,λs i=>kwAll_nil ⟨mN _,mJ.nil⟩⟩
theorem yt (h:Ev prog w φ e q):Ex prog w φ pos [⟨aa name,e,p⟩] [(name,q)]:=
 ⟨rfl,rfl,λs i=>kwAll_cons (ab (h.run s i) (λv TZ uu=>eA uu λT1 T4=>kwAll_nil ⟨T1,mJ.cons T4 mJ.nil⟩) λz z e=>e)⟩
structure tG (prog:aH) (w:av) (φ:Fs) (o:Expr) (H:aW->aF->Prop):Prop where
 run: ∀s:aq,φ.I s.heap->aC (aI prog w) φ.A (bJ o φ.env) (λv s'=>bB s s'/\ ∃a,v= .ref a/\H s'.heap a) (λz z=>False) s
theorem Ny (G:Gd w n c)
  (ho:tG prog w (fs c σ Λ) o H) (hH: ∀h a,H h a-> ∃d D,oI h a d D) (hm: ∀h h' a,H h a->mT h h'->H h' a)
  (hf:iU (KB w.params) (.ref 293) name=aa (aa (.ref f))) (Wb:(KB w.params).lookup f=aa ⟨oc,od,.func fd,sl⟩) (hn:(name==("_headers":Str))=false) (Vt:lX (KB w.params) (.ref f)=aa (.type "function"))
  (ha:tH prog w (fs c σ Λ) pos (e::es) ps) (hk:Ex prog w (fs c σ Λ) pos Vc ks) (hc: ∀a,HZ prog w c.A c.X (λh=>In c σ Λ h/\H h a) (.ref f) (.raw (.ref a)::ps) ks q)
  (VX:autoParam (bJ (.Call (.Attribute o name apos) (e::es) Vc pos) c.env=(do
   let ov <-bJ o c.env
   iu apos.atName
   let (f,first) <-gV [ov] (ia ov name pl)
   gI pos f first (fa pos (aE (e::es) c.env)) (cM pos (bR Vc c.env)))) XZ)
  (he:autoParam (aE (e::es) c.env=(false,bJ e c.env)::aE es c.env) XZ):
  Ev prog w (fs c σ Λ) (.Call (.Attribute o name apos) (e::es) Vc pos) q:=.mk λs i=>by
 refine ju (ab (ho.run s i) (λv TZ uu=>oV uu λT1 a ea Ua=> ?_) λz z e=>e) VX
 subst ea
 have T8:=i.mono (mz T1)
 refine rR (hH _ _ Ua) λd D t=> ?_
 refine tE (vM t) λWZ I e1 e2=> ?_
 refine lJ (G.inBase _ T8).frag I (BV _) (DZ _) hf Vt (by show (gp name WZ).map _=_;rw [e2 _ hn];rfl) ?_
 refine nH (evalArgs_kw2 hk.1 (ab (ha.run TZ T8) (λvs T2 uu=>eA uu λT3 Ug=>ab (hk.2.2 T2 (T8.mono (mz T3))) (λus T9 uu=>eA uu λUb Ui=> ?_) λz z e=>e) λz z e=>e) he)
 have k13:=mG T3 Ub
 have Uh:=T8.mono (mz k13)
 refine ⟨rB ((G.inBase _ Uh).frag _ _ Wb) rfl,?_⟩
 show aC _ _ (ft (.ref f) ([.ref a]++vs) ((ik (λx=>x.fst) (cM pos (bR Vc c.env))).zip us)) _ _ _
 rw [show ik (λx=>x.fst) (cM pos (bR Vc c.env))=ks.map (·.1) from hk.2.1]
 exact ab (hc a T9 (.ref a::vs) us ⟨Uh,hm _ _ _ Ua (mz k13)⟩ Uh.liveAll (mJ.cons o7 (Ug.keep (mz Ub))) Ui) (λz z uu=>eA uu λUx V9=>⟨mG T1 (mG k13 Ux),V9⟩) λz z e=>e
theorem Ps (G:Gd w n c)
  (ho:tG prog w (fs c σ Λ) o H) (hH: ∀h a,H h a-> ∃d D,oI h a d D) (hm: ∀h h' a,H h a->mT h h'->H h' a)
  (hf:iU (KB w.params) (.ref 293) name=aa (aa (.ref f))) (Wb:(KB w.params).lookup f=aa ⟨oc,od,.func fd,sl⟩) (hn:(name==("_headers":Str))=false) (Vt:lX (KB w.params) (.ref f)=aa (.type "function"))
  (hc: ∀a,HZ prog w c.A c.X (λh=>In c σ Λ h/\H h a) (.ref f) [.raw (.ref a)] [] q)
  (VX:autoParam (bJ (.Call (.Attribute o name apos) [] [] pos) c.env=(do
   let ov <-bJ o c.env
   iu apos.atName
   let (f,first) <-gV [ov] (ia ov name pl)
   gI pos f first (fa pos (aE [] c.env)) (cM pos (bR [] c.env)))) XZ):
  Ev prog w (fs c σ Λ) (.Call (.Attribute o name apos) [] [] pos) q:=.mk λs i=>by
 refine ju (ab (ho.run s i) (λv TZ uu=>oV uu λT1 a ea Ua=> ?_) λz z e=>e) VX
 subst ea
 have T8:=i.mono (mz T1)
 refine rR (hH _ _ Ua) λd D t=> ?_
 refine tE (vM t) λWZ I e1 e2=> ?_
 refine lJ (G.inBase _ T8).frag I (BV _) (DZ _) hf Vt (by show (gp name WZ).map _=_;rw [e2 _ hn];rfl) ?_
 refine nH (v4 ⟨rB ((G.inBase _ T8).frag _ _ Wb) rfl,?_⟩)
 exact ab (hc a TZ [.ref a] [] ⟨T8,Ua⟩ T8.liveAll (mJ.cons o7 mJ.nil) mJ.nil) (λz z uu=>eA uu λUx V9=>⟨mG T1 Ux,V9⟩) λz z e=>e
def uN (w:av) (n:Nat) (f:aF) (H:List aF->aW->aF->Prop) (ps:List PV) (ks:List (Str×PV)) (q:PV):Prop:=
 ∀(A:aX) (X:List aF) (I:aW->Prop) (a:aF),pn n A->(∀h,I h->oi w.params h)->sM w.params X->(∀h,I h->H X h a)->HZ ms w A X I (.ref f) (.raw (.ref a)::ps) ks q
theorem th (ns:List Str) (dvs:List ay) (T:qW w.params f fd body) (hds: ∀X h,mJ X h ds dvs)
  (Uk: ∀(s:aq) (x:ay) (vs us:List ay),oi w.params s.heap->vs.length=ps.length->us.length=ks.length->l0 s fd ⟨x::vs,(ks.map (·.1)).zip us⟩ (ns.zip (x::vs++us++dvs)))
  (h: ∀A X g L a,n6 X g->H X g a->Gd w n (mU fd f A X [] g L)->mS ms w (bf fd L f) (A.deeper (bf fd L f)) (In (mU fd f A X [] g L) (pZ ns (.raw (.ref a)::ps++ks.map (·.2)++ds)) []) body (uy g X p)) (F:autoParam (JD fd ns=ai) XQ):uN w (n+1) f H ps ks p:=by
 have F:=vV F
 intro A X I a hr hI hO hH
 refine Ff (qs:=.raw (.ref a)::ps++ks.map (·.2)++ds) ns (λh i=>(hI h i).defAt T) hr.lim (λs vs us i r r'=> ?_) F λg L i lx=> ?_
 ·have hl:=r.len
  cases vs with
  |nil=>simp at hl
  |cons x vs=>exact Uk s x vs us (hI _ i) (by simpa using hl) (by rw [r'.len,ah]) _ _ _ _ ⟨mN _,_,rfl,(r.append r').append (hds _ _)⟩
 ·exact h A X g L a lx (hH g i) ⟨hI g i,hO,hr.deeper _,F.kind,F.gl,F.bl⟩
end
end
section
open PySem.Calls PyProof.Rows PySem.Builtin.Str
section
variable {prog:aH} {w:av} {A:aX} {X:List aF} {I:aW->Prop}
theorem IF:tS prog w A X .none false:=λs v r=>by
 subst r
 exact truthy_none ⟨mN _,rfl⟩
theorem CT {a b:ay} (h:plainIs a b=ai):n0 prog w A X (bP .Is) (.raw a) (.raw b) (.bool (a==b)):=λs x y z r q=>by
 subst r;subst q
 exact wpAny_is_plain h ⟨mN _,uC⟩
theorem EG {a b:ay} (h:plainIs a b=ai):n0 prog w A X (bP .IsNot) (.raw a) (.raw b) (.bool (!(a==b))):=λs x y z r q=>by
 subst r;subst q
 exact wpAny_isNot_plain h ⟨mN _,uC⟩
theorem vh (h: ∀h v,mO X h p v->plainIs v .none=ai/\v≠ .none):n0 prog w A X (bP .IsNot) p .none (.bool ai):=λs x y z r q=>by
 subst q
 obtain ⟨h1,h2⟩:=h _ _ r
 exact wpAny_isNot_other h1 h2 ⟨mN _,uC⟩
theorem yM:pR prog w A X I (.type "type") [.str x] (.raw (.type "str")):=λs vs z z r=>by
 refine mQ (qI r) λv T0 r1=> ?_;obtain rfl:=T0;obtain ⟨t,rfl⟩:=nq r1
 exact call_type_of (dR _ _ _) (by decide) ⟨mN _,o7⟩
theorem wy {code:Array Nat} (hI: ∀h,I h->ro h a code/\ ∃o,h.get? a=aa o/\o.cls= .type "re.Pattern") (hT:T.length<=1000) (h:yd (bk code T.toArray 0 0 T.toArray.size false)):
  pR prog w A X I (.builtin "re.Pattern.search") [.raw (.ref a),.str (S T)] .none:=λs vs i lx r=>by
 refine ng (sP r) λv u T0 r1 r2=> ?_;obtain rfl:=T0
 subst r1
 obtain ⟨t,rfl⟩:=nq r2
 exact Gr (hI _ i).1 (by simp;exact (mu (.i (.l xA xQ) (.l xA (.c 100000))) [_]) hT) (hI _ i).2 h ⟨mN _,BZ⟩
theorem pL (hz:ps.length+qs.length<=bn):n0 prog w A X (ca .Add) (.list ps) (.list qs) (.list (ps++qs)):=λs x y lx r q=>by
 refine nh (pC r) λl vs T0 z hl hr=> ?_;obtain rfl:=T0
 refine nh (pC q) λb ws T0 z hb hq=> ?_;obtain rfl:=T0
 have hsz:vs.length+ws.length<=bn:=by rw [hr.len,hq.len];exact hz
 obtain ⟨⟨cls,dd,data,sl⟩,ho,hc,n,hd⟩:=id hl
 obtain ⟨⟨cls2,dd2,data2,sl2⟩,ho2,hc2,n2,hd2⟩:=id hb
 simp only at hc hd hc2 hd2
 subst hc hd hc2 hd2
 have e:vs.toArray++ws.toArray=(vs++ws).toArray:=by simp
 refine concat_meets ⟨_,ho,rfl⟩ ⟨_,ho2,rfl⟩ noFill_list_add seq_list_add PySem.F.slot_list_add PySem.F.entry_list_add (PySem.F.args_list_add_2 _ _) (list_addW l b vs.toArray ws.toArray n n2 dd dd2 sl sl2 (by simpa using hsz)) ⟨ho,ho2,?_⟩
 rw [e]
 exact uB lx (hr.append hq)
theorem CQ {α:Type} (xs:Array α): ∀(n:Nat) (Us:Array α),(List.foldl (λx1 x2=>x1++x2) Us (aG n xs)).toList=Us.toList++(aG n xs.toList).flatten
 |0,Us=>by simp
 |n+1,Us=>by
  rw [cq,eX,CQ xs n,cq,cu]
  simp
theorem CW (r:mJ X h ps vs): ∀n,mJ X h (aG n ps).flatten (aG n vs).flatten
 |0=>mJ.nil
 |n+1=>by rw [cq,cq,cu,cu];exact r.append (CW r n)
end
section
variable {prog:aH} {w:av} {φ:Fs}
theorem uQ (hs:tH prog w φ lp es ps) (he:Ev prog w φ e (.int k)) (hz:ps.length<=1000) (hn:ps≠[]) (hk: -(2^63:Int)<=k) (Xy:k<=10000):
  Ev prog w φ (.BinOp (.List es lp) .Mult e pos) (.list (aG k.toNat ps).flatten):=.mk λs i=>by
 have Vv:=aw
 refine j8 (jz (ab (hs.run s i) (λvs TZ uu=>eA uu λT1 T4=>⟨by rw [T4.len];exact (mu (.i (.l xA xQ) (.i (.e xB xL) (.l xA xB))) [_,_]) hz Vv,?_⟩) λz z e=>e))
 have kp:=mY TZ {cls:=.type "list",data:=.seq vs.toArray} TZ.toks
 have T8:=φ.mono' i (mG T1 kp)
 refine ab (he.run _ T8) (λb T2 uu=>eA uu λT3 Ug=> ?_) λz z e=>e
 refine eE (ty Ug) λu T0=> ?_;obtain rfl:=T0
 have ho:T2.heap.get? TZ.heap.objs.size=aa {cls:=.type "list",dict:=az,data:=.seq vs.toArray 0,slots:= #[]}:=mz T3 _ _ (au _ rfl)
 have VK:=mG T1 (mG kp T3)
 have r₁':mJ φ.X T2.heap ps vs:=T4.keep (mz (mG kp T3))
 have lx:=φ.live _ (φ.mono' i VK)
 have Vm:vs.toArray.size*k.toNat<=2^24:=by
  rw [bo,T4.len]
  have:ps.length*k.toNat<=1000*10000:=gr hz (by exact (mu (.i (.L xA (.c 10000)) (.l (.t xA) (.c 10000))) [] [_]) Xy)
  exact (mu (.i (.l xA (.m 1000 (.c 10000))) (.l xA xL)) [_]) this
 refine wpAny_binaryOp_repeat_ref (T:="list") (U:="int") (by decide) ⟨_,ho,rfl⟩ (λs'=>typeIs_int s' k u) noFill_list_mul F.fills_int_mul F.slot_int_rmul repeat_list F.slot_int_index.lookup
  (gL F.slot_int_rmul (typeIs_int T2 k u) F.entry_int_rmul (F.args_int_rmul_2 _ _) (int___rmul___int_list k u _ vs.toArray 0)
   ⟨ho,rfl,⟨_,ho,rfl⟩,gL F.slot_list_mul ⟨_,ho,rfl⟩ F.entry_list_mul (F.args_list_mul_2 _ _)
    (AutoListH.list___mul___list_int_3 _ vs.toArray 0 k u (by simp [Builtin.List.listFitsIndex];exact (mu (.i (.L (.g xS) xA) (.i (.L xA (.c 10000)) (.a (.L (.g xS) xA) (.B xA xS)))) [] [_]) hk Xy) (by exact (mu (.i (.l xA xL) (.n (.b (.d (.s xS xI) 8) xA))) [_]) Vm) (by simp [Builtin.List.listTooLong,bn];omega))
    ⟨ho,?_⟩⟩)
 have Uj:vs.toArray.isEmpty=false:=by
  cases vs with
  |nil=>have:=T4.len;cases ps with|nil=>exact absurd rfl hn|cons=>simp at this
  |cons=>rfl
 rw [Uj]
 have e:(List.foldl (λx1 x2=>x1++x2) #[] (aG (if false=ai then 0 else k.toNat) vs.toArray))=(aG k.toNat vs).flatten.toArray:=by
  apply dO.mp
  rw [CQ]
  simp
 rw [e]
 have:=uB (s:=T2) (tk:=T2.toks) lx (CW r₁' k.toNat)
 exact ⟨mG VK this.1,this.2⟩
end
section
variable {prog:aH} {w:av} {A:aX} {E:ay->aq->Prop} {s:aq} {env:Env}
theorem vm {T id:String} {Q:ay->aq->Prop}
  (hl:fu (.type T) "__getitem__"=bG (aa (.builtin id)))
  (h:aC (aI prog w) A (bJ value env) (λo TZ=>aC (aI prog w) A (bJ (.Slice lower upper az p) env) (λi T2=>T2.TypeIs o T/\aC (aI prog w) A (getItem o i) Q E T2) E TZ) E s):
  aC (aI prog w) A (bJ (.Subscript value (.Slice lower upper az p) pos) env) Q E s:=by
 rw [eval_Subscript]
 refine ae (ab h (λo TZ Ua=>ae (bL (ab Ua (λi T2 Ut=>ae (eC ?_)) λz z x=>x)))
  λz z x=>x)
 have qq:aC (aI prog w) A (operate [i,o] (getItem o i)) (λr T9=>aC (aI prog w) A (i7 value o r >>= λz=>bG r) Q E T9) E T2:=
  wpAny_operating (ab Ut.2 (λr T9 Un=>ae (wpAny_letTemporaryGo (aj Un))) λz z x=>x)
 first
  |(refine ae ?_
    rw [getitemInPython_of_ne Ut.1.not_modules]
    refine ae (fh Ut.1 hl ?_)
    first
     |exact aj (ae qq)
     |exact ae (aj (ae qq))
     |exact ae qq)
  |(refine ae (fh Ut.1 hl ?_)
    first
     |exact ae (aj (ae qq))
     |exact ae qq)
theorem DE {Q:ay->aq->Prop}
  (h:aC (aI prog w) A (bJ value env) (λo TZ=>aC (aI prog w) A (evalPart lower env) (λvl T2=>aC (aI prog w) A (evalPart upper env) (λvu T9=>
   ∃x t l u,o= .str x t/\vl=cK l/\vu=cK u/\
    (sliceMade x t l u az).post Q {T9 with heap:=T9.heap.push {cls:=.type "slice",data:=.fields #[vl,vu,.none]}}) E T2) E TZ) E s):
  aC (aI prog w) A (bJ (.Subscript value (.Slice lower upper az p) pos) env) Q E s:=by
 refine vm (T:="str") F.slot_str_getitem.lookup (ab h (λo TZ Ua=>j7 (ab Ua (λvl T2 Ut=>ab Ut (λvu T9 Un=> ?_) λz z e=>e) λz z e=>e)) λz z e=>e)
 refine E1 Un ?_;clear Un;intro x t l u T0 q2z q3z hQ;obtain rfl:=T0;obtain rfl:=q2z;obtain rfl:=q3z
 rw [lr]
 exact aj ⟨dR _ x t,wpAny_getItem_str_slice (l:=l) (u:=u) (st:=az) ⟨_,au _ rfl,rfl,rfl⟩ rfl hQ⟩
end
section
variable {prog:aH} {w:av} {φ:Fs} {A:aX} {X:List aF} {I:aW->Prop}
theorem tR {lo hi:Option Int} (hv:Ev prog w φ value (.str (S l))) (hl:zf prog w φ lower lo) (hu:zf prog w φ upper hi)
  (hsz:l.length<=bn):Ev prog w φ (.Subscript value (.Slice lower upper az p) pos) (.str (S (qX l lo hi))):=.mk λs i=>by
 refine DE (ab (hv.run s i) (λv TZ uu=>eA uu λT1 T4=>ab (hl.run TZ (φ.mono' i T1)) (λvl T2 uu=>oV uu λT3 lt e2 V1=>ab (hu.run T2 (φ.mono' i (mG T1 T3))) (λvu T9 uu=>oV uu λUb ut e3 W4=> ?_) λz z e=>e) λz z e=>e) λz z e=>e)
 refine eE (nq T4) λt T0=> ?_;obtain rfl:=T0
 have kk:=mG T1 (mG T3 Ub)
 refine ⟨S l,t,lt,ut,rfl,e2,e3,?_⟩
 refine post_val_or_str ⟨cg (Txt.slice_le (S l) _ _) (by rw [mV];exact hsz),λt' k=> ?_⟩
 have e:Txt.slice (S l) (lt.map (·.1)) (ut.map (·.1))=S (qX l lo hi):=by rw [V1,W4,C1]
 refine ⟨mG kk (mY _ _ k),?_⟩
 show mO _ _ (.str (S (qX l lo hi))) (.str (Txt.slice (S l) (lt.map (·.1)) (ut.map (·.1))) t')
 rw [e];exact og
theorem tn {lo hi:Option Int} (hv:Ev prog w φ value (.list ps)) (hl:zf prog w φ lower lo) (hu:zf prog w φ upper hi)
  (hsz:ps.length<=bn):Ev prog w φ (.Subscript value (.Slice lower upper az p) pos) (.list (qX ps lo hi)):=.mk λs i=>by
 refine vm (T:="list") fP.lookup (ab (hv.run s i) (λv TZ uu=>eA uu λT1 T4=>j7 (ab (hl.run TZ (φ.mono' i T1)) (λvl T2 uu=>oV uu λT3 lt e2 V1=>ab (hu.run T2 (φ.mono' i (mG T1 T3))) (λvu T9 uu=>oV uu λUb ut e3 W4=> ?_) λz z e=>e) λz z e=>e)) λz z e=>e)
 subst e2 e3
 rw [lr]
 refine aj ?_
 refine nh (pC T4) λa vs T0 ha Wd hr=> ?_;obtain rfl:=T0
 have kk:=mG T1 (mG T3 Ub)
 have Ux:=mG (mG T3 Ub) (mY T9 {cls:=.type "slice",data:=.fields #[cK lt,cK ut,.none]} T9.toks)
 have hl4:=Wd.at λo e=>mz Ux _ _ e
 refine ⟨hl4.typeIs,?_⟩
 refine g5 hl4 (gQ _ _ _ _) (xe V1) (xe W4) .none (by decide) ?_ (by rw [bo,hr.len];exact hsz)
 have lx:=φ.live _ (φ.mono' i (mG kk (mY T9 {cls:=.type "slice",data:=.fields #[cK lt,cK ut,.none]} T9.toks)))
 rw [yy]
 have:=uB (s:={T9 with heap:=T9.heap.push {cls:=.type "slice",data:=.fields #[cK lt,cK ut,.none]}}) (tk:=T9.toks) lx ((mJ.keep (mz Ux) hr).cut lo hi)
 exact ⟨mG T1 (mG Ux this.1),this.2⟩
end
section
variable {prog:aH} {w:av} {c:Sc} {σ:mW} {Λ:List (aF×List PV)}
theorem In.groundX (i:In c σ Λ h): ∀b,b∈c.X->(∃o,c.g.get? b=aa o)->b∈c.X0:=λb hb uu=>eE uu λo e=>by
 rcases ar.mp hb with q|q
 ·have:=i.fresh b q;rw [this] at e;exact nB e
 ·exact q
theorem tY (he:Ev prog w (fs c σ Λ) iter (.raw (.ref a))) (hl:c.g.IsList a vs.toArray) (hr:mJ c.X0 c.g ps vs) (hh:c.A.handled=az)
  (ht:(∃x px,T6= .Name x px)\/((∃Vg k pos,T6= .Tuple Vg k pos)/\ ∀p∈ps,∃l,p= .tup l)) (ho: ∀b∈own,b∈c.own):uv prog w c σ Λ own T6 iter ps:=.mk λs i=>by
 refine ab (he.run s i) (λx TZ uu=>eA uu λT1 T4=> ?_) λz z e=>e
 subst T4
 have T8:=i.mono (mz T1)
 have hn:a∉own:=λq=>by
  obtain ⟨o,e,_⟩:=hl
  have:=i.fresh a (ho a q)
  rw [this] at e;exact nB e
 have hl:TZ.heap.IsList a vs.toArray:=hl.at λo e=>T8.keep _ _ e
 have hr:mJ c.X TZ.heap ps vs:=(hr.sub (i.groundX)).keep T8.keep
 have hoX: ∀b∈own,b∈c.X:=λb hb=>ax _ (ho b hb)
 refine mQ (id hl) λo e1 e2=> ?_
 have ne:a≠TZ.heap.objs.size:=di (aR e1)
 have T3:=mY TZ {cls:=.type "list_iterator",data:=.fields #[.ref a,.int 0 0]} TZ.toks
 have ga:(hideAll TZ.heap own).get? a=aa o:=bS _ e1 hn
 refine wpAny_pyIter_list hl ⟨TZ,_,[TZ.heap.objs.size],_,rfl,t8 (Walks.list hh TZ.heap.objs.size a ne vs.toArray) (λz h=>h) (λb hb=> ?_) (λb hb=> ?_) (λi h st b hb=> ?_) ?_ (λj p v h Y e1 e2 k hY=> ?_) (λj p v s Q E hj hv st q=> ?_),⟨⟨⟨_,au _ rfl,rfl,rfl⟩,hl.at λo e=>mz T3 _ _ e⟩,?_⟩,T1,T3,λb hb=> ?_⟩
 ·simp at hb
  rcases hb with rfl|rfl
  ·exact .inl (.head _)
  ·exact .inr ⟨o,ga⟩
 ·rw [ak.mp hb];exact pg (nE _)
 ·rw [ak.mp hb];exact qM st.1
 ·rw [bo,hr.len]
 ·exact mO.keep k ((hr.get' e1 e2 |>.keepX (so hoX)).sub hY)
 ·rcases ht with ⟨x,px,rfl⟩|⟨⟨Vg,ek,pos,rfl⟩,hp⟩
  ·exact bD (rfl:cS (.Name x px) _ v=bG ()) q
  ·refine eE (hp p (br hj)) λl T0=> ?_;obtain rfl:=T0
   have:=hr.get' hj hv
   refine oU this ?_;clear this;intro T _ T0 _;obtain rfl:=T0
   exact jY st.1 q
 ·exact λb o e=>mz T3 _ _ (bU _ e)
 ·rw [ak.mp hb];exact nE _
theorem L0 (hv:Ev prog w (fs c σ Λ) value (.raw (.ref a))) (hl:c.g.IsList a vs.toArray) (hr:mJ c.X0 c.g ps vs)
  (hsz:ps.length<=bn):Ev prog w (fs c σ Λ) (.Subscript value (.Slice az az az p) pos) (.list ps):=.mk λs i=>by
 refine vm (T:="list") fP.lookup (ab (hv.run s i) (λv TZ uu=>eA uu λT1 T4=>j7 ?_) λz z e=>e)
 subst T4
 have T8:=i.mono (mz T1)
 have Wd:=hl.at λo e=>T8.keep _ _ e
 have WK:mJ c.X TZ.heap ps vs:=(hr.sub (i.groundX)).keep T8.keep
 rw [lr]
 refine aj (aj (aj ?_))
 have Ux:=mY TZ {cls:=.type "slice",data:=.fields #[.none,.none,.none]} TZ.toks
 have hl4:=Wd.at λo e=>mz Ux _ _ e
 refine ⟨hl4.typeIs,?_⟩
 refine g5 hl4 (gQ _ _ _ _) .none .none .none (by decide) ?_ (by rw [bo,WK.len];exact hsz)
 have lx:=(T8.mono (mz Ux)).liveAll
 rw [yy,QQ]
 have:=uB (s:={TZ with heap:=TZ.heap.push {cls:=.type "slice",data:=.fields #[.none,.none,.none]}}) (tk:=TZ.toks) lx (WK.keep (mz Ux))
 exact ⟨mG T1 (mG Ux this.1),this.2⟩
end
end
section
open PySem.Calls PyProof.Rows PySem.Builtin.Str
abbrev HP:=List (List Nat×List Nat)
def hp (l:HP):List PV:=l.map λq=>.tup [.str (S q.1),.str (S q.2)]
def rZ (l:HP) (X:List aF) (h:aW) (a:aF):Prop:=un X h a (hp l)
theorem rZ.at' (t:rZ l X h a): ∃d D,oI h a d D:=let ⟨d,D,_,x,_⟩:=t;⟨d,D,x⟩
section
variable {w:av} {c:Sc} {σ:mW} {Λ:List (aF×List PV)}
theorem BR (he:Ev ms w (fs c σ Λ) o (.raw (.ref a))) (hH:rZ l c.X0 c.g a):tG ms w (fs c σ Λ) o (rZ l c.X):=.mk λs i=>
 ab (he.run s i) (λv TZ uu=>eA uu λT1 T4=>by
  subst T4
  have T8:=i.mono (mz T1)
  exact ⟨T1,a,rfl,un.keep (un.sub hH T8.groundX) T8.keep⟩) λz z e=>e
theorem tw (he:Ev ms w (fs c σ Λ) o (.hdr (hp l))):tG ms w (fs c σ Λ) o (rZ l c.X):=.mk λs i=>
 ab (he.run s i) (λv TZ uu=>eA uu λT1 T4=>by
  refine zV T4 ?_;clear T4;intro a d L vs T0 _ _ _ t tl r;obtain rfl:=T0
  exact ⟨T1,a,rfl,d,L,vs,t,tl,r⟩) λz z e=>e
theorem sI (he:Ev ms w (fs c σ Λ) o (.inst D)) (hD:(D,hp l)∈Λ):tG ms w (fs c σ Λ) o (rZ l c.X):=.mk λs i=>
 ab (he.run s i) (λv TZ uu=>eA uu λT1 T4=>by
  refine nh T4 ?_;clear T4;intro a d T0 _ _ t;obtain rfl:=T0
  obtain ⟨_,vs,⟨n,pl⟩,rs⟩:=(i.mono (mz T1)).lists _ hD
  exact ⟨T1,a,rfl,d,D,vs,t,⟨_,pl,rfl,_,rfl⟩,rs⟩) λz z e=>e
theorem By (G:Gd w n c)
  (ho:tG ms w (fs c σ Λ) o (rZ l c.X)) (hs:uN w n f (rZ l) ps ks q)
  (hf:iU (KB w.params) (.ref 293) name=aa (aa (.ref f))) (Wb:(KB w.params).lookup f=aa ⟨oc,od,.func fd,sl⟩) (hn:(name==("_headers":Str))=false) (Vt:lX (KB w.params) (.ref f)=aa (.type "function"))
  (ha:tH ms w (fs c σ Λ) pos (e::es) ps) (hk:Ex ms w (fs c σ Λ) pos Vc ks)
  (VX:autoParam (bJ (.Call (.Attribute o name apos) (e::es) Vc pos) c.env=(do
   let ov <-bJ o c.env
   iu apos.atName
   let (f,first) <-gV [ov] (ia ov name pl)
   gI pos f first (fa pos (aE (e::es) c.env)) (cM pos (bR Vc c.env)))) XZ)
  (he:autoParam (aE (e::es) c.env=(false,bJ e c.env)::aE es c.env) XZ):
  Ev ms w (fs c σ Λ) (.Call (.Attribute o name apos) (e::es) Vc pos) q:=.mk λs i=>
 (Ny G ho (λz z t=>rZ.at' t) (λz z z t k=>un.keep t k) hf Wb hn Vt ha hk (λa=>hs c.A c.X _ a G.room (λh i=>G.inBase h i.1) (G.offX i) (λh i=>i.2)) VX he).run s i
theorem xb (G:Gd w n c)
  (ho:tG ms w (fs c σ Λ) o (rZ l c.X)) (hs:uN w n f (rZ l) [] [] q)
  (hf:iU (KB w.params) (.ref 293) name=aa (aa (.ref f))) (Wb:(KB w.params).lookup f=aa ⟨oc,od,.func fd,sl⟩) (hn:(name==("_headers":Str))=false) (Vt:lX (KB w.params) (.ref f)=aa (.type "function"))
  (VX:autoParam (bJ (.Call (.Attribute o name apos) [] [] pos) c.env=(do
   let ov <-bJ o c.env
   iu apos.atName
   let (f,first) <-gV [ov] (ia ov name pl)
   gI pos f first (fa pos (aE [] c.env)) (cM pos (bR [] c.env)))) XZ):
  Ev ms w (fs c σ Λ) (.Call (.Attribute o name apos) [] [] pos) q:=.mk λs i=>
 (Ps G ho (λz z t=>rZ.at' t) (λz z z t k=>un.keep t k) hf Wb hn Vt (λa=>hs c.A c.X _ a G.room (λh i=>G.inBase h i.1) (G.offX i) (λh i=>i.2)) VX).run s i
theorem BW (h:σ.lookup x=aa p) (hk:c.env.kindOf x=az):mS prog w c.env c.A (In c σ Λ) b J:=.mk λs i=>by
 rcases i.kinds x p h with q|q|q
 ·rw [hk] at q;exact nB q
 ·rw [hk] at q;exact nB q
 ·rw [hk] at q;exact nB q.1
theorem Mz {J:hG->aW->Prop} (he:Ev prog w (fs c σ Λ) e p) (hg:mT g c.g) (hY: ∀a∈Y,a∈c.X):
  mS prog w c.env c.A (In c σ Λ) (.Return (aa e) pos::b) (λfl h=>((fl= .next\/fl= .cont)/\J fl h)\/((∃v,fl= .ret v)/\uy g Y p fl h)):=s9 (Hl he hg hY) (λz h=>h) λz z h=>.inr h
end
theorem tN: ∀(names:List (Str×kF)) (n:Nat) (z:Str×aF),z∈bu n names []->n<=z.2
 |[],n,z,h=>by cases h
 |(x,k)::r,n,z,h=>by
  unfold bu at h
  split at h
  ·rw [pX] at h
   rcases ar.mp h with q|q
   ·exact Nat.le_of_succ_le (tN r (n+1) z q)
   ·exact (ak.mp q)▸(aN _)
  ·exact tN r n z h
theorem tO: ∀(names:List (Str×kF)) (n:Nat) (x y:Str) (a:aF),(x,a)∈bu n names []->(y,a)∈bu n names []->x=y
 |[],n,x,y,a,h,_=>by cases h
 |(v,k)::r,n,x,y,a,h,h'=>by
  unfold bu at h h'
  split at h
  ·rename_i hk
   rw [if_pos hk] at h'
   rw [pX] at h h'
   rcases ar.mp h with q|q
   ·rcases ar.mp h' with q'|q'
    ·exact tO r (n+1) x y a q q'
    ·have e:=ak.mp q'
     have:=tN r (n+1) _ q
     cases e
     exact absurd this (lA _)
   ·have e:=ak.mp q
    cases e
    rcases ar.mp h' with q'|q'
    ·have:=tN r (n+1) _ q'
     exact absurd this (lA _)
    ·cases ak.mp q';rfl
  ·rename_i hk
   rw [if_neg hk] at h'
   exact tO r n x y a h h'
theorem ve (hc:fd.closure=[]) (hk:fd.scope.names.lookup x=aa .cell) (hb:(bu (L+1) fd.scope.names []).lookup x=aa b):n7 (mU fd a A X M g L) x b where
 kind:=hk
 at':=hb
 own:=.tail _ (ax _ (pB.mpr ⟨x,hb⟩))
 only:=λy e=>by
  have e:(bu (L+1) fd.scope.names []).lookup y=aa b:=e
  exact tO _ _ _ _ _ (mem_of_lookup e) (mem_of_lookup hb)
theorem n7.of (h:n7 c x a) (he:c'.env=c.env) (ho: ∀b∈c.own,b∈c'.own):n7 c' x a:=⟨he▸h.kind,he▸h.at',ho _ h.own,λy e=>h.only y (he▸e)⟩
end
section
open PySem.Calls PyProof.Rows PySem.Builtin.Str PySem.Builtin PySem.Builtin.ObjectAttr
theorem Le (P:aQ):plainOver (KB P) 293=ai:=by kernel_rfl
theorem KU (P:aQ):takerIn (KB P) 293 "_headers"=aa az:=by kernel_rfl
theorem RZ (P:aQ):iU (KB P) (.ref 293) "__setattr__"=aa (aa (.builtin "object.__setattr__")):=by kernel_rfl
noncomputable def t4 (h:Int) (t:Tok) (v:ay):Obj:={cls:=.type "dict",data:=.dict #[⟨h,.str "_headers" t,v⟩] 1}
theorem Hz (h:Int) (t:Tok) (v:ay):Obj.putName "_headers" h (.str "_headers" t) v cA=t4 h t v:=by
 rw [Obj.putName_eq]
 unfold Obj.putNameByArray t4 cA
 dsimp only
 rw [Array.findIdx?_empty]
 rfl
theorem MC (h:Int) (t:Tok) (v:ay):gp "_headers" (t4 h t v)=aa (aa v):=by
 unfold gp t4
 dsimp only
 rw [List.find?_cons_of_pos (p:=λx:jd=>x.key.isStr (aS "_headers")) (l:=[]) (a:=⟨h,.str "_headers" t,v⟩) (show (aS "_headers"==aS "_headers")=ai by decide+kernel)]
theorem Kz (h:Int) (t:Tok) (v:ay) (n:Str) (hn:(n==("_headers":Str))=false):gp n (t4 h t v)=aa az:=by
 have e:(ay.str "_headers" t).isStr n=false:=by
  show ((aS "_headers")==n)=false
  rw [beq_eq_false_iff_ne] at hn ⊢
  exact λq=>hn q.symm
 unfold gp t4
 dsimp only
 rw [List.find?_cons_of_neg (by rw [e];exact dy),List.find?_nil]
 rfl
section
variable {prog:aH} {w:av} {A:aX} {E:ay->aq->Prop} {s:aq}
theorem F9 {Q:Unit->aq->Prop} (X:(KB w.params).In s.heap) (hx:s.heap.get? x=aa (gd 293 dx)) (hd:s.heap.get? dx=aa cA)
  (h: ∀h' tk t,cL dx s.heap h'->h'.get? dx=aa (t4 (g7 w.params "_headers") t v)->Q () {s with heap:=h',toks:=tk}):aC (aI prog w) A (setAttr (.ref x) "_headers" v) Q E s:=by
 obtain ⟨hp,g,d,tk0,os⟩:=s
 have I: ∀tk,InstAt (⟨hp,g,d,tk,os⟩:aq).heap x (gd 293 dx) 293 (aa cA):=λz=>⟨hx,rfl,rfl,hd⟩
 refine set_plain X (I tk0) (RZ _) ?_
 refine osa_open (s:=⟨hp,g,d,tk0+1,os⟩) X (I (tk0+1)) (Le _) (KU _) λb=> ?_
 refine mQ (any_some (Hd w.params)) λcd hc hd'=> ?_
 refine ae (aj (ae (ae (kI hx (ae ((looks_clsIn X hc).at ?_))))))
 rw [hd']
 refine aj (a:=aa dx) (ae (aj (ae ?_)))
 refine ae (ae (wpAny_askSetting (aj (ae (wpAny_mkText (ae (kI hd ?_)))))))
 dsimp only
 rw [aRefKeyMayBeTheName_at]
 refine gZ (by simp) ?_
 refine wpAny_updatePart hd ?_
 have W1:(hp.update dx (Obj.putName "_headers" (g7 w.params "_headers") (.str "_headers" (tk0+1)) v)).get? dx=aa (t4 (g7 w.params "_headers") (tk0+1) v):=by
  rw [cr _ hd (by rw [Hz];rfl),Hz]
 refine ae (wpAny_lookBehind W1 (pastItsLine_dict (by rw [aw];simp)) ?_)
 exact aj (h _ _ _ (ed ..) W1)
end
end
section
open PySem.Calls PyProof.Rows PySem.Builtin.Str
theorem Cg:n0 prog w A X (bP .IsNot) .none .none (.bool false):=λs x y z r q=>by
 subst r;subst q
 exact wpAny_isNot_self rfl ⟨mN _,uC⟩
section
variable {prog:aH} {w:av} {c:Sc} {σ:mW} {Λ:List (aF×List PV)}
theorem In.restore (i:In c σ Λ h) (hX:dx∈c.X0) (hO:dx∉c.own) (nc: ∀o,h.get? dx=aa o-> ∀v,o.data≠ .cell v) (k:oH [dx] h h') (lv: ∃o,h'.get? dx=aa o):In (c.at (hideAll h' c.own)) σ Λ h':=by
 have i0:In (c.at (hideAll h (dx::c.own))) σ Λ h:=i.reg (λb o e=>bU _ e) λa ha=>dK _ (.tail _ ha)
 have i1:=In.turn (is:=[dx]) i0 (λa ha=>by rw [ak.mp ha];exact ⟨hX,hO,dK _ (.head _),nc⟩) k (λa ha=>by rw [ak.mp ha];exact lv)
 exact In.reg (c:=c.at (hideAll h (dx::c.own))) i1 (λb o e=>bU _ e) λa ha=>dK _ ha
theorem FJ (he:Ev prog w (fs c σ Λ) e p) (hb:mS prog w c.env c.A (In c σ Λ) b J)
  (hi:autoParam (i5 c.env=false) XZ) (hs:autoParam (cJ e az pos.line c.env=bG false) XZ):mS prog w c.env c.A (In c σ Λ) (.Expr e pos::b) J:=
 qQ (I':=In c σ Λ) (λs i=>fM (ab (he.run s i) (λv TZ uu=>eA uu λT1 z=>⟨nA.of T1,i.mono (mz T1)⟩) λz z e=>e) hi hs) hb
theorem Go (G:Gd w n c) (ho:Ev prog w (fs c σ Λ) o (.raw (.ref x))) (he:Ev prog w (fs c σ Λ) e (.raw (.ref D)))
  (hx:c.g.get? x=aa (gd 293 dx)) (hd:c.g.get? dx=aa cA) (hX:dx∈c.X0) (VW:dx≠iY) (Wz:dx≠dg)
  (hb: ∀g',oH [dx] c.g g'->oI g' x dx D->oi w.params g'->mS prog w (c.at g').env (c.at g').A (In (c.at g') σ Λ) b J)
  (hs:autoParam (cJ e (aa (.Attribute o "_headers" ap)) pos.line c.env=bG false) XZ):mS prog w c.env c.A (In c σ Λ) (.Assign [.Attribute o "_headers" ap] e pos::b) J:=.mk λs i=>by
 rw [ch]
 refine ae (plainObj_wpAny_Assign_Attribute (ab (he.run s i) (λv TZ uu=>eA uu λT1 T4=> ?_) λz z e=>e) hs)
 subst T4
 have T8:=i.mono (mz T1)
 refine ab (ho.run TZ T8) (λv T2 uu=>eA uu λT3 Ug=> ?_) λz z e=>e
 subst Ug
 have T7:=T8.mono (mz T3)
 have hx₂:=T7.keep _ _ hx
 have WS:=T7.keep _ _ hd
 have hO:dx∉c.own:=λq=>by have:=i.fresh dx q;rw [hd] at this;exact tC this
 have Uj:x≠dx:=λq=>by rw [q,hd] at hx;cases hx
 refine F9 (G.inBase _ T7).frag hx₂ WS λh' tk t XH Wh=> ?_
 have kx:oH [dx] T2.heap h':=λb o nb e=>by rw [XH.2 b (λq=>nb (by rw [q];exact .head _))];exact e
 have Uh:=T7.restore hX hO (λo e v q=>by rw [WS] at e;obtain rfl:=am e;cases q) kx ⟨_,Wh⟩
 have kg:oH [dx] c.g (hideAll h' c.own):=λb o nb e=>bS _ (kx b o nb (T7.keep b o e)) λq=>by have:=i.fresh b q;rw [e] at this;exact tC this
 have xO:x∉c.own:=λq=>by have:=i.fresh x q;rw [hx] at this;exact tC this
 have t:oI (hideAll h' c.own) x dx D:=⟨kg x _ (λq=>Uj (ak.mp q)) hx,_,bS _ Wh hO,MC _ _ _,λn hn=>Kz _ _ _ n hn⟩
 have off: ∀b∈[dx],(KB w.params).lookup b=az:=λb hb=>by rw [ak.mp hb];exact G.off dx hX
 have base:oi w.params (hideAll h' c.own):=by
  have B:=G.base
  refine ⟨λb o e=>kg b o (λq=>by have:=off b q;rw [e] at this;exact tC this) (B.frag b o e),?_,?_⟩
  ·exact B.lim.at λo e=>kg _ _ (λq=>VW (ak.mp q).symm) e
  ·refine mQ B.blt λmb n r=> ?_
   exact ⟨mb,n.at' λo e=>kg _ _ (λq=>Wz (ak.mp q).symm) e,r⟩
 refine ab ((hb _ kg t base).run {T2 with heap:=h',toks:=tk} Uh) (λfl T9 uu=>eA uu λUJ j=>⟨((nA.of (mG T1 T3)).trans (nA.trans ⟨_,_,rfl⟩ UJ)),j⟩) λz z e=>e
theorem DH (ht:Tr prog w (fs c σ Λ) t false)
  (hb: ∀D g',mT c.g g'->c.g.get? D=az->g'.get? D=aa {cls:=.type "list",data:=.seq #[]}->D∉c.X->mS prog w (c.at g').env (c.at g').A (In (c.at g') ((x,.raw (.ref D))::σ) Λ) b J)
  (hx:autoParam (sB c x) XJ) (hk:autoParam (c.env.scope.kind= .function) XZ) (hs:autoParam (cJ (.IfExp t y (.List [] lp) ip) (aa (.Name x px)) pos.line c.env=bG false) XZ):
  mS prog w c.env c.A (In c σ Λ) (.Assign [.Name x px] (.IfExp t y (.List [] lp) ip) pos::b) J:=.mk λs i=>by
 rw [ch]
 refine ae (cN (wpAny_IfExp (ab (ht.run s i) (λd TZ uu=>eA uu λT1 e=> ?_) λz z e=>e)) hs)
 subst e
 refine jz (cF ⟨by decide,?_⟩)
 have T8:=i.mono (mz T1)
 have T3:=mY TZ {cls:=.type "list",data:=.seq #[]} TZ.toks
 have T7:=T8.mono (mz T3)
 have hn:TZ.heap.objs.size∉c.X:=oJ T8.liveAll
 refine ab (rt (s:={TZ with heap:=TZ.heap.push {cls:=.type "list",data:=.seq #[]}}) (p:=.raw (.ref TZ.heap.objs.size)) T7 hx o7 hk) (λz T9 uu=>rN uu λUJ Uh kx=> ?_) λz z e=>e
 have hm:(hideAll T9.heap c.own).get? TZ.heap.objs.size=aa {cls:=.type "list",data:=.seq #[]}:=
  bS _ (kx _ _ (λq=>hn (ax _ q)) (au _ rfl)) λq=>hn (ax _ q)
 have gn:c.g.get? TZ.heap.objs.size=az:=by
  cases e:c.g.get? TZ.heap.objs.size with
  |none=>rfl
  |some o=>have:=T8.keep _ _ e;rw [nE] at this;exact nB this
 exact ab ((hb _ _ (wM Uh) gn hm hn).run T9 Uh.hide) (λfl Ul uu=>eA uu λVr j=>⟨(nA.of T1).trans ((nA.of T3).trans (UJ.trans Vr)),j⟩) λz z e=>e
theorem pn.in1 (r:pn (n+1) A):pn n A.in1:=by
 obtain ⟨a,b,e⟩:=r
 refine ⟨a,?_,?_⟩
 ·exact (mu (.i (.b (.a xA (.a xB xI)) xC) (.b (.a xA xB) xC)) [_,_,_]) b
 ·exact (mu (.i (.b (.a (.a xA (.m 10 (.a xB xI))) xP) xC) (.b (.a (.a (.a xA xI) (.m 10 xB)) xP) xC)) [_,_,_]) e
theorem pn.make (r:pn (n+1) A) (C:aF) (VZ:List ay):pn n (A.under (.builtin "type.__call__" ⟨.ref C::VZ,[]⟩)):=by
 refine rN r λa b e=> ?_
 refine ⟨a,?_,?_⟩
 ·rw [depth_under_make];exact (mu (.i (.b (.a xA (.a xB xI)) xC) (.b (.a (.a xA xI) xB) xC)) [_,_,_]) b
 ·rw [units_under_make];exact (mu (.i (.b (.a (.a xA (.m 10 (.a xB xI))) xP) xC) (.b (.a (.a (.a xA xI) (.m 10 xB)) xP) xC)) [_,_,_]) e
end
theorem wn {h:aW} (e:h.get? d=aa cA):h.DictAt (strKind prog w) d [] 0:=
 ⟨_,#[],e,⟨rfl,rfl,rfl⟩,rfl,λe he=>by simp at he,.nil,by decide⟩
section
variable {prog:aH} {w:av} {c:Sc} {σ:mW} {Λ:List (aF×List PV)}
theorem Jk (he: ∀s:aq,In c σ Λ s.heap->aC (aI prog w) c.A (bJ iter c.env) (λv s'=>bB s s'/\ ∃vw,v= .ref vw/\s'.heap.IsItemsView vw d) (λz z=>False) s)
  (hd:c.g.get? d=aa cA) (hh:c.A.handled=az) (ho: ∀b∈own,b∈c.own):uv prog w c σ Λ own T6 iter []:=.mk λs i=>by
 refine ab (he s i) (λx TZ uu=>oV uu λT1 vw ex hv=> ?_) λz z e=>e
 subst ex
 have T8:=i.mono (mz T1)
 have hd1:=T8.keep _ _ hd
 have hn:d∉own:=λq=>by have:=i.fresh d (ho d q);rw [hd] at this;exact tC this
 have ga:(hideAll TZ.heap own).get? d=aa cA:=bS _ hd1 hn
 have one: ∀b∈[TZ.heap.objs.size],b=TZ.heap.objs.size:=λb hb=>ak.mp hb
 refine wpAny_pyIter_items (knd:=strKind prog w) (kvs:=[]) hv (wn hd1) ?_
 have T3:=mY TZ {cls:=.type "dict_itemiterator",data:=.fields #[.none,.bool false,.ref d,.int 0 0,.int 0 0,.int 0 0,.none,.none]} TZ.toks
 refine ⟨TZ,TZ.heap.objs.size,[TZ.heap.objs.size],(λi h=>IsItemIter h TZ.heap.objs.size d 0 0 0 .none .none/\mT (hideAll TZ.heap own) h),rfl,⟨λi p s Y hi=>by simp at hi,λs st=> ?_,λi h h' st k ki=>⟨ki _ (.head _) _ st.1,k⟩,λi h st=>st.2,λi s Q E st q=> ?_,λi h st a ha=> ?_⟩,⟨au _ rfl,λb o e=>mz T3 _ _ (bU _ e)⟩,T1,T3,λb hb=> ?_⟩
 ·refine wpAny_pyNext_items_end (knd:=strKind prog w) (kvs:=[]) hh st.1 (wn (st.2 _ _ ga)) rfl λh' hx=>⟨rfl,⟨_,_,rfl⟩,λb o nb e=>hx b o (λq=>nb (by exact q▸(.head _))) e⟩
 ·exact kcp_self st.1 q
 ·exact (one a ha)▸(⟨_,st.1,λv q=>nomatch q⟩)
 ·exact (one b hb)▸(nE _)
theorem Lj (ho:Ev prog w (fs c σ Λ) o (.raw (.ref d))) (hd:c.g.get? d=aa cA) (hs:(d==sysModules)=false)
  (Up:autoParam (db o "items" c.env (bJ o c.env)=bJ o c.env) XZ) (Uu:autoParam ((apos.endLine==pos.line)=ai) XZ):
  ∀s:aq,In c σ Λ s.heap->aC (aI prog w) c.A (bJ (.Call (.Attribute o "items" apos) [] [] pos) c.env) (λv s'=>bB s s'/\ ∃vw,v= .ref vw/\s'.heap.IsItemsView vw d) (λz z=>False) s:=λs i=>
 dN Up rfl Uu PySem.F.plainAttrs_dict PySem.F.slot_dict_items PySem.F.type_dict_items (ab (ho.run s i) (λov TZ uu=>eA uu λT1 T4=>by
  subst T4
  have hd1:=(i.mono (mz T1)).keep _ _ hd
  refine ⟨⟨_,hd1,rfl⟩,λa e=>by cases e;exact ⟨_,hd1,rfl⟩,nH (v4 ⟨rg,?_⟩)⟩
  exact call_meetsIn PySem.F.slot_dict_items (s:=TZ) ⟨_,hd1,rfl⟩ PySem.F.entry_dict_items (PySem.F.args_dict_items_1 _) (meets_dict_items (strKind prog w) d hs)
   ⟨⟨[],(wn hd1).dictOf⟩,mG T1 (mY TZ _ TZ.toks),_,rfl,_,au _ rfl,rfl,rfl⟩) λz z e=>e)
theorem In.pushX (i:In c σ ((D,l)::Λ) h) (k:oH [D] h h') (pl: ∃vs,h'.PlainList D vs.toArray/\mJ c.X h' l' vs) (Uj: ∀q∈Λ,q.1≠D):In c σ ((D,l')::Λ) h':=by
 refine oV (i.lists _ (.head _)) λhD vs0 pl0 rs0=> ?_
 refine mQ pl λvs VF rs=> ?_
 have k1: ∀b o,b≠D->h.get? b=aa o->h'.get? b=aa o:=λb o nb e=>k b o (λq=>nb (ak.mp q)) e
 have kx:oH c.X h h':=λb o nb e=>k1 b o (λq=>nb (q▸ax _ hD)) e
 have lv: ∀a,(∃o,h.get? a=aa o)-> ∃o,h'.get? a=aa o:=λa uu=>eE uu λo e=>by
  by_cases q:a=D
  ·subst q;obtain ⟨_,e⟩:=VF;exact ⟨_,e⟩
  ·exact ⟨o,k1 a o q e⟩
 refine ⟨λb o e=> ?_,i.fresh,λa ha=>lv a (i.live a ha),λa ha=>lv a (i.liveX a ha),i.locOwn,?_,λy q hk e=> ?_,λy a e=> ?_,i.kinds,λq hq=> ?_⟩
 ·exact k1 b o (λq=>by have:=i.fresh _ hD;rw [<-q,e] at this;exact tC this) (i.keep _ _ e)
 ·refine mQ i.loc λm n hm=> ?_
  exact ⟨m,n.at' λo e=>k1 _ o (sN pl0 n).symm e,λy q hk e=>let ⟨u,e',r'⟩:=hm y q hk e;⟨u,e',r'.keepX kx⟩⟩
 ·obtain ⟨a,u,q1,⟨o,q2,q2'⟩,q3⟩:=i.cel y q hk e
  exact ⟨a,u,q1,⟨o,k1 _ _ (qF pl0 ⟨o,q2,q2'⟩).symm q2,q2'⟩,q3.keepX kx⟩
 ·refine oU (i.cob y a e) λu o q2 q2'=> ?_
  exact ⟨u,o,k1 _ _ (qF pl0 ⟨o,q2,q2'⟩).symm q2,q2'⟩
 ·rcases ao.mp hq with e|e
  ·subst e;exact ⟨hD,vs,VF,rs⟩
  ·obtain ⟨a,us,⟨n,b⟩,r'⟩:=i.lists q (.tail _ e)
   exact ⟨a,us,⟨n,k1 _ _ (Uj q e) b⟩,r'.keepX kx⟩
theorem Gu (ho:Ev prog w (fs c σ ((D,l)::Λ)) o (.raw (.ref D))) (he:Ev prog w (fs c σ ((D,l)::Λ)) e p) (hsz:l.length<=bn) (Uj: ∀q∈Λ,q.1≠D)
  (hb:mS prog w c.env c.A (In c σ ((D,l++[p])::Λ)) b J)
  (hi:autoParam (i5 c.env=false) XZ) (hs:autoParam (cJ (.Call (.Attribute o ("append":Str) apos) [e] [] pos) az Vd.line c.env=bG false) XZ)
  (Up:autoParam (db o ("append":Str) c.env (bJ o c.env)=bJ o c.env) XZ)
  (UZ:autoParam (((fa pos (aE [e] c.env)).all (λx=> !x.1)&&(cM pos (bR [] c.env)).all (λx=>x.1.isSome)
   &&decide ([e].length+([]:List eV).length+(if ([]:List eV).isEmpty then 0 else 1)<30))=ai) XZ)
  (Uu:autoParam ((apos.endLine==pos.line)=ai) XZ) (UR:autoParam (aE [e] c.env=(false,bJ e c.env)::aE [] c.env) XZ):
  mS prog w c.env c.A (In c σ ((D,l)::Λ)) (.Expr (.Call (.Attribute o ("append":Str) apos) [e] [] pos) Vd::b) J:=
 qQ (I':=In c σ ((D,l++[p])::Λ)) (λs i=>by
  refine fM ?_ hi hs
  refine dN (T:="list") Up UZ Uu PySem.F.plainAttrs_list PySem.F.slot_list_append PySem.F.type_list_append (ab (ho.run s i) (λv VA uu=>eA uu λUI WD=> ?_) λz z e=>e)
  subst WD
  have U4:=i.mono (mz UI)
  obtain ⟨hD,vs,⟨n,pl⟩,rs⟩:=U4.lists _ (.head _)
  refine ⟨⟨_,pl,rfl⟩,λa e=>by cases e;exact ⟨_,pl,rfl⟩,nH (qo ?_ UR)⟩
  refine cB (ab (he.run VA U4) (λu TZ uu=>eA uu λT1 T4=>cF ⟨rg,?_⟩) λz z e=>e) UR
  exact ab (Dl (U4.mono (mz T1)) T4 Uj hsz) (λz T2 uu=>eA uu λUD T7=>⟨(nA.of (mG UI T1)).trans UD,T7⟩) λz z e=>e) hb
end
section
variable {prog:aH} {w:av} {c:Sc} {σ:mW} {Λ:List (aF×List PV)}
theorem yR (hb: ∀D,c.g.get? D=az->D∉c.X->mS prog w (c.addOwn D).env (c.addOwn D).A (In (c.addOwn D) ((x,.raw (.ref D))::σ) ((D,[])::Λ)) b J)
  (hx: ∀D,sB (c.addOwn D) x:=by exact λz=>.inl rfl) (hk:autoParam (c.env.scope.kind= .function) XZ) (hs:autoParam (cJ (.List [] lp) (aa (.Name x px)) pos.line c.env=bG false) XZ):
  mS prog w c.env c.A (In c σ Λ) (.Assign [.Name x px] (.List [] lp) pos::b) J:=w2 hb hx hk hs
theorem E8 (x:Str) (hx:σ.lookup x=aa (.raw (.ref D))) (Uj: ∀q∈Λ,q.1≠D) (hD:D∉c.X) (hb:mS prog w c.env c.A (In c ((x,.list l)::σ) Λ) b J) (hc:c.env.locals∈c.own:=by exact .head _):mS prog w (c.addOwn D).env (c.addOwn D).A (In (c.addOwn D) σ ((D,l)::Λ)) b J:=w1 x hx Uj hD hb hc
end
end
local macro_rules | `(tactic| walk_at "kr") => `(tactic| ((fail_if_success (fail_if_success decide +kernel)); kernel_rfl))
local macro_rules | `(tactic| walk_at $s:str) => q0q "lk=BD|Cw ?kr ?lk;op=nV|nI|rA|yH|za|op_ge_int|pY|op_ne_int|ou|sY|t7|oB|sE|sG;evs=mH|my ?ev ?evs;ev=mM|xi|sF|vU|m5 &ol|nu &lk|mI &ev &ev &op|rW &ev &op|vg ?ev ?ev ?op;ol=yP _;tr=mX ?ev ?ev ?op|vc ?tr" s
local macro_rules | `(tactic| walk_at "sub") => `(tactic| (with_reducible intros))
section
open PySem.Calls PyProof.Rows PySem.Builtin.Str
section
variable {w:av}
theorem Da {f:Nat->List Nat} {t:Nat->Nat}: ∀l:List Nat,mJ X h (l.map λk=>.str (S (f k))) (l.map λk=>.str (S (f k)) (t k))
 |[]=>mJ.nil
 |_::l=>mJ.cons og (Da l)
theorem Ma:mJ X h ((ag 256).map λk=>.str (S (ph k))) (Ak 256):=Da _
theorem Te:(KB P).lookup 41=aa PW:=by kernel_rfl
theorem IA (hc:c<256):rI ms w 1 68 [.str (S [c])] (.str (S (ph c))):=by
 refine qE ["c"] (Px _) (λvs e=> ?_) (λA X g L lx G=> ?_)
 ·refine eE (vp e) λz T0=> ?_;obtain rfl:=T0;kernel_rfl!
 ·refine m9 ?_
  refine nj (p:=.list ((ag 256).map λk=>.str (S (ph k)))) (q:=.int c) ?_ ?_ ?_
  ·exact vS G.base (λh i=>G.offX i) G.gl G.fn (by kernel_rfl) Te ⟨rfl,_,rfl⟩ (λh=>Ma)
  ·refine n9 G (ps:=[.str (S [c])]) (by kernel_rfl) (by kernel_rfl) ?_ Hw
   walk_at "evs"
  ·exact m4 (by exact mu (.L xJ (.k xA)) [_]) (by simp [hc]) (by exact (mu (.i (.b xA (.c 256)) (.B (.k xA) xS)) [_]) hc)
end
section
variable {w:av}
def um (T:List Nat):List Nat:=dots ai (pb T)
theorem xh (hT:T.length<=400):rI ms w 1 149 [.str (S T)] (.str (S (um T))):=by
 refine qE ["data"] (IY _) (λvs e=> ?_) (λA X g L lx G=> ?_)
 ·refine eE (vp e) λz T0=> ?_;obtain rfl:=T0;kernel_rfl!
 ·have hl:=Lc _ T (aN _)
  refine m9 ?_
  refine yc G (T:="re.Pattern") (ur G (by kernel_rfl)) (show (KB w.params).lookup 137=aa Lx by kernel_rfl) rfl rfl Pat.plainAttrs Pat.slot_sub Pat.type_sub ?_
   (Hg (T:=pb T) (repl:=[46,46]) (λh i=>NQ (G.inBase h i)) (by exact (mu (.i (.l xB (.c 400)) (.i (.l xA (.m 2 xB)) (.l xA xQ))) [_,_]) hT hl) (by decide) (by rfl) (QX _ (by exact (mu (.i (.l xB (.c 400)) (.i (.l xA (.m 2 xB)) (.l xA xQ))) [_,_]) hT hl) _ 0 (aN _) (cx _)))
  refine my (m5 (yP _)) (my ?_ mH)
  refine yc G (T:="re.Pattern") (ur G (by kernel_rfl)) (show (KB w.params).lookup 142=aa LO by kernel_rfl) rfl rfl Pat.plainAttrs Pat.slot_sub Pat.type_sub ?_
   (Hg (T:=T) (repl:=[13,10]) (λh i=>OH (G.inBase h i)) (by exact (mu (.i (.l xA (.c 400)) (.l xA xQ)) [_]) hT) (by decide) (by rfl) (QO T _ 0 (aN _) (cx _)))
  refine my (ue G (v:=.str (S [13,10]) 2045) (by kernel_rfl) λz=>og) ?_
  walk_at "evs"
theorem Ee (ha:a∈pi) (hb:b∈pi):rI ms w 1 61 [.str (S [c,a,b])] (.str (S [16*oj a+oj b])):=by
 refine qE ["s"] (Q7 _) (λvs e=> ?_) (λA X g L lx G=> ?_)
 ·refine eE (vp e) λz T0=> ?_;obtain rfl:=T0;kernel_rfl!
 ·have hv: ∀c∈pi,oj c<=15:=by decide
  have:=hv a ha
  have:=hv b hb
  refine m9 (n9 G (ps:=[.int ((16*oj a+oj b:Nat):Int)]) (by kernel_rfl) (by kernel_rfl) (my ?_ mH) (Ck (by exact (mu (.i (.l xA (.c 15)) (.i (.l xB (.c 15)) (.l (.a (.m 16 xA) xB) (.c 1114111)))) [_,_]) (by assumption) this)))
  refine n9 G (ps:=[.str (S [a,b]),.int 16]) (by kernel_rfl) (by kernel_rfl) (my ?_ (my mM mH)) (Ku ha hb) (.inr ⟨_,rfl⟩)
  refine mP (qw (l:=[c,a,b]) ?_ (nW mM) (nW mM) (by have:=aw;simp;exact (mu (.i (.e xA xL) (.l xO xA)) [_]) this)) rfl
  walk_at "ev"
end
section
variable {w:av}
def fN (n:Nat):Fx:=⟨false,de n U⟩
noncomputable def tx:Fx:=⟨false,iD 2 1073⟩
def EI:Fx:=⟨false,rn U 6⟩
def zs:Fx:=⟨false,rn U 3⟩
def xa:Fx:=⟨false,rn (2*U) 3⟩
theorem FC:FR (zs) 4599676419421066581:=uh (a:=false) (m:=6004799503160661) (e:= -54) _ (by kernel_rfl) (by kernel_rfl)
theorem MM:FR (EI) 4595172819793696085:=uh (a:=false) (m:=6004799503160661) (e:= -55) _ (by kernel_rfl) (by kernel_rfl)
theorem GL:FR (xa) 4604180019048437077:=uh (a:=false) (m:=6004799503160661) (e:= -53) _ (by kernel_rfl) (by kernel_rfl)
theorem zC:FR (tx) 4602678819172646912:=uh (a:=false) (m:=4503599627370496) (e:= -53) _ (by kernel_rfl) (by kernel_rfl)
theorem I8:FR (fN 0) 0:=uh (a:=false) (m:=0) (e:= -1074) _ (by kernel_rfl) (by kernel_rfl)
theorem R8:FR (fN 1) 4607182418800017408:=uh (a:=false) (m:=4503599627370496) (e:= -52) _ (by kernel_rfl) (by kernel_rfl)
theorem RK:FR (fN 2) 4611686018427387904:=uh (a:=false) (m:=4503599627370496) (e:= -51) _ (by kernel_rfl) (by kernel_rfl)
theorem R9:FR (fN 4) 4616189618054758400:=uh (a:=false) (m:=4503599627370496) (e:= -50) _ (by kernel_rfl) (by kernel_rfl)
theorem RH:FR (fN 6) 4618441417868443648:=uh (a:=false) (m:=6755399441055744) (e:= -50) _ (by kernel_rfl) (by kernel_rfl)
end
end
local macro_rules | `(tactic| walk_at $s:str) => q0q "ev=pt I8|pt R8|pt RK|pt R9|pt RH|pt zC|nu ?lk|mM" s
section
open PySem.Calls PyProof.Rows PySem.Builtin.Str
section
variable {w:av}
theorem Bb (e:FR f x):mO X h (.fx f) (.float x t):=by exact ⟨_,_,rfl,e⟩
def NJ (m1 m2 k:PV):Option PV:=(nQ m2 m1).bind λa=>(pE a k).bind λb=>(pE b (.fx (fN 6))).bind λc=>qB m1 c
def vP (m1 m2 hue:PV):Option PV:=(Bp hue).bind λh=>match h with
 |.fx f=>cond (vf f EI) (NJ m1 m2 (.fx f)) (cond (vf f tx) (aa m2) (cond (vf f xa) ((nQ (.fx xa) (.fx f)).bind (NJ m1 m2)) (aa m1)))
 |_=>az
theorem Fh {m1 m2 hue r:PV} (e:vP m1 m2 hue=aa r):rI ms w 1 118 [m1,m2,hue] r:=by
 refine mQ (bd.mp e) λh e1 e2=> ?_
 cases h with
 |fx f=>
  dsimp only at e2
  refine qE ["m1","m2","hue"] (DQ _) (λvs e=> ?_) (λA X g L lx G=> ?_)
  ·refine vk (vo e) λz z z T0=> ?_;obtain rfl:=T0;kernel_rfl!
  ·refine mK (p:=.fx f) (mI (p:=hue) ?_ vU (Aq e1)) ?_
   ·walk_at "ev"
   refine m7 (d:=vf f EI) (mX (p:=.fx f) ?_ (ue G (v:=.float 4595172819793696085 1908) (by kernel_rfl) λz=>Bb MM) AU) (λc1=> ?_) (λc1=> ?_)
   ·walk_at "ev"
   ·rw [c1] at e2
    refine mQ (bd.mp e2) λa h1 e2=> ?_
    refine mQ (bd.mp e2) λb h2 e2=> ?_
    refine mQ (bd.mp e2) λc h3 e2=> ?_
    refine m9 (mI (p:=m1) ?_ (mI (p:=b) (mI (p:=a) (mI (p:=m2) ?_ ?_ (nN h1)) ?_ (pI h2)) ?_ (pI h3)) (qA e2))<;>walk_at "ev"
   rw [c1] at e2
   refine m7 (d:=vf f tx) (mX (p:=.fx f) ?_ (pt zC) AU) (λc2=> ?_) (λc2=> ?_)
   ·walk_at "ev"
   ·rw [c2] at e2
    obtain rfl:=am e2
    refine m9 ?_
    walk_at "ev"
   rw [c2] at e2
   refine m7 (d:=vf f xa) (mX (p:=.fx f) ?_ (ue G (v:=.float 4604180019048437077 1912) (by kernel_rfl) λz=>Bb GL) AU) (λc3=> ?_) (λc3=> ?_)
   ·walk_at "ev"
   ·rw [c3] at e2
    refine mQ (bd.mp e2) λk h0 e2=> ?_
    refine mQ (bd.mp e2) λa h1 e2=> ?_
    refine mQ (bd.mp e2) λb h2 e2=> ?_
    refine mQ (bd.mp e2) λc h3 e2=> ?_
    refine m9 (mI (p:=m1) ?_ (mI (p:=b) (mI (p:=a) (mI (p:=m2) ?_ ?_ (nN h1)) (mI (p:=.fx xa) (ue G (v:=.float 4604180019048437077 1912) (by kernel_rfl) λz=>Bb GL) ?_ (nN h0)) (pI h2)) ?_ (pI h3)) (qA e2))<;>walk_at "ev"
   ·rw [c3] at e2
    obtain rfl:=am e2
    refine m9 ?_
    walk_at "ev"
 |_=>exact nB e2
end
section
variable {w:av}
def MR (l s:PV):Option PV:=match l with
 |.fx f=>cond (vf f tx||tm f tx) ((qB (.fx (fN 1)) s).bind (pE l)) ((qB l s).bind λa=>(pE l s).bind (nQ a))
 |_=>az
def v6 (h l s:PV):Option PV:=cond (rO s (.fx (fN 0))) (aa (.tup [l,l,l]))
 ((MR l s).bind λm2=>(pE (.fx (fN 2)) l).bind λa=>(nQ a m2).bind λm1=>(qB h (.fx zs)).bind λh1=>(nQ h (.fx zs)).bind λh2=>
  (vP m1 m2 h1).bind λr=>(vP m1 m2 h).bind λg=>(vP m1 m2 h2).bind λb=>aa (.tup [r,g,b]))
theorem Rl {G:Prop} (c:rO s (.fx (fN 0))=false) (e:v6 h l s=aa r) (k: ∀m2 a m1 h1 h2 x y z,MR l s=aa m2->pE (.fx (fN 2)) l=aa a->nQ a m2=aa m1->qB h (.fx zs)=aa h1->nQ h (.fx zs)=aa h2->vP m1 m2 h1=aa x->vP m1 m2 h=aa y->vP m1 m2 h2=aa z->r= .tup [x,y,z]->G):G:=by
 unfold v6 at e
 rw [c] at e
 exact mZ e λm2 e1 e=>mZ e λa e2 e=>mZ e λm1 e3 e=>mZ e λh1 e4 e=>mZ e λh2 e5 e=>mZ e λx e6 e=>mZ e λy e7 e=>mZ e λz e8 e=>k m2 a m1 h1 h2 x y z e1 e2 e3 e4 e5 e6 e7 e8 (am e).symm
theorem Ed (hs:uw s=ai) (e:v6 h l s=aa r):rI ms w 2 111 [h,l,s] r:=by
 refine qE ["h","l","s"] (I1 _) (λvs e=> ?_) (λA X g L lx G=> ?_)
 ·refine vk (vo e) λu u u T0=> ?_;obtain rfl:=T0;kernel_rfl!
 ·refine m7 (d:=rO s (.fx (fN 0))) (mX (p:=s) ?_ (pt I8) (tI hs rfl)) (λc1=> ?_) (λc1=> ?_)
  ·walk_at "ev"
  ·unfold v6 at e
   rw [c1] at e
   obtain rfl:=am e
   refine m9 (ot (ps:=[l,l,l]) (my ?_ (my ?_ (my ?_ mH))) (by have:=aw;simp;exact (mu (.i (.e xA xL) (.l xO xA)) [_]) this))<;>walk_at "ev"
  refine Rl c1 e λm2 a m1 h1 h2 x y z e1 e2 e3 e4 e5 e6 e7 e8 er=> ?_
  subst er
  clear e
  cases l with
  |fx f=>
   unfold MR at e1
   dsimp only at e1
   refine (λtail=>m7 (d:=(vf f tx||tm f tx)) (mX (p:=.fx f) ?e0 (pt zC) FU) (λc2=>mK (p:=m2) ?e1 tail) (λc2=>mK (p:=m2) ?e2 tail)) ?tail
   case e0=>walk_at "ev"
   case e1=>
    rw [c2] at e1
    refine mQ (bd.mp e1) λk k1 k2=> ?_
    refine mI (p:=.fx f) ?_ (mI (p:=.fx (fN 1)) ?_ ?_ (qA k1)) (pI k2)<;>walk_at "ev"
   case e2=>
    rw [c2] at e1
    refine mQ (bd.mp e1) λk k1 e1=> ?_
    refine mQ (bd.mp e1) λj k2 k3=> ?_
    refine mI (p:=k) (mI (p:=.fx f) ?_ ?_ (qA k1)) (mI (p:=.fx f) ?_ ?_ (pI k2)) (nN k3)<;>walk_at "ev"
   case tail=>
    refine mK (p:=m1) (mI (p:=a) (mI (p:=.fx (fN 2)) ?_ ?_ (pI e2)) ?_ (nN e3)) ?_
    ·walk_at "ev"
    ·walk_at "ev"
    ·walk_at "ev"
    refine m9 (ot (ps:=[x,y,z]) (my (oE G (ps:=[m1,m2,h1]) (by kernel_rfl) (DQ _).e ?_ (Fh e6)) (my (oE G (ps:=[m1,m2,h]) (by kernel_rfl) (DQ _).e ?_ (Fh e7)) (my (oE G (ps:=[m1,m2,h2]) (by kernel_rfl) (DQ _).e ?_ (Fh e8)) mH))) (by have:=aw;simp;exact (mu (.i (.e xA xL) (.l xO xA)) [_]) this))
    ·refine my ?_ (my ?_ (my (mI (p:=h) ?_ (ue G (v:=.float 4599676419421066581 1904) (by kernel_rfl) λz=>Bb FC) (qA e4)) mH))<;>walk_at "ev"
    ·refine my ?_ (my ?_ (my ?_ mH))<;>walk_at "ev"
    ·refine my ?_ (my ?_ (my (mI (p:=h) ?_ (ue G (v:=.float 4599676419421066581 1904) (by kernel_rfl) λz=>Bb FC) (nN e5)) mH))<;>walk_at "ev"
  |_=>exact nB e1
end
section
variable {w:av}
def Py (p:PV):Option Nat:=match p with|.fx f=>IR f|_=>az
noncomputable def zw (i:Nat) (v p q t:PV):PV:=match i with
 |0=>.tup [v,t,p]|1=>.tup [q,v,p]|2=>.tup [p,v,t]|3=>.tup [p,q,v]|4=>.tup [t,p,v]|_=>.tup [v,p,q]
def sp (h s v:PV):Option PV:=cond (rO s (.fx (fN 0))) (aa (.tup [v,v,v]))
 ((pE h (.fx (fN 6))).bind λh6=>(Py h6).bind λi=>(nQ h6 (.int i)).bind λf=>(nQ (.fx (fN 1)) s).bind λa=>(pE v a).bind λp=>
  (pE s f).bind λb=>(nQ (.fx (fN 1)) b).bind λc=>(pE v c).bind λq=>(nQ (.fx (fN 1)) f).bind λd=>(pE s d).bind λe=>(nQ (.fx (fN 1)) e).bind λk=>(pE v k).bind λt=>
  aa (zw (i % 6) v p q t))
structure Tg (h s v r:PV) (g6:Fx) (i:Nat) (f a p b c q d k j t:PV):Prop where
 e1:pE h (.fx (fN 6))=aa (.fx g6)
 e2:Py (.fx g6)=aa i
 e3:nQ (.fx g6) (.int i)=aa f
 e4:nQ (.fx (fN 1)) s=aa a
 e5:pE v a=aa p
 e6:pE s f=aa b
 e7:nQ (.fx (fN 1)) b=aa c
 e8:pE v c=aa q
 e9:nQ (.fx (fN 1)) f=aa d
 e10:pE s d=aa k
 e11:nQ (.fx (fN 1)) k=aa j
 e12:pE v j=aa t
 e13:zw (i % 6) v p q t=r
theorem Jy (c1:rO s (.fx (fN 0))=false) (e:sp h s v=aa r): ∃g6 i f a p b c q d k j t,Tg h s v r g6 i f a p b c q d k j t:=by
 unfold sp at e
 rw [c1] at e
 refine mZ e λh6 e1 e=>mZ e λi e2 e=> ?_
 cases h6 with
 |fx g6=>exact mZ e λf e3 e=>mZ e λa e4 e=>mZ e λp e5 e=>mZ e λb e6 e=>mZ e λc e7 e=>mZ e λq e8 e=>mZ e λd e9 e=>mZ e λk e10 e=>mZ e λj e11 e=>mZ e λt e12 e=>
  ⟨g6,i,f,a,p,b,c,q,d,k,j,t,e1,e2,e3,e4,e5,e6,e7,e8,e9,e10,e11,e12,am e⟩
 |_=>exact nB e2
theorem sx (h:(((n:Nat):Int)==(k:Nat))=ai) (e:zw k v p q t=x):x=zw n v p q t:=by rw [<-e,Int.ofNat_inj.mp (gC h)]
theorem Po: ∀n<6,((((n:Nat):Int)==0)||(((n:Nat):Int)==1)||(((n:Nat):Int)==2)||(((n:Nat):Int)==3)||(((n:Nat):Int)==4)||(((n:Nat):Int)==5))=ai:=by decide
theorem TB (k0:(((n:Nat):Int)==0)=false) (k1:(((n:Nat):Int)==1)=false) (k2:(((n:Nat):Int)==2)=false) (k3:(((n:Nat):Int)==3)=false) (k4:(((n:Nat):Int)==4)=false) (k5:(((n:Nat):Int)==5)=false): ¬n<6:=λh=>by
 have:=Po n h
 rw [k0,k1,k2,k3,k4,k5] at this
 exact o8 this
theorem As (hs:uw s=ai) (e:sp h s v=aa r):rI ms w 2 132 [h,s,v] r:=by
 have hz: ∀l:List PV,l.length=3->l.length<=bn:=λl h=>by rw [h,aw];decide
 refine qE ["h","s","v"] (DY _) (λvs e=> ?_) (λA X g L lx G=> ?_)
 ·refine vk (vo e) λz z z T0=> ?_;obtain rfl:=T0;kernel_rfl!
 refine m7 (d:=rO s (.fx (fN 0))) (mX (p:=s) ?_ (pt I8) (tI hs rfl)) (λc1=> ?_) (λc1=> ?_)
 ·walk_at "ev"
 ·have e': .tup [v,v,v]=r:=by unfold sp at e;rw [c1] at e;exact am e
  refine m9 (mP (ot (ps:=[v,v,v]) (my ?_ (my ?_ (my ?_ mH))) (hz _ rfl)) e')<;>walk_at "ev"
 obtain ⟨g6,i,f,a,p,b,c,q,d,k,j,t,st⟩:=Jy c1 e
 refine mK (p:=.int i) (n9 G (ps:=[.fx g6]) (by kernel_rfl) (by kernel_rfl) (my (mI (p:=h) ?_ ?_ (pI st.e1)) mH) (Bt st.e2) (.inr ⟨_,rfl⟩)) ?_
 ·walk_at "ev"
 ·walk_at "ev"
 refine mK (p:=f) (mI (p:=.fx g6) (mI (p:=h) ?_ ?_ (pI st.e1)) ?_ (nN st.e3)) ?_
 ·walk_at "ev"
 ·walk_at "ev"
 ·walk_at "ev"
 refine mK (p:=p) (mI (p:=v) ?_ (mI (p:=.fx (fN 1)) ?_ ?_ (nN st.e4)) (pI st.e5)) ?_
 ·walk_at "ev"
 ·walk_at "ev"
 ·walk_at "ev"
 refine mK (p:=q) (mI (p:=v) ?_ (mI (p:=.fx (fN 1)) ?_ (mI (p:=s) ?_ ?_ (pI st.e6)) (nN st.e7)) (pI st.e8)) ?_
 ·walk_at "ev"
 ·walk_at "ev"
 ·walk_at "ev"
 ·walk_at "ev"
 refine mK (p:=t) (mI (p:=v) ?_ (mI (p:=.fx (fN 1)) ?_ (mI (p:=s) ?_ (mI (p:=.fx (fN 1)) ?_ ?_ (nN st.e9)) (pI st.e10)) (nN st.e11)) (pI st.e12)) ?_
 ·walk_at "ev"
 ·walk_at "ev"
 ·walk_at "ev"
 ·walk_at "ev"
 ·walk_at "ev"
 refine mK (p:=.int ((i % 6:Nat):Int)) (mP (mI (p:=.int i) ?_ mM (oq (by decide))) (by rw [bM _ (by decide)];rfl)) ?_
 ·walk_at "ev"
 refine m7 (d:=((i % 6:Nat):Int)==0) (mX (p:=.int (i % 6:Nat)) ?_ mM pY) (λc=> ?_) (λk0=> ?_)
 ·walk_at "ev"
 ·refine m9 (mP (ot (ps:=[v,t,p]) (my ?_ (my ?_ (my ?_ mH))) (hz _ rfl)) ((sx (k:=0) c rfl).trans st.e13))<;>walk_at "ev"
 refine m7 (d:=((i % 6:Nat):Int)==1) (mX (p:=.int (i % 6:Nat)) ?_ mM pY) (λc=> ?_) (λk1=> ?_)
 ·walk_at "ev"
 ·refine m9 (mP (ot (ps:=[q,v,p]) (my ?_ (my ?_ (my ?_ mH))) (hz _ rfl)) ((sx (k:=1) c rfl).trans st.e13))<;>walk_at "ev"
 refine m7 (d:=((i % 6:Nat):Int)==2) (mX (p:=.int (i % 6:Nat)) ?_ mM pY) (λc=> ?_) (λk2=> ?_)
 ·walk_at "ev"
 ·refine m9 (mP (ot (ps:=[p,v,t]) (my ?_ (my ?_ (my ?_ mH))) (hz _ rfl)) ((sx (k:=2) c rfl).trans st.e13))<;>walk_at "ev"
 refine m7 (d:=((i % 6:Nat):Int)==3) (mX (p:=.int (i % 6:Nat)) ?_ mM pY) (λc=> ?_) (λk3=> ?_)
 ·walk_at "ev"
 ·refine m9 (mP (ot (ps:=[p,q,v]) (my ?_ (my ?_ (my ?_ mH))) (hz _ rfl)) ((sx (k:=3) c rfl).trans st.e13))<;>walk_at "ev"
 refine m7 (d:=((i % 6:Nat):Int)==4) (mX (p:=.int (i % 6:Nat)) ?_ mM pY) (λc=> ?_) (λk4=> ?_)
 ·walk_at "ev"
 ·refine m9 (mP (ot (ps:=[t,p,v]) (my ?_ (my ?_ (my ?_ mH))) (hz _ rfl)) ((sx (k:=4) c rfl).trans st.e13))<;>walk_at "ev"
 refine m7 (d:=((i % 6:Nat):Int)==5) (mX (p:=.int (i % 6:Nat)) ?_ mM pY) (λc=> ?_) (λk5=> ?_)
 ·walk_at "ev"
 ·refine m9 (mP (ot (ps:=[v,p,q]) (my ?_ (my ?_ (my ?_ mH))) (hz _ rfl)) ((sx (k:=5) c rfl).trans st.e13))<;>walk_at "ev"
 exact absurd (fL i (by decide:6>0)) (TB k0 k1 k2 k3 k4 k5)
end
section
variable {w:av}
def LB (r g maxc rc gc bc:PV):Option PV:=(cond (rO r maxc) (nQ bc gc) (cond (rO g maxc) ((qB (.fx (fN 2)) rc).bind λa=>nQ a bc) ((qB (.fx (fN 4)) gc).bind λa=>nQ a rc))).bind λh=>(qH h (.fx (fN 6))).bind Bp
def oz (r g b:PV):Option PV:=(nQ (nw r g b) (qm r g b)).bind λrange=>cond (rO (qm r g b) (nw r g b)) (aa (.tup [.fx (fN 0),.fx (fN 0),nw r g b]))
 ((qH range (nw r g b)).bind λs=>(nQ (nw r g b) r).bind λa=>(qH a range).bind λrc=>(nQ (nw r g b) g).bind λa=>(qH a range).bind λgc=>(nQ (nw r g b) b).bind λa=>(qH a range).bind λbc=>
  (LB r g (nw r g b) rc gc bc).bind λh=>aa (.tup [h,s,nw r g b]))
theorem ss (n:qn p q):uw p=ai:=by
 rcases xY n with ⟨_,_,rfl,rfl⟩|⟨_,_,rfl,rfl⟩<;>rfl
theorem Ct (a:uw p=ai) (b:uw q=ai) (c:uw r=ai):uw (nw p q r)=ai:=by
 unfold nw;cases uc p q<;>cases uc q r<;>cases uc p r<;>assumption
theorem CE (a:uw p=ai) (b:uw q=ai) (c:uw r=ai):uw (qm p q r)=ai:=by
 unfold qm;cases uc q p<;>cases uc r q<;>cases uc r p<;>assumption
structure SD (r g b mx range rc gc bc h a1 a2 a3 h0 h1:PV):Prop where
 f1:nQ mx r=aa a1
 f2:qH a1 range=aa rc
 f3:nQ mx g=aa a2
 f4:qH a2 range=aa gc
 f5:nQ mx b=aa a3
 f6:qH a3 range=aa bc
 e5:cond (rO r mx) (nQ bc gc) (cond (rO g mx) ((qB (.fx (fN 2)) rc).bind λa=>nQ a bc) ((qB (.fx (fN 4)) gc).bind λa=>nQ a rc))=aa h0
 e7:qH h0 (.fx (fN 6))=aa h1
 e8:Bp h1=aa h
theorem AQ {β:Type} {F:PV->Option β} {t:β} {G:Prop} (e:((nQ mx r).bind λa=>(qH a range).bind λrc=>(nQ mx g).bind λa=>(qH a range).bind λgc=>(nQ mx b).bind λa=>(qH a range).bind λbc=>(LB r g mx rc gc bc).bind F)=aa t)
  (k: ∀rc gc bc h a1 a2 a3 h0 h1,SD r g b mx range rc gc bc h a1 a2 a3 h0 h1->F h=aa t->G):G:=
 mZ e λa1 f1 e=>mZ e λrc f2 e=>mZ e λa2 f3 e=>mZ e λgc f4 e=>mZ e λa3 f5 e=>mZ e λbc f6 e=>mZ e λh f7 e=>mZ f7 λh0 e5 e6=>mZ e6 λh1 e7 e8=>k rc gc bc h a1 a2 a3 h0 h1 ⟨f1,f2,f3,f4,f5,f6,e5,e7,e8⟩ e
theorem wq {α:Type} {x y z:α} (c:b=ai) (e:cond b x y=z):x=z:=by rw [c] at e;exact e
theorem tL {α:Type} {x y z:α} (c:b=false) (e:cond b x y=z):y=z:=by rw [c] at e;exact e
theorem HC {l:List PV} (h:l.length=3):l.length<=bn:=by rw [h,aw];decide
theorem D5 (i1:uw r=ai) (i2:uw g=ai) (im:uw (nw r g b)=ai) (R:SD r g b (nw r g b) range rc gc bc h a1 a2 a3 h0 h1):
  mS ms w (mU xn 125 A X [] g' L).env (mU xn 125 A X [] g' L).A (In (mU xn 125 A X [] g' L) (("s",s)::("v",nw r g b)::("rangec",range)::("minc",qm r g b)::("maxc",nw r g b)::pZ ["r","g","b"] [r,g,b]) [])
   ((nU (nK 31)).drop 6) (uy g' X (.tup [h,s,nw r g b])):=by
 refine mK (p:=rc) (mI (p:=a1) (q:=range) (mI (p:=nw r g b) (q:=r) ?_ ?_ (nN R.f1)) ?_ (rf R.f2)) ?_
 ·walk_at "ev"
 ·walk_at "ev"
 ·walk_at "ev"
 refine mK (p:=gc) (mI (p:=a2) (q:=range) (mI (p:=nw r g b) (q:=g) ?_ ?_ (nN R.f3)) ?_ (rf R.f4)) ?_
 ·walk_at "ev"
 ·walk_at "ev"
 ·walk_at "ev"
 refine mK (p:=bc) (mI (p:=a3) (q:=range) (mI (p:=nw r g b) (q:=b) ?_ ?_ (nN R.f5)) ?_ (rf R.f6)) ?_
 ·walk_at "ev"
 ·walk_at "ev"
 ·walk_at "ev"
 refine (λtail=>m7 (d:=rO r (nw r g b)) (mX (p:=r) (q:=nw r g b) ?e0 ?e1 (tI i1 im)) (λc1=>mK (p:=h0) ?e2 tail)
  (λc1=>m7 (d:=rO g (nw r g b)) (mX (p:=g) (q:=nw r g b) ?e3 ?e4 (tI i2 im)) (λc2=>mK (p:=h0) ?e5 tail) (λc2=>mK (p:=h0) ?e6 tail))) ?tail
 case e0=>walk_at "ev"
 case e1=>walk_at "ev"
 case e3=>walk_at "ev"
 case e4=>walk_at "ev"
 case e2=>refine mI (p:=bc) (q:=gc) ?_ ?_ (nN (wq c1 R.e5))<;>walk_at "ev"
 case e5=>exact mZ (wq c2 (tL c1 R.e5)) λk k1 k2=>by refine mI (p:=k) (q:=bc) (mI (p:=.fx (fN 2)) (q:=rc) ?_ ?_ (qA k1)) ?_ (nN k2)<;>walk_at "ev"
 case e6=>exact mZ (tL c2 (tL c1 R.e5)) λk k1 k2=>by refine mI (p:=k) (q:=rc) (mI (p:=.fx (fN 4)) (q:=gc) ?_ ?_ (qA k1)) ?_ (nN k2)<;>walk_at "ev"
 refine mK (p:=h) (mI (p:=h1) (mI (p:=h0) (q:=.fx (fN 6)) ?_ ?_ (rf R.e7)) vU (Aq R.e8)) ?_
 ·walk_at "ev"
 ·walk_at "ev"
 refine m9 (ot (ps:=[h,s,nw r g b]) (my ?_ (my ?_ (my ?_ mH))) (HC rfl))<;>walk_at "ev"
theorem uV (n1:qn r g) (n2:qn g b) (n3:qn r b) (e:oz r g b=aa t):rI ms w 1 125 [r,g,b] t:=by
 have i1:=ss n1
 have i2:=ss n2
 have i3:=ss (sa n3)
 have im:=Ct i1 i2 i3
 have in_:=CE i1 i2 i3
 have n4:=sa n3
 refine mZ e λrange e1 e=> ?_
 refine qE ["r","g","b"] (vy _) (λvs e=> ?_) (λA X g' L lx G=> ?_)
 ·refine vk (vo e) λz z z T0=> ?_;obtain rfl:=T0;kernel_rfl!
 have hh:(A.deeper (bf xn L 125)).handled=az:=G.room.1
 refine mK (p:=nw r g b) (n9 G (ps:=[r,g,b]) (by kernel_rfl) (by kernel_rfl) (my ?_ (my ?_ (my ?_ mH))) (AK hh n1 n2 n3 n4)) ?_
 ·walk_at "ev"
 ·walk_at "ev"
 ·walk_at "ev"
 refine mK (p:=qm r g b) (n9 G (ps:=[r,g,b]) (by kernel_rfl) (by kernel_rfl) (my ?_ (my ?_ (my ?_ mH))) (AX hh n1 n2 n3 n4)) ?_
 ·walk_at "ev"
 ·walk_at "ev"
 ·walk_at "ev"
 refine mK (p:=range) (mI (p:=nw r g b) ?_ ?_ (nN e1)) ?_
 ·walk_at "ev"
 ·walk_at "ev"
 refine mK (p:=nw r g b) ?_ ?_
 ·walk_at "ev"
 refine m7 (d:=rO (qm r g b) (nw r g b)) (mX (p:=qm r g b) (q:=nw r g b) ?_ ?_ (tI in_ im)) (λc1=> ?_) (λc1=> ?_)
 ·walk_at "ev"
 ·walk_at "ev"
 ·refine m9 (mP (ot (ps:=[.fx (fN 0),.fx (fN 0),nw r g b]) (my ?_ (my ?_ (my ?_ mH))) (HC rfl)) (am (wq c1 e)))<;>walk_at "ev"
 refine mZ (tL c1 e) λs e2 e=>AQ e λrc gc bc h a1 a2 a3 h0 h1 R e=> ?_
 refine mK (p:=s) (mI (p:=range) (q:=nw r g b) ?_ ?_ (rf e2)) ?_
 ·walk_at "ev"
 ·walk_at "ev"
 obtain rfl:=am e
 exact D5 i1 i2 im R
end
section
variable {w:av}
def Pu (l range sum mx mn:PV):Option PV:=match l with
 |.fx f=>cond (vf f tx||tm f tx) (qH range sum) ((nQ (.fx (fN 2)) mx).bind λa=>(nQ a mn).bind (qH range))
 |_=>az
def uA (r g b:PV):Option PV:=(qB (nw r g b) (qm r g b)).bind λsum=>(nQ (nw r g b) (qm r g b)).bind λrange=>(qH sum (.fx (fN 2))).bind λl=>
 cond (rO (qm r g b) (nw r g b)) (aa (.tup [.fx (fN 0),l,.fx (fN 0)]))
 ((Pu l range sum (nw r g b) (qm r g b)).bind λs=>(nQ (nw r g b) r).bind λa=>(qH a range).bind λrc=>(nQ (nw r g b) g).bind λa=>(qH a range).bind λgc=>(nQ (nw r g b) b).bind λa=>(qH a range).bind λbc=>
  (LB r g (nw r g b) rc gc bc).bind λh=>aa (.tup [h,l,s]))
theorem PG {G:Prop} (e:Pu l range sum mx mn=aa s) (k: ∀f,l= .fx f->cond (vf f tx||tm f tx) (qH range sum) ((nQ (.fx (fN 2)) mx).bind λa=>(nQ a mn).bind (qH range))=aa s->G):G:=by
 cases l with
 |fx f=>exact k f rfl e
 |_=>exact nB e
theorem Gm (n1:qn r g) (n2:qn g b) (n3:qn r b) (e:uA r g b=aa t):rI ms w 1 104 [r,g,b] t:=by
 have i1:=ss n1
 have i2:=ss n2
 have i3:=ss (sa n3)
 have im:=Ct i1 i2 i3
 have in_:=CE i1 i2 i3
 have n4:=sa n3
 refine mZ e λsum e0 e=>mZ e λrange e1 e=>mZ e λl el e=> ?_
 refine qE ["r","g","b"] (DS _) (λvs e=> ?_) (λA X g' L lx G=> ?_)
 ·refine vk (vo e) λz z z T0=> ?_;obtain rfl:=T0;kernel_rfl!
 have hh:(A.deeper (bf IT L 104)).handled=az:=G.room.1
 refine mK (p:=nw r g b) (n9 G (ps:=[r,g,b]) (by kernel_rfl) (by kernel_rfl) (my ?_ (my ?_ (my ?_ mH))) (AK hh n1 n2 n3 n4)) ?_
 ·walk_at "ev"
 ·walk_at "ev"
 ·walk_at "ev"
 refine mK (p:=qm r g b) (n9 G (ps:=[r,g,b]) (by kernel_rfl) (by kernel_rfl) (my ?_ (my ?_ (my ?_ mH))) (AX hh n1 n2 n3 n4)) ?_
 ·walk_at "ev"
 ·walk_at "ev"
 ·walk_at "ev"
 refine mK (p:=sum) (mI (p:=nw r g b) (q:=qm r g b) ?_ ?_ (qA e0)) ?_
 ·walk_at "ev"
 ·walk_at "ev"
 refine mK (p:=range) (mI (p:=nw r g b) (q:=qm r g b) ?_ ?_ (nN e1)) ?_
 ·walk_at "ev"
 ·walk_at "ev"
 refine mK (p:=l) (mI (p:=sum) (q:=.fx (fN 2)) ?_ ?_ (rf el)) ?_
 ·walk_at "ev"
 ·walk_at "ev"
 refine m7 (d:=rO (qm r g b) (nw r g b)) (mX (p:=qm r g b) (q:=nw r g b) ?_ ?_ (tI in_ im)) (λc1=> ?_) (λc1=> ?_)
 ·walk_at "ev"
 ·walk_at "ev"
 ·refine m9 (mP (ot (ps:=[.fx (fN 0),l,.fx (fN 0)]) (my ?_ (my ?_ (my ?_ mH))) (HC rfl)) (am (wq c1 e)))<;>walk_at "ev"
 refine mZ (tL c1 e) λs e2 e=>AQ e λrc gc bc h a1 a2 a3 h0 h1 R e=>PG e2 λf lf e2=> ?_
 cases lf
 refine (λtail=>m7 (d:=(vf f tx||tm f tx)) (mX (p:=.fx f) ?e0 (pt zC) FU) (λc2=>mK (p:=s) ?e1 tail) (λc2=>mK (p:=s) ?e2 tail)) ?tail
 case e0=>walk_at "ev"
 case e1=>refine mI (p:=range) (q:=sum) ?_ ?_ (rf (wq c2 e2))<;>walk_at "ev"
 case e2=>exact mZ (tL c2 e2) λk k1 e2=>mZ e2 λj k2 k3=>by refine mI (p:=range) (q:=j) ?_ (mI (p:=k) (q:=qm r g b) (mI (p:=.fx (fN 2)) (q:=nw r g b) ?_ ?_ (nN k1)) ?_ (nN k2)) (rf k3)<;>walk_at "ev"
 refine mK (p:=rc) (mI (p:=a1) (q:=range) (mI (p:=nw r g b) (q:=r) ?_ ?_ (nN R.f1)) ?_ (rf R.f2)) ?_
 ·walk_at "ev"
 ·walk_at "ev"
 ·walk_at "ev"
 refine mK (p:=gc) (mI (p:=a2) (q:=range) (mI (p:=nw r g b) (q:=g) ?_ ?_ (nN R.f3)) ?_ (rf R.f4)) ?_
 ·walk_at "ev"
 ·walk_at "ev"
 ·walk_at "ev"
 refine mK (p:=bc) (mI (p:=a3) (q:=range) (mI (p:=nw r g b) (q:=b) ?_ ?_ (nN R.f5)) ?_ (rf R.f6)) ?_
 ·walk_at "ev"
 ·walk_at "ev"
 ·walk_at "ev"
 refine (λtail=>m7 (d:=rO r (nw r g b)) (mX (p:=r) (q:=nw r g b) ?h0 ?h1 (tI i1 im)) (λc1=>mK (p:=h0) ?h2 tail)
  (λc1=>m7 (d:=rO g (nw r g b)) (mX (p:=g) (q:=nw r g b) ?h3 ?h4 (tI i2 im)) (λc2=>mK (p:=h0) ?h5 tail) (λc2=>mK (p:=h0) ?h6 tail))) ?tl2
 case h0=>walk_at "ev"
 case h1=>walk_at "ev"
 case h3=>walk_at "ev"
 case h4=>walk_at "ev"
 case h2=>refine mI (p:=bc) (q:=gc) ?_ ?_ (nN (wq c1 R.e5))<;>walk_at "ev"
 case h5=>exact mZ (wq c2 (tL c1 R.e5)) λk k1 k2=>by refine mI (p:=k) (q:=bc) (mI (p:=.fx (fN 2)) (q:=rc) ?_ ?_ (qA k1)) ?_ (nN k2)<;>walk_at "ev"
 case h6=>exact mZ (tL c2 (tL c1 R.e5)) λk k1 k2=>by refine mI (p:=k) (q:=rc) (mI (p:=.fx (fN 4)) (q:=gc) ?_ ?_ (qA k1)) ?_ (nN k2)<;>walk_at "ev"
 refine mK (p:=h) (mI (p:=h1) (mI (p:=h0) (q:=.fx (fN 6)) ?_ ?_ (rf R.e7)) vU (Aq R.e8)) ?_
 ·walk_at "ev"
 ·walk_at "ev"
 refine m9 (mP (ot (ps:=[h,.fx f,s]) (my ?_ (my ?_ (my ?_ mH))) (HC rfl)) (am e))<;>walk_at "ev"
end
section
variable {w:av}
def vj (k:Nat):List Nat:=if yb.contains k then [k] else if k=32 then [95] else ph k
def DJ (b:List UInt8) (x:List Nat):List Nat:=if b.isEmpty then [] else [61,63]++x++[63,113,63]++(b.map (·.toNat)).flatMap vj++[63,61]
theorem S7:(KB P).lookup 46=aa Ni:=by kernel_rfl
theorem RD:((uY (Ak 256) yb 1347).set 32 (.str (S [95]) 1546)).map DM=((ag 256).map vj).map aa:=by kernel_rfl
theorem Fe (k:Nat):1<=(vj k).length/\(vj k).length<=3:=by
 unfold vj
 split
 ·simp
 ·split
  ·decide
  ·simp [ph]
theorem IJ:rI ms w 1 76 [.bytes #[]] (.str (S [])):=by
 refine t6 ["header_bytes","charset"] (ds:=[.str (aS "iso-8859-1")]) [.str (aS "iso-8859-1") 1849] (I2 _) (λX h=>mJ.cons og mJ.nil) (λs vs B e=> ?_) (λA X g L lx G=> ?_)
 ·refine eE (vp e) λz T0=> ?_;obtain rfl:=T0;exact .of_defaults rfl (B.frag 69 NG (by kernel_rfl)) rfl (by with_unfolding_all rfl) (by with_unfolding_all rfl)
 ·refine m7 (d:=ai) (vc (b:=false) (rm (p:=.bytes #[]) ?_ (z6 (l:=[]) (by decide)))) (λz=> ?_) (λe=>by exact rj e)
  ·walk_at "ev"
  ·refine m9 ?_
   exact m5 (by kernel_rfl)
theorem Ki (hb:b≠[]) (hl:b.length<=5) (hx:x.length<=1000):rI ms w 1 76 [.bytes b.toArray,.str (S x)] (.str (S (DJ b x))):=by
 refine t6 ["header_bytes","charset"] (ds:=[]) [] (I2 _) (λX h=>mJ.nil) (λs vs B e=> ?_) (λA X g L lx G=> ?_)
 ·refine rR (Fd e) λz z T0=> ?_;obtain rfl:=T0;exact .of_defaults rfl (B.frag 69 NG (by kernel_rfl)) rfl (by with_unfolding_all rfl) (by with_unfolding_all rfl)
 ·have Uj:b.isEmpty=false:=by cases b with|nil=>exact absurd rfl hb|cons=>rfl
  have Ud:((b.map (·.toNat)).map λc=>(vj c).length).sum<=3*b.length:=by
   clear hb hl Uj
   induction b with
   |nil=>simp
   |cons c b ih=>
    have:=Fe c.toNat
    simp only [ba,d9,aU]
    exact (mu (.i (.l xB (.m 3 xC)) (.i (.l xA xO) (.l (.a xA xB) (.m 3 (.a xC xI))))) [_,_,_]) ih this.2
  refine m7 (d:= !!b.isEmpty) (vc (rm (p:=.bytes b.toArray) ?_ (z6 (by exact (mu (.i (.l xA xN) (.l xA (.c 1000000))) [_]) hl)))) (λe=>by rw [Uj] at e;exact o8 e) (λz=> ?_)
  ·walk_at "ev"
  refine mK (p:=.str (S ((b.map (·.toNat)).flatMap vj))) (re (p:=.str (S (b.map (·.toNat)))) (T:="str") (re (p:=.bytes b.toArray) (T:="bytes") ?_ ⟨λs v r=> ?_,λh v r a e=> ?_⟩ FB.plainAttrs_bytes lN FB.type_bytes_decode (my JI mH) (IM hl hb)) oh F.plainAttrs_str F.slot_str_translate F.type_str_translate (my (p:=.list ((ag 256).map λk=>.str (S (vj k)))) ?_ mH) (yA (λc hc=> ?_) (by exact (mu (.i (.l xB xN) (.i (.l xA (.m 3 xB)) (.l xA (.c 100000)))) [_,_]) hl Ud) (λc z=>(Fe c).1))) ?_
  ·walk_at "ev"
  ·obtain ⟨t,rfl⟩:=r;exact typeIs_bytes _ _ _
  ·obtain ⟨t,rfl⟩:=r;cases e
  ·refine mP (vS (ps:=((ag 256).map vj).map λl=>.str (S l)) G.base (λh i=>G.offX i) G.gl G.fn (by kernel_rfl) S7 ⟨rfl,_,rfl⟩ (λh=>yi RD)) ?_
   rw [aB];rfl
  ·obtain ⟨u,_,rfl⟩:=aK.mp hc
   exact u.toNat_lt
  refine m9 ?_
  refine mP (JZ (l:=[61,63]++(x++([63,113,63]++((b.map (·.toNat)).flatMap vj++([63,61]++[]))))) (vZ ?_ (vZ (M1 ?_ (by exact (mu (.i (.l xA xQ) (.l xA (.c 100000))) [_]) hx)) (vZ ?_ (vZ (M1 ?_ ?_) (vZ ?_ OT))))) ?_) ?_
  ·exact m5 (by kernel_rfl)
  ·walk_at "ev"
  ·exact m5 (by kernel_rfl)
  ·walk_at "ev"
  ·rw [fY];exact (mu (.i (.l xB xN) (.i (.l xA (.m 3 xB)) (.l xA (.c 100000)))) [_,_]) hl Ud
  ·exact m5 (by kernel_rfl)
  ·simp only [af,fY,aU,bQ];exact (mu (.i (.l xC xN) (.i (.l xA xQ) (.i (.l xB (.m 3 xC)) (.l (.a (.a (.a xJ xI) xI) (.a xA (.a (.a (.a (.a xJ xI) xI) xI) (.a xB (.a (.a (.a xJ xI) xI) xJ))))) (.c 100000))))) [_,_,_]) hl hx Ud
  ·unfold DJ
   rw [Uj]
   simp
end
end
local macro_rules | `(tactic| walk_at $s:str) => q0q "has=Cy|xv ?lk ?has;op=nV|nI|rA|yH|t7|pY|sE" s
section
open PySem.Calls PyProof.Rows PySem.Builtin.Str
section
variable {w:av}
def hx (c:Nat):Bool:=pi.contains c
noncomputable def nG (Uc:List Nat):List Nat->List Nat
 |[]=>Uc
 |[c]=>if c=61 then [] else c::Uc
 |[c,a]=>c::nG Uc [a]
 |c::a::b::r=>if c=61/\hx a=ai/\hx b=ai then (16*oj a+oj b)::nG Uc r else c::nG Uc (a::b::r)
theorem xX (Uc:List Nat): ∀l:List Nat,(nG Uc l).length<=l.length+Uc.length
 |[]=>by simp [nG]
 |[c]=>by
  rw [nG];split<;>simp only [aU,bQ]<;>(first|exact mu (.l (.a xA xI) (.a (.a xJ xI) xA)) [_]|exact mu (.l xJ (.a (.a xJ xI) xA)) [_])
 |[c,a]=>by
  have:=xX Uc [a]
  rw [nG];simp only [aU,bQ] at this ⊢;exact (mu (.i (.l xA (.a (.a xJ xI) xB)) (.l (.a xA xI) (.a (.a (.a xJ xI) xI) xB))) [_,_]) this
 |c::a::b::r=>by
  have h1:=xX Uc r
  have h2:=xX Uc (a::b::r)
  rw [nG]
  simp only [aU] at h2 ⊢
  split<;>simp only [aU]<;>(first|exact (mu (.i (.l xA (.a (.a (.a xB xI) xI) xC)) (.l (.a xA xI) (.a (.a (.a (.a xB xI) xI) xI) xC))) [_,_,_]) h2|exact (mu (.i (.l xA (.a xB xC)) (.l (.a xA xI) (.a (.a (.a (.a xB xI) xI) xI) xC))) [_,_,_]) h1)
def oP (Ur:List Nat):List (List Nat):=(Txt.lines (S Ur)).map λx=>(Txt.rstrip x).cps.toList
def qP (Ur Uc:List Nat):List Nat:=(oP Ur).flatMap (nG Uc)
def vi (Ur Uc:List Nat):List Nat:=if [13,10].contains (Ur.getLastD 0)=false/\Txt.endswith (S (qP Ur Uc)) (S Uc)=ai then qX (qP Ur Uc) az (aa (-(Uc.length:Int))) else qP Ur Uc
theorem BK (x:Str):(Txt.rstrip x).cps.toList.length<=x.length:=by
 have:(Txt.rstrip x).length<=x.length:=by
  show (if _ then _ else _:Str).length<=_
  split
  ·exact aN _
  ·show (strSub _ _ _).length<=_
   unfold strSub fJ
   rw [Array.size_extract]
   exact mu (.l (.s (.n xA xB) xC) xB) [_,_,_]
 simpa [fJ] using this
theorem MV (Ur Uc:List Nat) (k:Nat):(((oP Ur).take k).flatMap (nG Uc)).length<=(Ur.length+1)*(1+Uc.length):=by
 have h:=fA (S Ur)
 rw [mV] at h
 have Uz: ∀l:List Str,((l.map λx=>(Txt.rstrip x).cps.toList).flatMap (nG Uc)).length<=((l.map (·.length)).sum+l.length)*(1+Uc.length):=by
  intro l
  induction l with
  |nil=>simp
  |cons x l ih=>
   have h1:=xX Uc (Txt.rstrip x).cps.toList
   have h2:=BK x
   simp only [ba,bg,af,d9,aU]
   have e:(x.length+(l.map (·.length)).sum+(l.length+1))*(1+Uc.length)=((l.map (·.length)).sum+l.length)*(1+Uc.length)+(x.length+1)*(1+Uc.length):=by
    rw [<-iy];congr 1;exact mu (.e (.a (.a xA xB) (.a xC xI)) (.a (.a xB xC) (.a xA xI))) [_,_,_]
   have e2:x.length+Uc.length<=(x.length+1)*(1+Uc.length):=by
    rw [iy,jG];exact mu (.l (.a xA xB) (.a (.a (.r xA 1) xC) (.m 1 (.a xI xB)))) [_,_,_]
   exact (mu (.i (.l xB xD) (.i (.l xA (.a xE xF)) (.i (.l xE xG) (.i (.e xC (.a xD xH)) (.i (.l (.a xG xF) xH) (.l (.a xA xB) xC)))))) [_,_,_,_,_,_,_,_]) ih h1 h2 e e2
 have e:(oP Ur).take k=((Txt.lines (S Ur)).take k).map λx=>(Txt.rstrip x).cps.toList:=by unfold oP;rw [iK]
 rw [e]
 refine cg (Uz _) (lB _ ?_)
 have h3: ∀(l:List Str) (k:Nat),((l.take k).map (·.length)).sum+(l.take k).length<=(l.map (·.length)).sum+l.length:=by
  intro l
  induction l with
  |nil=>intro k;simp
  |cons x l ih=>
   intro k
   cases k with
   |zero=>simp
   |succ k=>
    have:=ih k
    simp only [eM,ba,d9,aU]
    exact (mu (.i (.l (.a xB xC) (.a xD xE)) (.l (.a (.a xA xB) (.a xC xI)) (.a (.a xA xD) (.a xE xI)))) [_,_,_,_,_]) this
 have:=h3 (Txt.lines (S Ur)) k
 exact (mu (.i (.l (.a xD xE) (.a xC xI)) (.i (.l (.a xA xB) (.a xD xE)) (.l (.a xA xB) (.a xC xI)))) [_,_,_,_,_]) h this
theorem xV: ∀{l:List Nat},a∈l->a<=l.sum
 |x::l,h=>by
  rw [d9]
  rcases ao.mp h with e|e
  ·exact (mu (.i (.e xA xB) (.l xA (.a xB xC))) [_,_,_]) e
  ·have:=xV e;exact (mu (.i (.l xA xC) (.l xA (.a xB xC))) [_,_,_]) this
theorem xx (h:c≠61):nG Uc (c::r)=c::nG Uc r:=by
 match r with
 |[]=>simp [nG,h]
 |[a]=>simp [nG]
 |a::b::r=>rw [nG,if_neg λq=>h q.1]
theorem Dh:nG Uc [61]=[]:=by simp [nG]
theorem D6 (ha:hx a=ai) (hb:hx b=ai):nG Uc (61::a::b::r)=(16*oj a+oj b)::nG Uc r:=by
 rw [nG,if_pos ⟨rfl,ha,hb⟩]
theorem KA (hr:r≠[]) (h: ∀a b r',r=a::b::r'->(hx a&&hx b)=false):nG Uc (61::r)=61::nG Uc r:=by
 match r with
 |[]=>exact absurd rfl hr
 |[a]=>simp [nG]
 |a::b::r=>rw [nG,if_neg λq=>by have:=h a b r rfl;rw [q.2.1,q.2.2] at this;exact rj this]
noncomputable def Pr:ef->List ef
 |.For _ _ b _ _=>b
 |.While _ b _ _=>b
 |.If _ b _ _=>b
 |_=>[]
noncomputable def ni (l:List ef) (i:Nat):ef:=l.getD i (.Pass ku)
def QA:List ef:=Pr (ni (nU (nK 23)) 2)
def A2:List ef:=Pr (ni QA 4)
def NX:List ef:=match ni A2 1 with
 |.If _ _ [.If _ _ [.If _ _ o _] _] _=>o
 |_=>[]
noncomputable def Ch:List Nat:=(aS "0123456789abcdefABCDEF").cps.toList
theorem Hj (c:Nat):Ch.contains c=hx c:=by
 have h1: ∀x∈Ch,x∈pi:=by decide+kernel
 have h2: ∀x∈pi,x∈Ch:=by decide+kernel
 unfold hx
 rw [dE,hF,hF]
 exact ⟨h1 c,h2 c⟩
theorem J6 (h:hx c=ai):c∈pi:=hF.mp h
theorem AF {l:List Nat} (e:l.drop i=x::r):l[i]? =aa x/\l.drop (i+1)=r/\i<l.length:=by
 have hi:i<l.length:=by
  rcases dI i l.length with h|h
  ·exact h
  ·rw [fq h] at e;cases e
 rw [gw hi] at e
 cases e
 exact ⟨aA hi,rfl,hi⟩
theorem FS:rI ms w 2 97 [.str (S []),.str (S Uc)] (.str (S [])):=by
 refine t6 ["encoded","eol"] (ds:=[]) [] (B1 _) (λX h=>mJ.nil) (λs vs B e=> ?_) (λA X g L lx G=> ?_)
 ·refine rR (Fd e) λz z T0=> ?_;obtain rfl:=T0;exact .of_defaults rfl (B.frag 90 Nu (by kernel_rfl)) rfl (by with_unfolding_all rfl) (by with_unfolding_all rfl)
 ·refine m7 (d:=ai) (vc (b:=false) (rm (p:=.str (S [])) ?_ (tZ (by decide)))) (λz=> ?_) (λe=>by exact rj e)
  ·walk_at "ev"
  ·refine m9 ?_
   walk_at "ev"
set_option maxHeartbeats 1000000 in
theorem wZ (Uj:Ur≠[]) (he:Ur.length<=1000) (hE:Uc.length<=2):rI ms w 2 97 [.str (S Ur),.str (S Uc)] (.str (S (vi Ur Uc))):=by
 refine t6 ["encoded","eol"] (ds:=[]) [] (B1 _) (λX h=>mJ.nil) (λs vs B e=> ?_) (λA X g L lx G=> ?_)
 ·refine rR (Fd e) λz z T0=> ?_;obtain rfl:=T0;exact .of_defaults rfl (B.frag 90 Nu (by kernel_rfl)) rfl (by with_unfolding_all rfl) (by with_unfolding_all rfl)
 ·have hz:=aw
  have Ud:=fA (S Ur)
  rw [mV] at Ud
  have bound: ∀k,(((oP Ur).take k).flatMap (nG Uc)).length<=10000:=λk=>by
   have h1:(Ur.length+1)*(1+Uc.length)<=1001*3:=gr (by exact (mu (.i (.l xA xQ) (.l (.a xA xI) (.c 1001))) [_]) he) (by exact (mu (.i (.l xA xM) (.l (.a xI xA) xO)) [_]) hE)
   have:=MV Ur Uc k
   exact (mu (.i (.l xB (.m 1001 xO)) (.i (.l xA xB) (.l xA (.c 10000)))) [_,_]) h1 this
  have Xg:Ur.isEmpty=false:=by cases Ur with|nil=>exact absurd rfl Uj|cons=>rfl
  refine m7 (d:= !!Ur.isEmpty) (vc (rm (p:=.str (S Ur)) ?_ (tZ (by exact (mu (.i (.l xA xQ) (.l xA (.c 1000000))) [_]) he)))) (λe=>by rw [Xg] at e;exact o8 e) (λz=> ?_)
  ·walk_at "ev"
  refine mK (p:=.str (S [])) (m5 (by kernel_rfl)) ?_
  refine rK G (l:=Txt.lines (S Ur)) (V:=PV.str) (bs:=λx=>[("line",.str x)]) (λk=>("decoded",.str (S (((oP Ur).take k).flatMap (nG Uc))))::pZ ["encoded","eol"] [.str (S Ur),.str (S Uc)]) (λz=>[])
   (qD (qT (p:=.str (S Ur)) (T:="str") ?_ oh F.plainAttrs_str F.slot_str_splitlines F.type_str_splitlines (w9 (by rw [mV];exact (mu (.i (.l xA xQ) (.i (.e xB xL) (.l (.a xA xI) xB))) [_,_]) he hz))) G.room.1 (.inl ⟨_,_,rfl⟩) λb hb=>ax _ hb) rfl rfl (λa is z=>nO) (λk a g' is hk G'=> ?_) ?_
  ·walk_at "ev"
  ·have ea:(Txt.rstrip a)=S (Txt.rstrip a).cps.toList:=rfl
   have VB:a.length<=1001:=by
    have:a.length<=((Txt.lines (S Ur)).map (·.length)).sum:=xV (aK.mpr ⟨a,br hk,rfl⟩)
    exact (mu (.i (.l xB xQ) (.i (.l (.a xC xD) (.a xB xI)) (.i (.l xA xC) (.l xA (.c 1001))))) [_,_,_,_]) he Ud this
   have WR:=BK a
   have Wl:((oP Ur).take (k+1)).flatMap (nG Uc)=((oP Ur).take k).flatMap (nG Uc)++nG Uc (Txt.rstrip a).cps.toList:=by
    have:(oP Ur)[k]? =aa (Txt.rstrip a).cps.toList:=by unfold oP;rw [a7,hk];rfl
    rw [gA,this]
    simp
   have b1:=bound (k+1)
   rw [Wl,af] at b1
   have b2:=bound k
   generalize V5:((oP Ur).take k).flatMap (nG Uc)=Uw at*
   generalize hfull:((oP Ur).take (k+1)).flatMap (nG Uc)=full at*
   generalize hln:(Txt.rstrip a).cps.toList=ln at*
   have XD:ln.length<=1001:=by exact (mu (.i (.l xB (.c 1001)) (.i (.l xA xB) (.l xA (.c 1001)))) [_,_]) VB WR
   refine mK (p:=.str (S ln)) (qT (p:=.str a) (T:="str") ?_ oh F.plainAttrs_str F.slot_str_rstrip F.type_str_rstrip (qv (ID (by exact (mu (.i (.e xB xL) (.i (.l xA (.c 1001)) (.l xA xB))) [_,_]) hz VB)) (by rw [ea]))) ?_
   ·walk_at "ev"
   refine m7 (d:= !!ln.isEmpty) (vc (rm (p:=.str (S ln)) ?_ (tZ (by exact (mu (.i (.l xA (.c 1001)) (.l xA (.c 1000000))) [_]) XD)))) (λe=> ?_) (λe=> ?_)
   ·walk_at "ev"
   ·have:ln=[]:=by cases ln with|nil=>rfl|cons=>exact o8 e
    subst this
    refine tt (p:=.str (S Uw)) (q:=.str (S Uc)) (r:=.str (S full)) ?_ ?_ ?_ (Ks ?_)
    ·walk_at "lk"
    ·walk_at "ev"
    ·rw [Wl,show nG Uc []=Uc from rfl]
     exact sG (by exact (mu (.i (.l xB xM) (.i (.e xC xL) (.i (.l xA (.c 10000)) (.l (.a xA xB) xC)))) [_,_,_]) hE hz b2)
    ·walk_at "has"
   refine mK (p:=.int 0) mM ?_
   refine mK (p:=.int ln.length) (n9 G' (ps:=[.str (S ln)]) (by kernel_rfl) (by kernel_rfl) (my ?_ mH) (qv (uU (by rw [mV];exact (mu (.i (.l xA (.c 1001)) (.l xA (.c 1000000))) [_]) XD)) (by rw [mV]))) ?_
   ·walk_at "ev"
   let Vs:Nat×List Nat->mW:=λq=>[("i",.int (q.1:Nat)),("decoded",.str (S q.2)),("n",.int (ln.length:Nat)),("line",.str (S ln)),("encoded",.str (S Ur)),("eol",.str (S Uc))]
   let Pw:Nat×List Nat->Prop:=λq=>(q.1<ln.length/\q.2++nG Uc (ln.drop q.1)=full)\/(q.1=ln.length/\q.2=full)
   have hln:ln≠[]:=by rintro rfl;exact rj e
   refine o0 (σ':=Vs (0,Uw)) (by walk_at "has") ?_
   refine Dk (ι:=Nat×List Nat) Pw Vs (λz=>[]) (λq=>ln.length - q.1) (λq=>decide (((q.1:Nat):Int)<(ln.length:Nat))) (0,Uw) (.inl ⟨dP.mpr hln,by exact eD▸Wl.symm⟩) rfl rfl (λq hq=> ?_) (λq hq ht=> ?_) (λq hq ht=> ?_)
   ·refine mX (p:=.int (q.1:Nat)) (q:=.int (ln.length:Nat)) ?_ ?_ rA<;>walk_at "ev"
   ·obtain ⟨i,d⟩:=q
    have hi:i<ln.length:=by have:=of_decide_eq_true ht;exact (mu (.i (.B (.k xA) (.k xB)) (.b xA xB)) [_,_]) this
    have hd:d++nG Uc (ln.drop i)=full:=by
     rcases hq with q|q
     ·exact q.2
     ·exact absurd q.1 (di hi)
    obtain ⟨x,r,Wv⟩: ∃x r,ln.drop i=x::r:=by
     cases h:ln.drop i with
     |nil=>have:=congrArg bj h;rw [bH] at this;simp at this;exact ((mu (.i (.b xA xB) (.n (.e (.s xB xA) xJ))) [_,_]) hi this).elim
     |cons x r=>exact ⟨x,r,rfl⟩
    refine rN (AF Wv) λU5 hr1 z=> ?_
    have Vz:d.length<=10000:=by
     have:=congrArg bj hd
     rw [af] at this
     have b3:=bound (k+1)
     rw [hfull] at b3
     exact (mu (.i (.e (.a xA xB) xC) (.i (.l xC (.c 10000)) (.l xA (.c 10000)))) [_,_,_]) this b3
    have tail: ∀(i':Nat) (d':List Nat),i<i'->i'<=ln.length->d'++nG Uc (ln.drop i')=full->
      mS ms w ((Sc.addX (mU w4 97 A X [] g L) is).at g').env ((Sc.addX (mU w4 97 A X [] g L) is).at g').A (In ((Sc.addX (mU w4 97 A X [] g L) is).at g') (Vs (i',d')) []) (A2.drop 2)
       (λfl h=>(fl= .next\/fl= .cont)/\ ∃j,Pw j/\ln.length - j.1<ln.length - (i,d).1/\In ((Sc.addX (mU w4 97 A X [] g L) is).at g') (Vs j) [] h):=λi' d' h1 h2 h3=>by
     have hfl':d'.length<=10000:=by
      have:=congrArg bj h3
      rw [af] at this
      have b3:=bound (k+1)
      rw [hfull] at b3
      exact (mu (.i (.e (.a xA xB) xC) (.i (.l xC (.c 10000)) (.l xA (.c 10000)))) [_,_,_]) this b3
     refine m7 (d:=((i':Nat):Int)==(ln.length:Nat)) (mX (p:=.int (i':Nat)) (q:=.int (ln.length:Nat)) ?_ ?_ pY) (λc=> ?_) (λc=> ?_)
     ·walk_at "ev"
     ·walk_at "ev"
     ·have e:i'=ln.length:=by have:=gC c;exact (mu (.i (.E (.k xA) (.k xB)) (.e xA xB)) [_,_]) this
      rw [e,fq (aN _),show nG Uc []=Uc from rfl] at h3
      refine tt (p:=.str (S d')) (q:=.str (S Uc)) (r:=.str (S full)) ?_ ?_ (h3▸sG (by exact (mu (.i (.l xB xM) (.i (.e xC xL) (.i (.l xA (.c 10000)) (.l (.a xA xB) xC)))) [_,_,_]) hE hz hfl')) (Gw (i:=(i,d)) (ln.length,full) (.inr ⟨rfl,rfl⟩) (by exact (mu (.i (.b xB xA) (.b (.s xA xA) (.s xA xB))) [_,_]) hi) rfl ?_)
      ·walk_at "lk"
      ·walk_at "ev"
      ·rw [e];walk_at "has"
     ·have e:i'≠ln.length:=by have:=ne_of_beq_false c;exact (mu (.i (.n (.E (.k xA) (.k xB))) (.n (.e xA xB))) [_,_]) this
      exact Gw (i:=(i,d)) (i',d') (.inl ⟨by exact (mu (.i (.l xA xB) (.i (.n (.e xA xB)) (.b xA xB))) [_,_]) h2 e,h3⟩) (by exact (mu (.i (.b xC xB) (.i (.l xB xA) (.b (.s xA xB) (.s xA xC)))) [_,_,_]) h1 h2) rfl (by walk_at "has")
    refine mK (p:=.str (S [x])) (nj (p:=.str (S ln)) (q:=.int (i:Nat)) ?_ ?_ (qL (by exact mu (.L xJ (.k xA)) [_]) (by simpa using U5) (by exact (mu (.i (.l xB (.c 1001)) (.i (.b xA xB) (.B (.k xA) xS))) [_,_]) XD hi))) ?_
    ·walk_at "ev"
    ·walk_at "ev"
    refine m7 (d:=([x]!=[61])) (mX (p:=.str (S [x])) (q:=.str (S [61])) ?_ ?_ t7) (λc=> ?_) (λc=> ?_)
    ·walk_at "ev"
    ·exact m5 (by kernel_rfl)
    ·have hne61:x≠61:=by rintro rfl;exact o8 c
     refine tt (p:=.str (S d)) (q:=.str (S [x])) (r:=.str (S (d++[x]))) ?_ ?_ (sG (by simp;exact (mu (.i (.e xB xL) (.i (.l xA (.c 10000)) (.l (.a xA xI) xB))) [_,_]) hz Vz)) ?_
     ·walk_at "lk"
     ·walk_at "ev"
     refine tt (p:=.int (i:Nat)) (q:=.int 1) (r:=.int ((i+1:Nat):Int)) ?_ ?_ sE ?_
     ·walk_at "lk"
     ·walk_at "ev"
     refine o0 ?_ (tail (i+1) (d++[x]) (by exact mu (.b xA (.a xA xI)) [_]) (by exact (mu (.i (.b xA xB) (.l (.a xA xI) xB)) [_,_]) hi) ?_)
     ·walk_at "has"
     ·rw [hr1,aJ,<-hd,Wv,xx hne61];rfl
    have hx61:x=61:=by
     by_cases h:x=61
     ·exact h
     ·have:([x]!=[61])=ai:=by simp [h]
      rw [this] at c;exact rj c
    subst hx61
    have US:ln.length=i+1+r.length:=by have:=congrArg bj Wv;rw [bH] at this;simp at this;exact (mu (.i (.e (.s xA xB) (.a xC xI)) (.e xA (.a (.a xB xI) xC))) [_,_,_]) this
    cases r with
    |nil=>
     simp only [bQ] at US
     refine m7 (d:=((i:Nat):Int)+1==(ln.length:Nat)) (mX (p:=.int ((i:Nat)+1)) (q:=.int (ln.length:Nat)) ?_ ?_ pY) (λc=> ?_) (λc=> ?_)
     ·walk_at "ev"
     ·walk_at "ev"
     ·refine tt (p:=.int (i:Nat)) (q:=.int 1) (r:=.int ((i+1:Nat):Int)) ?_ ?_ sE (O5 (i:=(i,d)) (i+1,d) (.inr ⟨by exact (mu (.i (.e xB (.a (.a xA xI) xJ)) (.e (.a xA xI) xB)) [_,_]) US,?_⟩) (by exact (mu (.i (.e xA (.a (.a xB xI) xJ)) (.b (.s xA (.a xB xI)) (.s xA xB))) [_,_]) US) rfl ?_)
      ·walk_at "lk"
      ·walk_at "ev"
      ·rw [Wv,Dh,bK] at hd;exact hd
      ·walk_at "has"
     ·have:=ne_of_beq_false c;exact ((mu (.i (.e xA (.a (.a xB xI) xJ)) (.n (.n (.E (.a (.k xB) xI) (.k xA))))) [_,_]) US this).elim
    |cons a r=>
     simp only [aU] at US
     refine rN (AF hr1) λha1 hr2 z=> ?_
     have WP:(∀a' b r',a::r=a'::b::r'->(hx a'&&hx b)=false)->
       mS ms w ((Sc.addX (mU w4 97 A X [] g L) is).at g').env ((Sc.addX (mU w4 97 A X [] g L) is).at g').A (In ((Sc.addX (mU w4 97 A X [] g L) is).at g') (("c",.str (S [61]))::Vs (i,d)) []) (NX++A2.drop 2)
        (λfl h=>(fl= .next\/fl= .cont)/\ ∃j,Pw j/\ln.length - j.1<ln.length - (i,d).1/\In ((Sc.addX (mU w4 97 A X [] g L) is).at g') (Vs j) [] h):=λUL=>by
      refine tt (p:=.str (S d)) (q:=.str (S [61])) (r:=.str (S (d++[61]))) ?_ ?_ (sG (by simp;exact (mu (.i (.e xB xL) (.i (.l xA (.c 10000)) (.l (.a xA xI) xB))) [_,_]) hz Vz)) ?_
      ·walk_at "lk"
      ·walk_at "ev"
      refine tt (p:=.int (i:Nat)) (q:=.int 1) (r:=.int ((i+1:Nat):Int)) ?_ ?_ sE ?_
      ·walk_at "lk"
      ·walk_at "ev"
      refine o0 ?_ (tail (i+1) (d++[61]) (by exact mu (.b xA (.a xA xI)) [_]) (by exact (mu (.i (.e xB (.a (.a xA xI) (.a xC xI))) (.l (.a xA xI) xB)) [_,_,_]) US) ?_)
      ·walk_at "has"
      ·rw [hr1,aJ,<-hd,Wv,KA (by simp) UL];rfl
     refine m7 (d:=((i:Nat):Int)+1==(ln.length:Nat)) (mX (p:=.int ((i:Nat)+1)) (q:=.int (ln.length:Nat)) ?_ ?_ pY) (λc=> ?_) (λz=> ?_)
     ·walk_at "ev"
     ·walk_at "ev"
     ·have:=gC c;exact ((mu (.i (.e xA (.a (.a xB xI) (.a xC xI))) (.n (.E (.a (.k xB) xI) (.k xA)))) [_,_,_]) US this).elim
     cases r with
     |nil=>
      simp only [bQ] at US
      refine m7 (d:=decide (((i:Nat):Int)+2<(ln.length:Nat))&&ai) (A9 (rC (mX (p:=.int ((i:Nat)+2)) (q:=.int (ln.length:Nat)) ?_ ?_ rA) λh=> ?_)) (λc=> ?_) (λz=> ?_)
      ·walk_at "ev"
      ·walk_at "ev"
      ·have:=of_decide_eq_true h;exact ((mu (.i (.e xA (.a (.a xB xI) (.a xJ xI))) (.n (.B (.a (.k xB) xM) (.k xA)))) [_,_]) US this).elim
      ·have:=of_decide_eq_true (aP.mp c).1;exact ((mu (.i (.e xA (.a (.a xB xI) (.a xJ xI))) (.n (.B (.a (.k xB) xM) (.k xA)))) [_,_]) US this).elim
      ·exact WP λz z z e=>by cases e
     |cons b r=>
      simp only [aU] at US
      refine rN (AF hr2) λVP hr3 z=> ?_
      have hxT: ∀h,mO ((Sc.addX (mU w4 97 A X [] g L) is).at g').X h (.str (S Ch)) (.str (.ofString "0123456789abcdefABCDEF") 1334):=λh=>og
      refine m7 (d:=decide (((i:Nat):Int)+2<(ln.length:Nat))&&(hx a&&(hx b&&ai))) (A9 (rC (mX (p:=.int ((i:Nat)+2)) (q:=.int (ln.length:Nat)) ?_ ?_ rA) λz=>
       rC (mX (p:=.str (S [a])) (q:=.str (S Ch)) (nj (p:=.str (S ln)) (q:=.int ((i:Nat)+1)) ?_ ?_ (qL (by exact mu (.L xJ (.a (.k xA) xI)) [_]) ?_ (by exact (mu (.i (.l xB (.c 1001)) (.i (.e xB (.a (.a xA xI) (.a (.a xC xI) xI))) (.B (.a (.k xA) xI) xS))) [_,_,_]) XD US))) (ue G' (v:=.str (.ofString "0123456789abcdefABCDEF") 1334) (by kernel_rfl) hxT) (sV wC (by rw [sR,Hj]))) λz=>
       rC (mX (p:=.str (S [b])) (q:=.str (S Ch)) (nj (p:=.str (S ln)) (q:=.int ((i:Nat)+2)) ?_ ?_ (qL (by exact mu (.L xJ (.a (.k xA) xM)) [_]) ?_ (by exact (mu (.i (.l xB (.c 1001)) (.i (.e xB (.a (.a xA xI) (.a (.a xC xI) xI))) (.B (.a (.k xA) xM) xS))) [_,_,_]) XD US))) (ue G' (v:=.str (.ofString "0123456789abcdefABCDEF") 1334) (by kernel_rfl) hxT) (sV wC (by rw [sR,Hj]))) λz=>CY)) (λc=> ?_) (λc=> ?_)
      ·walk_at "ev"
      ·walk_at "ev"
      ·walk_at "ev"
      ·walk_at "ev"
      ·exact (show (((i:Nat):Int)+1).toNat=i+1 by exact mu (.e (.t (.a (.k xA) xI)) (.a xA xI)) [_])▸ha1
      ·walk_at "ev"
      ·walk_at "ev"
      ·exact (show (((i:Nat):Int)+2).toNat=i+1+1 by exact mu (.e (.t (.a (.k xA) xM)) (.a (.a xA xI) xI)) [_])▸VP
      ·rw [bI,bI,bI] at c
       have ha:=c.2.1
       have hb:=c.2.2.1
       refine tt (p:=.str (S d)) (q:=.str (S [16*oj a+oj b])) (r:=.str (S (d++[16*oj a+oj b]))) ?_
        (oE G' (ps:=[.str (S [61,a,b])]) (by kernel_rfl) (Q7 _).e (my (mP (qw (l:=ln) (lo:=aa ((i:Nat):Int)) (hi:=aa ((i:Nat)+3)) ?_ (nW ?_) (nW ?_) (by exact (mu (.i (.e xB xL) (.i (.l xA (.c 1001)) (.l xA xB))) [_,_]) hz XD)) ?_) mH) (Ee (J6 ha) (J6 hb))) (sG (by simp;exact (mu (.i (.e xB xL) (.i (.l xA (.c 10000)) (.l (.a xA xI) xB))) [_,_]) hz Vz)) ?_
       ·walk_at "lk"
       ·walk_at "ev"
       ·walk_at "ev"
       ·walk_at "ev"
       ·rw [show ((i:Nat):Int)+3=((i+3:Nat):Int) by exact mu (.E (.a (.k xA) xO) (.k (.a xA xO))) [_],BM,Wv,show i+3 - i=3 by exact mu (.e (.s (.a xA xO) xA) xO) [_]];rfl
       refine tt (p:=.int (i:Nat)) (q:=.int 3) (r:=.int ((i+3:Nat):Int)) ?_ ?_ sE ?_
       ·walk_at "lk"
       ·walk_at "ev"
       refine o0 ?_ (tail (i+3) (d++[16*oj a+oj b]) (by exact mu (.b xA (.a xA xO)) [_]) (by exact (mu (.i (.e xB (.a (.a xA xI) (.a (.a xC xI) xI))) (.l (.a xA xO) xB)) [_,_,_]) US) ?_)
       ·walk_at "has"
       ·rw [hr3,aJ,<-hd,Wv,D6 ha hb];rfl
      ·refine WP λa' b' r' e=> ?_
       cases e
       have:decide (((i:Nat):Int)+2<(ln.length:Nat))=ai:=decide_eq_true (by exact (mu (.i (.e xB (.a (.a xA xI) (.a (.a xC xI) xI))) (.B (.a (.k xA) xM) (.k xB))) [_,_,_]) US)
       rw [this,Bool.true_and,Bool.and_true] at c
       exact c
   ·obtain ⟨i,d⟩:=q
    have: ¬i<ln.length:=λh=>by have:=of_decide_eq_false ht;exact (mu (.i (.b xA xB) (.n (.n (.B (.k xA) (.k xB))))) [_,_]) h this
    have hd:d=full:=by
     rcases hq with q|q
     ·exact absurd q.1 this
     ·exact q.2
    subst hd
    exact qK (by walk_at "has")
  ·have e1:((oP Ur).take (Txt.lines (S Ur)).length).flatMap (nG Uc)=qP Ur Uc:=by
    unfold qP
    rw [bF (by unfold oP;rw [ah];exact aN _)]
   have b1:=bound (Txt.lines (S Ur)).length
   rw [e1] at b1 ⊢
   have Uo:Ur.getLast? =aa (Ur.getLastD 0):=by
    have h0:Ur.getLast? =aa (Ur.getLast Uj):=c7 Uj
    rw [gv,h0];rfl
   refine m7 (d:=(!([13,10].contains (Ur.getLastD 0)))&&(Txt.endswith (S (qP Ur Uc)) (S Uc)&&ai)) (A9 (rC (mX (p:=.str (S [Ur.getLastD 0])) (q:=.str (S [13,10])) (nj (p:=.str (S Ur)) (q:=.int (-1)) ?_ (rW (p:=.int 1) mM oB) (tK Uo)) ?_ (sV D3 (by rw [sR]))) λz=>
    rC (rm (p:=.bool (Txt.endswith (S (qP Ur Uc)) (S Uc))) (re (p:=.str (S (qP Ur Uc))) (T:="str") ?_ oh F.plainAttrs_str F.slot_str_endswith F.type_str_endswith (my ?_ mH) FO) qt) λz=>CY)) (λc=> ?_) (λc=> ?_)
   ·walk_at "ev"
   ·exact m5 (by kernel_rfl)
   ·walk_at "ev"
   ·walk_at "ev"
   ·rw [Bool.and_true,bI] at c
    refine mK (p:=.str (S (vi Ur Uc))) (mP (qw (l:=qP Ur Uc) (lo:=az) (hi:=aa (-(Uc.length:Int))) ?_ rJ (nW (rW (n9 G (ps:=[.str (S Uc)]) (by kernel_rfl) (by kernel_rfl) (my ?_ mH) (qv (uU (by rw [mV];exact (mu (.i (.l xA xM) (.l xA (.c 1000000))) [_]) hE)) (by rw [mV]))) oB)) (by exact (mu (.i (.e xB xL) (.i (.l xA (.c 10000)) (.l xA xB))) [_,_]) hz b1)) ?_) ?_
    ·walk_at "ev"
    ·walk_at "ev"
    ·unfold vi
     rw [if_pos ⟨by simpa using c.1,c.2⟩]
    ·refine m9 ?_
     walk_at "ev"
   ·have:vi Ur Uc=qP Ur Uc:=by
     unfold vi
     refine if_neg λq=> ?_
     rw [q.1,q.2] at c
     exact rj c
    rw [this]
    refine m9 ?_
    walk_at "ev"
end
section
variable {w:av}
def nR (k:Nat):List Nat:=if (xZ++[13,10]).contains k then [k] else ph k
theorem Ta:(KB P).lookup 78=aa NB:=by kernel_rfl
theorem R6:(uY (uY (Ak 256) xZ 1552) [13,10] 1863).map DM=((ag 256).map nR).map aa:=by kernel_rfl
theorem AW (k:Nat):1<=(nR k).length/\(nR k).length<=3:=by
 unfold nR
 split
 ·simp
 ·simp [ph]
noncomputable def qY (w:Nat) (r:List Nat):Nat:=if r.getD (w - 3) 0=61 then w - 3 else if r.getD (w - 2) 0=61 then w - 2 else w - 1
noncomputable def rF (w:Nat):Nat->List Nat->List (List Nat)
 |0,r=>[r]
 |f+1,r=>if w+1<=r.length then (r.take (qY w r)++[61])::rF w f (r.drop (qY w r)) else [r]
theorem Ca (w:Nat) (r:List Nat) (hw:4<=w):1<=qY w r/\qY w r<=w - 1:=by
 unfold qY
 split
 ·exact (mu (.i (.l xK xA) (.a (.l xI (.s xA xO)) (.l (.s xA xO) (.s xA xI)))) [_]) hw
 ·split<;>(first|exact (mu (.i (.l xK xA) (.a (.l xI (.s xA xI)) (.l (.s xA xI) (.s xA xI)))) [_]) hw|exact (mu (.i (.l xK xA) (.a (.l xI (.s xA xM)) (.l (.s xA xM) (.s xA xI)))) [_]) hw)
theorem Jo {w f:Nat} (h: ¬w+1<=r.length):rF w f r=[r]:=by
 cases f with
 |zero=>rfl
 |succ f=>rw [rF,if_neg h]
theorem Bu (w:Nat) (hw:4<=w): ∀(f:Nat) (r:List Nat),r.length<=f->(rF w f r).length<=r.length+1/\(rF w f r).flatten.length<=2*r.length
 |0,r,h=>by simp [rF];exact mu (.l xA (.m 2 xA)) [_]
 |f+1,r,h=>by
  have hc:=Ca w r hw
  rw [rF]
  split
  ·have ih:=Bu w hw f (r.drop (qY w r)) (by rw [bH];exact (mu (.i (.l xA (.a xC xI)) (.i (.l xI xB) (.l (.s xA xB) xC))) [_,_,_]) h hc.1)
   rw [bH] at ih
   simp only [aU,cu,af,dk,bQ]
   exact (mu (.i (.l xI xC) (.i (.l (.a xE xI) xB) (.i (.l xA (.a (.s xB xC) xI)) (.i (.l xD (.m 2 (.s xB xC))) (.a (.l (.a xA xI) (.a xB xI)) (.l (.a (.a (.n xC xB) (.a xJ xI)) xD) (.m 2 xB))))))) [_,_,_,_,_]) hc.1 (by assumption) ih.1 ih.2
  ·simp;exact mu (.l xA (.m 2 xA)) [_]
def pU (w:Nat) (T:List Nat):List (List Nat):=(Txt.lines (S T)).flatMap λx=>rF w x.length x.cps.toList
def wf (w:Nat) (T:List Nat):List (List Nat):=pU w T++if [13,10].contains (T.getLastD 0) then [[]] else []
def qO (w:Nat) (T Uc:List Nat):List Nat:=(Txt.join (S Uc) ((wf w T).map S)).cps.toList
def Qm (T:List Nat):Prop:= ∀x∈Txt.lines (S T),[32,9].contains (x.cps.toList.getLastD 0)=false
theorem vX (w:Nat) (T:List Nat) (hw:4<=w) (k:Nat):(((Txt.lines (S T)).take k).flatMap λx=>rF w x.length x.cps.toList).length<=T.length+1/\(((Txt.lines (S T)).take k).flatMap λx=>rF w x.length x.cps.toList).flatten.length<=2*(T.length+1):=by
 have h:=fA (S T)
 rw [mV] at h
 have Uz: ∀l:List Str,(l.flatMap λx=>rF w x.length x.cps.toList).length<=(l.map (·.length)).sum+l.length/\(l.flatMap λx=>rF w x.length x.cps.toList).flatten.length<=2*(l.map (·.length)).sum:=by
  intro l
  induction l with
  |nil=>simp
  |cons x l ih=>
   have e:x.cps.toList.length=x.length:=by simp [fJ]
   have:=Bu w hw x.length x.cps.toList (by exact (mu (.i (.e xA xB) (.l xA xB)) [_,_]) e)
   rw [e] at this
   simp only [bg,af,eN,ba,d9,aU]
   exact (mu (.i (.l xB (.a xD xE)) (.i (.l xG (.m 2 xD)) (.i (.l xA (.a xC xI)) (.i (.l xF (.m 2 xC)) (.a (.l (.a xA xB) (.a (.a xC xD) (.a xE xI))) (.l (.a xF xG) (.m 2 (.a xC xD)))))))) [_,_,_,_,_,_,_]) ih.1 ih.2 this.1 this.2
 have h3: ∀(l:List Str) (k:Nat),((l.take k).map (·.length)).sum+(l.take k).length<=(l.map (·.length)).sum+l.length:=by
  intro l
  induction l with
  |nil=>intro k;simp
  |cons x l ih=>
   intro k
   cases k with
   |zero=>simp
   |succ k=>
    have:=ih k
    simp only [eM,ba,d9,aU]
    exact (mu (.i (.l (.a xB xC) (.a xD xE)) (.l (.a (.a xA xB) (.a xC xI)) (.a (.a xA xD) (.a xE xI)))) [_,_,_,_,_]) this
 have h1:=Uz ((Txt.lines (S T)).take k)
 have h2:=h3 (Txt.lines (S T)) k
 exact (mu (.i (.l (.a xD xE) (.a xB xI)) (.i (.l xA (.a xF xG)) (.i (.l xC (.m 2 xF)) (.i (.l (.a xF xG) (.a xD xE)) (.a (.l xA (.a xB xI)) (.l xC (.m 2 (.a xB xI)))))))) [_,_,_,_,_,_,_]) h h1.1 h1.2 h2
theorem DG {mw:Nat} (hw:4<=mw):rI ms w 2 89 [.str (S []),.int mw,.str (S Uc)] (.str (S [])):=by
 refine t6 ["body","maxlinelen","eol"] (ds:=[]) [] (CA _) (λX h=>mJ.nil) (λs vs B e=> ?_) (λA X g L lx G=> ?_)
 ·refine vk (vo e) λz z z T0=> ?_;obtain rfl:=T0;exact .of_defaults rfl (B.frag 82 JV (by kernel_rfl)) rfl (by with_unfolding_all rfl) (by with_unfolding_all rfl)
 ·refine m7 (d:=decide ((mw:Int)<4)) (mX (p:=.int mw) (q:=.int 4) ?_ ?_ rA) (λc=>absurd (of_decide_eq_true c) (by exact (mu (.i (.l xK xA) (.n (.B (.k xA) xK))) [_]) hw)) (λz=> ?_)
  ·walk_at "ev"
  ·walk_at "ev"
  refine m7 (d:=ai) (vc (b:=false) (rm (p:=.str (S [])) ?_ (tZ (by decide)))) (λz=> ?_) (λe=>by exact rj e)
  ·walk_at "ev"
  ·refine m9 ?_
   walk_at "ev"
set_option maxHeartbeats 1000000 in
theorem Ef {mw:Nat} (Uj:body≠[]) (hb: ∀c∈body,c<256) (Ud:body.length<=300) (hE:Uc.length<=2) (hw:4<=mw) (hw2:mw<=1000) (ht:Qm (body.flatMap nR)):
  rI ms w 2 89 [.str (S body),.int mw,.str (S Uc)] (.str (S (qO mw (body.flatMap nR) Uc))):=by
 refine t6 ["body","maxlinelen","eol"] (ds:=[]) [] (CA _) (λX h=>mJ.nil) (λs vs B e=> ?_) (λA X g L lx G=> ?_)
 ·refine vk (vo e) λz z z T0=> ?_;obtain rfl:=T0;exact .of_defaults rfl (B.frag 82 JV (by kernel_rfl)) rfl (by with_unfolding_all rfl) (by with_unfolding_all rfl)
 ·have hz:=aw
  have hsum:(body.map λc=>(nR c).length).sum<=3*body.length:=by
   clear Uj hb Ud ht
   induction body with
   |nil=>simp
   |cons c b ih=>
    have:=AW c
    simp only [ba,d9,aU]
    exact (mu (.i (.l xB (.m 3 xC)) (.i (.l xA xO) (.l (.a xA xB) (.m 3 (.a xC xI))))) [_,_,_]) ih this.2
  have XE:(body.flatMap nR).length<=900:=by rw [fY];exact (mu (.i (.l xB (.c 300)) (.i (.l xA (.m 3 xB)) (.l xA (.c 900)))) [_,_]) Ud hsum
  have hTne:body.flatMap nR≠[]:=by
   cases body with
   |nil=>exact absurd rfl Uj
   |cons c b=>
    intro e
    have:=congrArg bj e
    rw [bg,af] at this
    have:=(AW c).1
    rw [bQ] at*
    exact (mu (.i (.e (.a xA xB) xJ) (.n (.l xI xA))) [_,_]) (by assumption) this
  have Xg:body.isEmpty=false:=by cases body with|nil=>exact absurd rfl Uj|cons=>rfl
  refine m7 (d:=decide ((mw:Int)<4)) (mX (p:=.int mw) (q:=.int 4) ?_ ?_ rA) (λc=>absurd (of_decide_eq_true c) (by exact (mu (.i (.l xK xA) (.n (.B (.k xA) xK))) [_]) hw)) (λz=> ?_)
  ·walk_at "ev"
  ·walk_at "ev"
  refine m7 (d:= !!body.isEmpty) (vc (rm (p:=.str (S body)) ?_ (tZ (by exact (mu (.i (.l xA (.c 300)) (.l xA (.c 1000000))) [_]) Ud)))) (λe=>by rw [Xg] at e;exact o8 e) (λz=> ?_)
  ·walk_at "ev"
  refine mK (p:=.str (S (body.flatMap nR))) (re (p:=.str (S body)) (T:="str") ?_ oh F.plainAttrs_str F.slot_str_translate F.type_str_translate (my (p:=.list ((ag 256).map λk=>.str (S (nR k)))) ?_ mH) (yA hb (by exact (mu (.i (.l xB (.c 300)) (.i (.l xA (.m 3 xB)) (.l xA (.c 100000)))) [_,_]) Ud hsum) (λc z=>(AW c).1))) ?_
  ·walk_at "ev"
  ·refine mP (vS (ps:=((ag 256).map nR).map λl=>.str (S l)) G.base (λh i=>G.offX i) G.gl G.fn (by kernel_rfl) Ta ⟨rfl,_,rfl⟩ (λh=>yi R6)) ?_
   rw [aB];rfl
  generalize body.flatMap nR=T at*
  refine mK (p:=.str (S (61::Uc))) (mI (p:=.str (S [61])) (q:=.str (S Uc)) (m5 (by kernel_rfl)) ?_ (ou (by simp;exact (mu (.i (.l xA xM) (.i (.e xB xL) (.l (.a xI xA) xB))) [_,_]) hE hz))) ?_
  ·walk_at "ev"
  refine mK (p:=.int ((mw:Int) - 1)) (by walk_at "ev") ?_
  refine w2 λD gD nD=> ?_
  refine F1 (D:=D) (by walk_at "lk") ⟨_,.head _,rfl⟩ λm g1 k1 hm=> ?_
  have G1:=(G.addOwn D).at' k1
  let U7:List (List Nat)->List PV:=λUs=>(Us.map S).map PV.str
  let Vs0:mW:=[("append",.raw (.ref m)),("encoded_body",.raw (.ref D)),("maxlinelen1",.int ((mw:Int) - 1)),("maxlinelen",.int mw),("body",.str (S T)),("eol",.str (S Uc))]
  let Us:Nat->List (List Nat):=λk=>((Txt.lines (S T)).take k).flatMap λx=>rF mw x.length x.cps.toList
  have bound: ∀k,(Us k).length<=1000:=λk=>by have:=(vX mw T hw k).1;exact (mu (.i (.l xB (.c 900)) (.i (.l xA (.a xB xI)) (.l xA xQ))) [_,_]) XE this
  refine o0 (σ':=Vs0) (by walk_at "has") ?_
  refine vQ G1 (l:=Txt.lines (S T)) (V:=PV.str) (bs:=λx=>[("line",.str x)]) (λz=>Vs0) (λk=>[(D,U7 (Us k))])
   (qD (qT (p:=.str (S T)) (T:="str") ?_ oh F.plainAttrs_str F.slot_str_splitlines F.type_str_splitlines (w9 (by rw [mV];exact (mu (.i (.e xB xL) (.i (.l xA (.c 900)) (.l (.a xA xI) xB))) [_,_]) hz XE))) G1.room.1 (.inl ⟨_,_,rfl⟩) λb hb=>ax _ hb) rfl rfl (λa is z=>nO) (λk a g' is hk G' kg=> ?_) ?_
  ·walk_at "ev"
  ·have hm':g'.get? m=aa (BA.bound D):=kg _ _ hm
   have hak:Us (k+1)=Us k++rF mw a.length a.cps.toList:=by
    show List.flatMap _ (List.take (k+1) _)=_
    rw [gA,hk];simp [Us]
   have b1:=bound (k+1)
   have hlw:=fA (S T)
   rw [mV] at hlw
   have VB:a.length<=901:=by
    have:a.length<=((Txt.lines (S T)).map (·.length)).sum:=xV (aK.mpr ⟨a,br hk,rfl⟩)
    exact (mu (.i (.l xB (.c 900)) (.i (.l (.a xC xD) (.a xB xI)) (.i (.l xA xC) (.l xA (.c 901))))) [_,_,_,_]) XE hlw this
   have htr:=ht a (br hk)
   have ea:a=S a.cps.toList:=rfl
   have el:a.length=a.cps.toList.length:=by simp [fJ]
   rw [el] at hak VB
   generalize a.cps.toList=ln at*
   subst ea
   generalize hfull:Us (k+1)=full at*
   generalize V5:Us k=Uw at*
   let Vl:mW:=("laststart",.int ((ln.length:Int) - 1 - mw))::("line",.str (S ln))::Vs0
   refine mK (p:=.int 0) mM ?_
   refine mK (p:=.int ((ln.length:Int) - 1 - mw)) (mI (p:=.int ((ln.length:Int) - 1)) (q:=.int mw) (mI (p:=.int (ln.length:Nat)) (q:=.int 1) (n9 G' (ps:=[.str (S ln)]) (by kernel_rfl) (by kernel_rfl) (my ?_ mH) (qv (uU (by rw [mV];exact (mu (.i (.l xA (.c 901)) (.l xA (.c 1000000))) [_]) VB)) (by rw [mV]))) mM nI) ?_ nI) ?_
   ·walk_at "ev"
   ·walk_at "ev"
   let Pw:Nat×List (List Nat)->Prop:=λq=>q.1<=ln.length/\ ∃f,ln.length - q.1<=f/\q.2++rF mw f (ln.drop q.1)=full
   refine o0 (σ':=("start",.int ((0:Nat):Int))::Vl) (by walk_at "has") ?_
   refine Dk (ι:=Nat×List (List Nat)) Pw (λq=>("start",.int ((q.1:Nat):Int))::Vl) (λq=>[(D,U7 q.2)]) (λq=>ln.length - q.1) (λq=>decide (((q.1:Nat):Int)<=(ln.length:Int) - 1 - mw)) (0,Uw) ⟨cx _,ln.length,by exact mu (.l (.s xA xB) xA) [_,_],by rw [eD];exact hak.symm⟩ rfl rfl (λq hq=> ?_) (λq hq WI=> ?_) (λq hq WI=> ?_)
   ·refine mX (p:=.int (q.1:Nat)) (q:=.int ((ln.length:Int) - 1 - mw)) ?_ ?_ yH<;>walk_at "ev"
   ·obtain ⟨s,ac⟩:=q
    refine oV hq λVW f hf he=> ?_
    dsimp only at VW hf he
    have hs:s+1+mw<=ln.length:=by have:=of_decide_eq_true WI;dsimp only at this;exact (mu (.i (.L (.k xA) (.s (.s (.k xC) xI) (.k xB))) (.l (.a (.a xA xI) xB) xC)) [_,_,_]) this
    have WR:(ln.drop s).length=ln.length - s:=bH
    obtain ⟨f,rfl⟩: ∃f',f=f'+1:=⟨f - 1,by exact (mu (.i (.l (.s xB xC) xA) (.i (.l (.a (.a xC xI) xD) xB) (.e xA (.a (.s xA xI) xI)))) [_,_,_,_]) hf hs⟩
    rw [rF,if_pos (by exact (mu (.i (.l (.a (.a xC xI) xA) xD) (.i (.e xB (.s xD xC)) (.l (.a xA xI) xB))) [_,_,_,_]) hs WR)] at he
    have Xe:ac.length<=1000:=by have:=congrArg bj he;rw [af] at this;exact (mu (.i (.l xB xQ) (.i (.e (.a xA xC) xB) (.l xA xQ))) [_,_,_]) b1 this
    have hc:=Ca mw (ln.drop s) hw
    rw [List.drop_drop] at he
    have getd: ∀i,i<ln.length->ln[i]? =aa (ln.getD i 0):=λi hi=>by rw [aZ,aA hi];rfl
    have WL: ∀i,(ln.drop s).getD i 0=ln.getD (s+i) 0:=λi=>by rw [aZ,aZ,List.getElem?_drop]
    have snoc: ∀i,i<(ln.drop s).length->(ln.drop s).getD i 0=61->(ln.drop s).take (i+1)=(ln.drop s).take i++[61]:=λi hi h=>by
     rw [gA,aA hi]
     rw [aZ,aA hi] at h
     rw [show (ln.drop s)[i]=61 from h];rfl
    have tail: ∀k,qY mw (ln.drop s)=k->mS ms w ((Sc.addX (((mU ww 89 A X [] g L).addOwn D).at g1) is).at g').env ((Sc.addX (((mU ww 89 A X [] g L).addOwn D).at g1) is).at g').A
      (In ((Sc.addX (((mU ww 89 A X [] g L).addOwn D).at g1) is).at g') (("start",.int ((s+k:Nat):Int))::Vl) [(D,U7 ac++[.str (S ((ln.drop s).take k++[61]))])]) [] (λfl h=>(fl= .next\/fl= .cont)/\ ∃j,Pw j/\ln.length - j.1<ln.length - (s,ac).1/\
       In ((Sc.addX (((mU ww 89 A X [] g L).addOwn D).at g1) is).at g') (("start",.int ((j.1:Nat):Int))::Vl) [(D,U7 j.2)] h):=λk hk=>by
     subst hk
     refine sD λgg q=>⟨.inl rfl,(s+qY mw (ln.drop s),ac++[(ln.drop s).take (qY mw (ln.drop s))++[61]]),⟨by dsimp only;exact (mu (.i (.l (.a (.a xA xI) xD) xC) (.i (.l xB (.s xD xI)) (.l (.a xA xB) xC))) [_,_,_,_]) hs hc.2,f,by dsimp only;exact (mu (.i (.l (.s xA xB) (.a xD xI)) (.i (.l xI xC) (.l (.s xA (.a xB xC)) xD))) [_,_,_,_]) hf hc.1,by dsimp only;rw [aJ];exact he⟩,by dsimp only;exact (mu (.i (.l (.a (.a xB xI) xD) xA) (.i (.l xI xC) (.b (.s xA (.a xB xC)) (.s xA xB)))) [_,_,_,_]) hs hc.1,?_⟩
     rw [show U7 (ac++[(ln.drop s).take (qY mw (ln.drop s))++[61]])=U7 ac++[.str (S ((ln.drop s).take (qY mw (ln.drop s))++[61]))] by simp [U7]]
     exact q
    have Xs:(U7 ac).length<=bn:=by simp [U7];exact (mu (.i (.e xB xL) (.i (.l xA xQ) (.l xA xB))) [_,_]) hz Xe
    refine mK (p:=.int ((s+mw - 1:Nat):Int)) (mP (mI (p:=.int ((s:Nat):Int)) (q:=.int ((mw:Int) - 1)) ?_ ?_ nV) (by exact congrArg _ ((mu (.i (.l xK xB) (.E (.a (.k xA) (.s (.k xB) xI)) (.k (.s (.a xA xB) xI)))) [_,_]) hw))) ?_
    ·walk_at "ev"
    ·walk_at "ev"
    refine m7 (d:=([ln.getD (s+mw - 3) 0]==[61])) (mX (p:=.str (S [ln.getD (s+mw - 3) 0])) (q:=.str (S [61])) (nj (p:=.str (S ln)) (q:=.int ((s+mw - 3:Nat):Int)) ?_ (mP (mI (p:=.int ((s+mw - 1:Nat):Int)) (q:=.int 2) ?_ mM nI) (by exact congrArg _ ((mu (.i (.l xK xB) (.E (.s (.k (.s (.a xA xB) xI)) xM) (.k (.s (.a xA xB) xO)))) [_,_]) hw))) (qL (by exact mu (.L xJ (.k (.s (.a xA xB) xO))) [_,_]) (by rw [bZ];exact getd _ (by exact (mu (.i (.l (.a (.a xA xI) xB) xC) (.b (.s (.a xA xB) xO) xC)) [_,_,_]) hs)) (by exact (mu (.i (.l xC (.c 901)) (.i (.l (.a (.a xA xI) xB) xC) (.B (.k (.s (.a xA xB) xO)) xS))) [_,_,_]) VB hs))) ?_ sY) (λc=> ?_) (λc=> ?_)
    ·walk_at "ev"
    ·walk_at "ev"
    ·exact m5 (by kernel_rfl)
    ·have hx:(ln.drop s).getD (mw - 3) 0=61:=by
      rw [WL,show s+(mw - 3)=s+mw - 3 by exact (mu (.i (.l xK xB) (.e (.a xA (.s xB xO)) (.s (.a xA xB) xO))) [_,_]) hw]
      simpa using c
     have hk:qY mw (ln.drop s)=mw - 3:=by unfold qY;rw [if_pos hx]
     refine tM (D:=D) (m:=m) (l:=U7 ac) (p:=.str (S ((ln.drop s).take (mw - 3)++[61]))) hm' (by walk_at "lk") (mP (qw (l:=ln) (lo:=aa ((s:Nat):Int)) (hi:=aa ((s+mw - 2:Nat):Int)) ?_ (nW ?_) (nW (mP (mI (p:=.int ((s+mw - 1:Nat):Int)) (q:=.int 1) ?_ mM nI) (by exact congrArg _ ((mu (.i (.l xK xB) (.E (.s (.k (.s (.a xA xB) xI)) xI) (.k (.s (.a xA xB) xM)))) [_,_]) hw)))) (by exact (mu (.i (.e xB xL) (.i (.l xA (.c 901)) (.l xA xB))) [_,_]) hz VB)) ?_) Xs (λz h=>nomatch h) ?_
     ·walk_at "ev"
     ·walk_at "ev"
     ·walk_at "ev"
     ·rw [BM,<-snoc _ (by exact (mu (.i (.l (.a (.a xC xI) xA) xD) (.i (.e xB (.s xD xC)) (.b (.s xA xO) xB))) [_,_,_,_]) hs WR) hx,show s+mw - 2 - s=mw - 3+1 by exact (mu (.i (.l xI xC) (.i (.e xC (.s xB xO)) (.e (.s (.s (.a xA xB) xM) xA) (.a (.s xB xO) xI)))) [_,_,_]) hc.1 hk]
     refine mK (p:=.int ((s+(mw - 3):Nat):Int)) (mP (mI (p:=.int ((s+mw - 1:Nat):Int)) (q:=.int 2) ?_ mM nI) (by exact congrArg _ ((mu (.i (.l xK xB) (.E (.s (.k (.s (.a xA xB) xI)) xM) (.k (.a xA (.s xB xO))))) [_,_]) hw))) ?_
     ·walk_at "ev"
     exact o0 (by walk_at "has") (tail _ hk)
    have hx3: ¬(ln.drop s).getD (mw - 3) 0=61:=by
     rw [WL,show s+(mw - 3)=s+mw - 3 by exact (mu (.i (.l xK xB) (.e (.a xA (.s xB xO)) (.s (.a xA xB) xO))) [_,_]) hw]
     intro h
     rw [h] at c
     exact rj c
    refine m7 (d:=([ln.getD (s+mw - 2) 0]==[61])) (mX (p:=.str (S [ln.getD (s+mw - 2) 0])) (q:=.str (S [61])) (nj (p:=.str (S ln)) (q:=.int ((s+mw - 2:Nat):Int)) ?_ (mP (mI (p:=.int ((s+mw - 1:Nat):Int)) (q:=.int 1) ?_ mM nI) (by exact congrArg _ ((mu (.i (.l xK xB) (.E (.s (.k (.s (.a xA xB) xI)) xI) (.k (.s (.a xA xB) xM)))) [_,_]) hw))) (qL (by exact mu (.L xJ (.k (.s (.a xA xB) xM))) [_,_]) (by rw [bZ];exact getd _ (by exact (mu (.i (.l (.a (.a xA xI) xB) xC) (.b (.s (.a xA xB) xM) xC)) [_,_,_]) hs)) (by exact (mu (.i (.l xC (.c 901)) (.i (.l (.a (.a xA xI) xB) xC) (.B (.k (.s (.a xA xB) xM)) xS))) [_,_,_]) VB hs))) ?_ sY) (λc=> ?_) (λc=> ?_)
    ·walk_at "ev"
    ·walk_at "ev"
    ·exact m5 (by kernel_rfl)
    ·have hx:(ln.drop s).getD (mw - 2) 0=61:=by
      rw [WL,show s+(mw - 2)=s+mw - 2 by exact (mu (.i (.l xK xB) (.e (.a xA (.s xB xM)) (.s (.a xA xB) xM))) [_,_]) hw]
      simpa using c
     have hk:qY mw (ln.drop s)=mw - 2:=by unfold qY;rw [if_neg hx3,if_pos hx]
     refine tM (D:=D) (m:=m) (l:=U7 ac) (p:=.str (S ((ln.drop s).take (mw - 2)++[61]))) hm' (by walk_at "lk") (mP (qw (l:=ln) (lo:=aa ((s:Nat):Int)) (hi:=aa ((s+mw - 1:Nat):Int)) ?_ (nW ?_) (nW ?_) (by exact (mu (.i (.e xB xL) (.i (.l xA (.c 901)) (.l xA xB))) [_,_]) hz VB)) ?_) Xs (λz h=>nomatch h) ?_
     ·walk_at "ev"
     ·walk_at "ev"
     ·walk_at "ev"
     ·rw [BM,<-snoc _ (by exact (mu (.i (.l (.a (.a xC xI) xA) xD) (.i (.e xB (.s xD xC)) (.b (.s xA xM) xB))) [_,_,_,_]) hs WR) hx,show s+mw - 1 - s=mw - 2+1 by exact (mu (.i (.l xI xC) (.i (.e xC (.s xB xM)) (.e (.s (.s (.a xA xB) xI) xA) (.a (.s xB xM) xI)))) [_,_,_]) hc.1 hk]
     refine mK (p:=.int ((s+(mw - 2):Nat):Int)) (mP (mI (p:=.int ((s+mw - 1:Nat):Int)) (q:=.int 1) ?_ mM nI) (by exact congrArg _ ((mu (.i (.l xK xB) (.E (.s (.k (.s (.a xA xB) xI)) xI) (.k (.a xA (.s xB xM))))) [_,_]) hw))) ?_
     ·walk_at "ev"
     exact o0 (by walk_at "has") (tail _ hk)
    ·have WY: ¬(ln.drop s).getD (mw - 2) 0=61:=by
      rw [WL,show s+(mw - 2)=s+mw - 2 by exact (mu (.i (.l xK xB) (.e (.a xA (.s xB xM)) (.s (.a xA xB) xM))) [_,_]) hw]
      intro h
      rw [h] at c
      exact rj c
     have hk:qY mw (ln.drop s)=mw - 1:=by unfold qY;rw [if_neg hx3,if_neg WY]
     refine tM (D:=D) (m:=m) (l:=U7 ac) (p:=.str (S ((ln.drop s).take (mw - 1)++[61]))) hm' (by walk_at "lk") (mI (p:=.str (S ((ln.drop s).take (mw - 1)))) (q:=.str (S [61])) (mP (qw (l:=ln) (lo:=aa ((s:Nat):Int)) (hi:=aa ((s+mw - 1:Nat):Int)) ?_ (nW ?_) (nW ?_) (by exact (mu (.i (.e xB xL) (.i (.l xA (.c 901)) (.l xA xB))) [_,_]) hz VB)) ?_) ?_ (ou ?_)) Xs (λz h=>nomatch h) ?_
     ·walk_at "ev"
     ·walk_at "ev"
     ·walk_at "ev"
     ·rw [BM,show s+mw - 1 - s=mw - 1 by exact mu (.e (.s (.s (.a xA xB) xI) xA) (.s xB xI)) [_,_]]
     ·exact m5 (by kernel_rfl)
     ·rw [dk];simp;exact (mu (.i (.e xD xL) (.i (.l xB (.c 901)) (.l (.a (.n (.s xA xI) (.s xB xC)) xI) xD))) [_,_,_,_]) hz VB
     refine mK (p:=.int ((s+(mw - 1):Nat):Int)) (mP (p:=.int ((s+mw - 1:Nat):Int)) ?_ (by exact congrArg _ ((mu (.i (.l xK xB) (.E (.k (.s (.a xA xB) xI)) (.k (.a xA (.s xB xI))))) [_,_]) hw))) ?_
     ·walk_at "ev"
     exact o0 (by walk_at "has") (tail _ hk)
   ·obtain ⟨s,ac⟩:=q
    refine oV hq λVW f hf he=> ?_
    dsimp only at VW hf he
    have hs: ¬mw+1<=(ln.drop s).length:=by rw [bH];have:=of_decide_eq_false WI;dsimp only at this;exact (mu (.i (.n (.L (.k xC) (.s (.s (.k xB) xI) (.k xA)))) (.n (.l (.a xA xI) (.s xB xC)))) [_,_,_]) this
    rw [Jo hs] at he
    have Xe:ac.length<=1000:=by have:=congrArg bj he;rw [af] at this;exact (mu (.i (.l xB xQ) (.i (.e (.a xA xC) xB) (.l xA xQ))) [_,_,_]) b1 this
    have Xs:(U7 ac).length<=bn:=by simp [U7];exact (mu (.i (.e xB xL) (.i (.l xA xQ) (.l xA xB))) [_,_]) hz Xe
    refine m7 (d:=(!ln.isEmpty)&&(false&&ai)) (A9 (rC (rm (p:=.str (S ln)) ?_ (tZ (by exact (mu (.i (.l xA (.c 901)) (.l xA (.c 1000000))) [_]) VB))) λUj=>rC (mX (p:=.str (S [ln.getLastD 0])) (q:=.str (S [32,9])) (nj (p:=.str (S ln)) (q:=.int (-1)) ?_ (rW (p:=.int 1) mM oB) (tK ?_)) ?_ (sV wC ?_)) λh=>by exact o8 h)) (λc=> ?_) (λc=> ?_)
    ·walk_at "ev"
    ·walk_at "ev"
    ·have hln:ln≠[]:=by rintro rfl;exact o8 Uj
     have h0:ln.getLast? =aa (ln.getLast hln):=c7 hln
     rw [gv,h0];rfl
    ·exact m5 (by kernel_rfl)
    ·rw [sR,htr]
    ·rw [jP,io] at c;exact o8 c
    ·refine tM (D:=D) (m:=m) (l:=U7 ac) (p:=.str (S (ln.drop s))) hm' (by walk_at "lk") (mP (qw (l:=ln) (lo:=aa ((s:Nat):Int)) (hi:=az) ?_ (nW ?_) rJ (by exact (mu (.i (.e xB xL) (.i (.l xA (.c 901)) (.l xA xB))) [_,_]) hz VB)) (by rw [Rm])) Xs (λz h=>nomatch h) (sn ?_ ?_)
     ·walk_at "ev"
     ·walk_at "ev"
     ·walk_at "has"
     ·rw [<-he]
      simp [U7]
  ·have e1:Us (Txt.lines (S T)).length=pU mw T:=by
    show List.flatMap _ (List.take _ _)=_
    rw [bF (aN _)];rfl
   have bl:=vX mw T hw (Txt.lines (S T)).length
   rw [bF (aN _)] at bl
   have bl1:(pU mw T).length<=T.length+1:=bl.1
   have bl2:(pU mw T).flatten.length<=2*(T.length+1):=bl.2
   rw [e1]
   have Uo:T.getLast? =aa (T.getLastD 0):=by
    have h0:T.getLast? =aa (T.getLast hTne):=c7 hTne
    rw [gv,h0];rfl
   have Xs:(U7 (pU mw T)).length<=bn:=by simp [U7];exact (mu (.i (.e xB xL) (.i (.l xC (.c 900)) (.i (.l xA (.a xC xI)) (.l xA xB)))) [_,_,_]) hz XE bl1
   have qq: ∀l,l=wf mw T->mS ms w (((mU ww 89 A X [] g L).at g1).addOwn D).env (((mU ww 89 A X [] g L).at g1).addOwn D).A (In (((mU ww 89 A X [] g L).at g1).addOwn D) Vs0 [(D,U7 l)]) ((nU (nK 22)).drop 9) (uy g X (.str (S (qO mw T Uc)))):=λl hl=>by
    subst hl
    refine w1 (c:=(mU ww 89 A X [] g L).at g1) "encoded_body" (by walk_at "lk") (λz h=>nomatch h) nD ?_
    refine m9 (he:= ?_) (hg:=k1)
    refine re (p:=.str (S Uc)) (T:="str") ?_ oh F.plainAttrs_str F.slot_str_join F.type_str_join (my (p:=.list (((wf mw T).map S).map PV.str)) ?_ mH) (qv (wu (t5 ?_)) rfl)
    ·walk_at "ev"
    ·walk_at "ev"
    ·unfold wf
     have U5:(if [13,10].contains (T.getLastD 0)=ai then [([]:List Nat)] else []).length<=1/\(if [13,10].contains (T.getLastD 0)=ai then [([]:List Nat)] else []).flatten.length=0:=by split<;>simp
     rw [eN,af,af]
     have:((pU mw T).length+(if [13,10].contains (T.getLastD 0)=ai then [([]:List Nat)] else []).length)*Uc.length<=2000*2:=gr (by exact (mu (.i (.l xC (.c 900)) (.i (.l xA (.a xC xI)) (.i (.l xB xI) (.l (.a xA xB) (.c 2000))))) [_,_,_]) XE bl1 U5.1) hE
     exact (mu (.i (.l xD (.c 900)) (.i (.l xA (.m 2 (.a xD xI))) (.i (.e xB xJ) (.i (.l xC (.m 2000 xM)) (.l (.a (.a xA xB) xC) (.c 1000000)))))) [_,_,_,_]) XE bl2 U5.2 this
   refine m7 (d:=[13,10].contains (T.getLastD 0)) (mX (p:=.str (S [T.getLastD 0])) (q:=.str (S [13,10])) (nj (p:=.str (S T)) (q:=.int (-1)) ?_ (rW (p:=.int 1) mM oB) (tK Uo)) (ue G1 (v:=.str (S [13,10]) 289) (by kernel_rfl) λz=>og) (sV wC (by rw [sR]))) (λc=> ?_) (λc=> ?_)
   ·walk_at "ev"
   ·refine tM (D:=D) (m:=m) (l:=U7 (pU mw T)) (p:=.str (S [])) hm (by walk_at "lk") (m5 (by kernel_rfl)) Xs (λz h=>nomatch h) ?_
    have:=qq (pU mw T++[[]]) (by unfold wf;rw [if_pos c])
    rw [show U7 (pU mw T++[[]])=U7 (pU mw T)++[.str (S [])] by simp [U7]] at this
    exact this
   ·exact qq (pU mw T) (by unfold wf;rw [if_neg (by rw [c];exact dy),bK])
end
section
variable {w:av}
def vr (b:Bool) (c:Nat):Bool:= !(if b then Ha c else uZ c)
theorem Jw (b:oi P h):ro h 159 uk/\ ∃o,h.get? 159=aa o/\o.cls= .type "re.Pattern":=⟨Pd b,_,b.frag 159 Ip (by kernel_rfl),rfl⟩
theorem y7 (b:oi P h):ro h 164 o6/\ ∃o,h.get? 164=aa o/\o.cls= .type "re.Pattern":=⟨Ov b,_,b.frag 164 Cj (by kernel_rfl),rfl⟩
theorem yY (hv: ∀c∈T,vr b c=ai) (hT:T.length<=1000):uN w 1 194 H [.str (S T)] [("name",.bool b)] (.str (S T)):=by
 refine th ["self","value","name"] (ds:=[]) [] (zv _) (λX h=>mJ.nil) (λs x vs us B e e'=> ?_) (λA X g L a lx hH G=> ?_)
 ·refine eE (vp e) λv T0=>eE (vp e') λu q2z=> ?_;obtain rfl:=T0;obtain rfl:=q2z;exact .of_eq (by kernel_rfl!)
 ·refine m7 (d:=ai) (mX (p:=.raw (.type "str")) (q:=.raw (.type "str")) (n9 G (ps:=[.str (S T)]) (by kernel_rfl) (by kernel_rfl) (my ?_ mH) yM (.inr ⟨_,rfl⟩)) (rS G (v:=.type "str") (by kernel_rfl) (by kernel_rfl)) (CT rfl)) (λz=> ?_) (λe=>by exact rj e)
  ·walk_at "ev"
  have Wx:yd (bk (if b then uk else o6) T.toArray 0 0 T.toArray.size false):=by
   have Uz: ∀i,i<T.toArray.size->(if b then Ha (T.toArray.getD i 0) else uZ (T.toArray.getD i 0))=false:=λi hi=>by
    have hi':i<T.length:=by simpa using hi
    have:T.toArray.getD i 0∈T:=by
     rw [pO,aZ,aA hi']
     exact dm hi'
    simpa [vr] using hv _ this
   cases b with
   |true=>exact QU Uz
   |false=>exact Qt Uz
  refine mK (p:=.raw (.ref (if b then 159 else 164))) (DR (c:=b) (rm (p:=.bool b) ?_ qt) (λe=> ?_) (λe=> ?_)) ?_
  ·walk_at "ev"
  ·subst e;exact ur G (by kernel_rfl)
  ·subst e;exact ur G (by kernel_rfl)
  refine m7 (d:=false) (rm (p:=.none) ?_ IF) (λe=>by exact o8 e) (λz=> ?_)
  ·cases b with
   |true=>exact yc G (T:="re.Pattern") (by walk_at "ev") (show (KB w.params).lookup 159=aa Ip by kernel_rfl) rfl rfl Pat.plainAttrs Pat.slot_search Pat.type_search (my (by walk_at "ev") mH) (wy (λh i=>Jw (G.inBase h i)) hT Wx)
   |false=>exact yc G (T:="re.Pattern") (by walk_at "ev") (show (KB w.params).lookup 164=aa Cj by kernel_rfl) rfl rfl Pat.plainAttrs Pat.slot_search Pat.type_search (my (by walk_at "ev") mH) (wy (λh i=>y7 (G.inBase h i)) hT Wx)
  refine m9 ?_
  walk_at "ev"
end
section
variable {w:av}
def oG (x:List Nat):List Nat:=(Txt.lower (S x)).cps.toList
theorem C6 (hl:l.length<=1000):uN w 1 245 (rZ l) [] [] (.list (l.map λq=>.str (S q.1))):=by
 refine th ["self"] (ds:=[]) [] (HM _) (λX h=>mJ.nil) (λs x vs us B e e'=> ?_) (λA X g L a lx hH G=> ?_)
 ·obtain rfl:=aY.mp e;obtain rfl:=aY.mp e';exact .of_eq (by kernel_rfl!)
 ·refine v0 hH λd D vs t UB hr=> ?_
  have hz:=aw
  refine m9 ?_
  refine mP (pJ (l:=l) (V:=λq=>.tup [.str (S q.1),.str (S q.2)]) (bs:=λq=>[("v",.str (S q.2)),("k",.str (S q.1))]) (cl:=[]) [] (λz=>ai) (λq=>.str (S q.1))
   (tY (uH G (by walk_at "ev") t) UB hr G.room.1 (.inr ⟨⟨_,_,_,rfl⟩,?_⟩) (λz h=>nomatch h)) nJ (λq C g T5 z=>qS G.room.1) (λq C g T5 z z z=>oa) (λq C g T5 z z z z=> ?_) (by exact (mu (.i (.l xA xQ) (.i (.e xB xL) (.l xA xB))) [_,_]) hl hz) (λz z=>rfl) rfl trivial rfl ?_) (by rw [bW.mpr (λz z=>rfl)])
  ·intro p hp
   obtain ⟨q,_,rfl⟩:=aK.mp hp
   exact ⟨_,rfl⟩
  ·walk_at "ev"
  ·decide+kernel
theorem Gg (hl:l.length<=1000):uN w 1 250 (rZ l) [] [] (.list (l.map λq=>.str (S q.2))):=by
 refine th ["self"] (ds:=[]) [] (Nh _) (λX h=>mJ.nil) (λs x vs us B e e'=> ?_) (λA X g L a lx hH G=> ?_)
 ·obtain rfl:=aY.mp e;obtain rfl:=aY.mp e';exact .of_eq (by kernel_rfl!)
 ·refine v0 hH λd D vs t UB hr=> ?_
  have hz:=aw
  refine m9 ?_
  refine mP (pJ (l:=l) (V:=λq=>.tup [.str (S q.1),.str (S q.2)]) (bs:=λq=>[("v",.str (S q.2)),("k",.str (S q.1))]) (cl:=[]) [] (λz=>ai) (λq=>.str (S q.2))
   (tY (uH G (by walk_at "ev") t) UB hr G.room.1 (.inr ⟨⟨_,_,_,rfl⟩,?_⟩) (λz h=>nomatch h)) nJ (λq C g T5 z=>qS G.room.1) (λq C g T5 z z z=>oa) (λq C g T5 z z z z=> ?_) (by exact (mu (.i (.l xA xQ) (.i (.e xB xL) (.l xA xB))) [_,_]) hl hz) (λz z=>rfl) rfl trivial rfl ?_) (by rw [bW.mpr (λz z=>rfl)])
  ·intro p hp
   obtain ⟨q,_,rfl⟩:=aK.mp hp
   exact ⟨_,rfl⟩
  ·walk_at "ev"
  ·decide+kernel
theorem x9 (hl:l.length<=1000):uN w 1 257 (rZ l) [] [] (.list (hp l)):=by
 refine th ["self"] (ds:=[]) [] (DT _) (λX h=>mJ.nil) (λs x vs us B e e'=> ?_) (λA X g L a lx hH G=> ?_)
 ·obtain rfl:=aY.mp e;obtain rfl:=aY.mp e';exact .of_eq (by kernel_rfl!)
 ·refine v0 hH λd D vs t UB hr=> ?_
  have hz:=aw
  refine m9 ?_
  exact L0 (uH G (by walk_at "ev") t) UB hr (by unfold hp;rw [ah];exact (mu (.i (.l xA xQ) (.i (.e xB xL) (.l xA xB))) [_,_]) hl hz)
def wY (l:HP) (nm:List Nat):PV:=match l[l.findIdx λq=>oG q.1==oG nm]? with|some q=>.str (S q.2)|none=>.none
def yZ (x:List Nat):Prop:=x.length<=100/\(∀c∈oG x,vr ai c=ai)/\(oG x).length<=1000/\gy (Txt.lower (S x)).length=false
theorem Eg {l:HP} {nm:List Nat} (hl:l.length<=1000) (hn:yZ nm) (hk: ∀q∈l,yZ q.1):uN w 2 240 (rZ l) [.str (S nm)] [] (wY l nm):=by
 refine th ["self","name","default"] (ds:=[.none]) [.none] (Ic _) (λX h=>mJ.cons BZ mJ.nil) (λs x vs us B e e'=> ?_) (λA X g L a lx hH G=> ?_)
 ·refine eE (vp e) λv T0=> ?_;obtain rfl:=T0;obtain rfl:=aY.mp e';exact .of_defaults rfl (B.frag 233 Mc (by kernel_rfl)) rfl (by with_unfolding_all rfl) (by with_unfolding_all rfl)
 ·refine v0 (id hH) λd D vs t UB hr=> ?_
  have hz:=aw
  refine B4 hn λhn1 hn2 hn3 hn4=> ?_
  refine mK (p:=.str (S (oG nm))) (By G (l:=l) (BR (by walk_at "ev") hH) (yY (T:=oG nm) hn2 hn3) (by kernel_rfl) (zv _).e (by kernel_rfl) (by kernel_rfl)
   (my (qT (p:=.str (S nm)) (T:="str") (by walk_at "ev") oh F.plainAttrs_str F.slot_str_lower F.type_str_lower (vd hn4)) mH) (yt sF)) ?_
  let Vs:mW:=[("name",.str (S (oG nm))),("default",.none)]
  let Vx:mW:=[("?",.none)]
  generalize hf:(l.findIdx λq=>oG q.1==oG nm)=f
  refine o0 (σ':=if 0<=f then ("self",.raw (.ref a))::Vs else Vx) (by rw [if_pos (cx _)];walk_at "has") ?_
  refine vQ G (l:=l) (V:=λq=>.tup [.str (S q.1),.str (S q.2)]) (bs:=λq=>[("v",.str (S q.2)),("k",.str (S q.1))]) (λi=>if i<=f then ("self",.raw (.ref a))::Vs else Vx) (λz=>[])
   (tY (uH G (by rw [if_pos (cx _)];walk_at "ev") t) UB hr G.room.1 (.inr ⟨⟨_,_,_,rfl⟩,?_⟩) (λb hb=>hb)) rfl rfl (λq is z=>qS G.room.1) (λi q g' is hq G' kg=> ?_) ?_
  ·intro p hp
   obtain ⟨q,_,rfl⟩:=aK.mp hp
   exact ⟨_,rfl⟩
  ·by_cases hi:i<=f
   ·rw [if_pos hi]
    have hkq:=hk q (br hq)
    refine m7 (d:=(oG q.1==oG nm)) (mX (p:=.str (S (oG q.1))) (q:=.str (S (oG nm))) (qT (p:=.str (S q.1)) (T:="str") (by walk_at "ev") oh F.plainAttrs_str F.slot_str_lower F.type_str_lower (vd hkq.2.2.2)) ?_ sY) (λe=> ?_) (λe=> ?_)
    ·walk_at "ev"
    ·have Xz:i=f:=by
      rcases dI i f with h|h
      ·have Um:=(aT.mp hq).1
       have:=List.not_of_lt_findIdx (p:=λq:List Nat×List Nat=>oG q.1==oG nm) (xs:=l) (by rw [hf];exact h)
       rw [(aT.mp hq).2] at this
       rw [e] at this;exact rj this
      ·exact (mu (.i (.l xA xB) (.i (.l xB xA) (.e xA xB))) [_,_]) hi h
     have eg:wY l nm= .str (S q.2):=by unfold wY;rw [hf,<-Xz,hq]
     rw [eg]
     refine Mz ?_ kg (λb hb=>aM _ (aM _ hb))
     walk_at "ev"
    ·have Xz:i+1<=f:=by
      rcases dI i f with h|h
      ·exact h
      ·have Xz:i=f:=by exact (mu (.i (.l xA xB) (.i (.l xB xA) (.e xA xB))) [_,_]) hi h
       have Um:=(aT.mp hq).1
       have:=la (p:=λq:List Nat×List Nat=>oG q.1==oG nm) (xs:=l) (w:=by rw [hf,<-Xz];exact Um)
       have e2:=(aT.mp hq).2
       simp only [hf,<-Xz,e2] at this
       rw [e] at this;exact o8 this
     rw [if_pos Xz]
     exact qK (by walk_at "has")
   ·rw [if_neg hi]
    exact BW (x:="?") (by walk_at "lk") (by kernel_rfl)
  ·by_cases hi:l.length<=f
   ·rw [if_pos hi]
    have eg:wY l nm= .none:=by unfold wY;rw [hf,List.getElem?_eq_none hi]
    rw [eg]
    refine m9 ?_
    walk_at "ev"
   ·rw [if_neg hi]
    exact BW (x:="?") (by walk_at "lk") (by kernel_rfl)
end
section
variable {w:av}
theorem Gq (hl:l.length<=1000) (hn:yZ nm) (hk: ∀q∈l,yZ q.1):uN w 2 232 (rZ l) [.str (S nm)] [] (.list ((l.filter λq=>oG q.1==oG nm).map λq=>.str (S q.2))):=by
 refine th ["self","name"] (ds:=[]) [] (MX _) (λX h=>mJ.nil) (λs x vs us B e e'=> ?_) (λA X g L a lx hH G=> ?_)
 ·refine eE (vp e) λv T0=> ?_;obtain rfl:=T0;obtain rfl:=aY.mp e';exact .of_eq (by kernel_rfl!)
 ·refine v0 (id hH) λd D vs t UB hr=> ?_
  have hz:=aw
  refine B4 hn λhn1 hn2 hn3 hn4=> ?_
  refine mK (p:=.str (S (oG nm))) (By G (l:=l) (BR (by walk_at "ev") hH) (yY (T:=oG nm) hn2 hn3) (by kernel_rfl) (zv _).e (by kernel_rfl) (by kernel_rfl)
   (my (qT (p:=.str (S nm)) (T:="str") (by walk_at "ev") oh F.plainAttrs_str F.slot_str_lower F.type_str_lower (vd hn4)) mH) (yt sF)) ?_ (.inr ⟨L+1,ve rfl (by kernel_rfl) (by kernel_rfl)⟩)
  refine m9 ?_
  refine pJ (l:=l) (V:=λq=>.tup [.str (S q.1),.str (S q.2)]) (bs:=λq=>[("kv",.tup [.str (S q.1),.str (S q.2)])]) (cl:=[("name",L+1)]) [("name",.str (S (oG nm)))] (λq=>oG q.1==oG nm) (λq=>.str (S q.2))
   (tY (uH G (by walk_at "ev") t) UB hr G.room.1 (.inl ⟨_,_,rfl⟩) (λz h=>nomatch h)) (nZ nJ (by walk_at "lk") (.inl rfl) (λz=>by kernel_rfl) (λz=>.inl (by kernel_rfl))) (λq C g T5 z=>nO) (λq C g T5 hq z z=>zj ?_) (λq C g T5 hq z z z=> ?_) (by exact (mu (.i (.l xA xQ) (.i (.e xB xL) (.l xA xB))) [_,_]) hl hz) (λz z=>by kernel_rfl) (by kernel_rfl) ⟨by kernel_rfl,trivial⟩ rfl ?_
  ·refine mX (p:=.str (S (oG q.1))) (q:=.str (S (oG nm))) (qT (p:=.str (S q.1)) (T:="str") (nj (p:=.tup [.str (S q.1),.str (S q.2)]) (q:=.int 0) ?_ mM (rH (by exact mu (.L xJ xJ) [] []) rfl (by exact mu (.B xJ xS) []))) oh F.plainAttrs_str F.slot_str_lower F.type_str_lower (vd (hk q hq).2.2.2)) ?_ sY
   ·walk_at "ev"
   ·walk_at "ev"
  ·refine nj (p:=.tup [.str (S q.1),.str (S q.2)]) (q:=.int 1) ?_ mM (rH (by exact mu (.L xJ xI) [] []) rfl (by exact mu (.B xI xS) []))
   walk_at "ev"
  ·decide+kernel
end
section
variable {w:av}
noncomputable def yr (l:HP):List (List Nat):=(l.map λq=>q.1++58::32::q.2)++[[],[]]
def oy (l:HP):List Nat:=(Txt.join (S [13,10]) ((yr l).map S)).cps.toList
def E4 (l:HP):Prop:=l.length<=100/\ ∀q∈l,q.1.length<=100/\q.2.length<=100
theorem Kr (h:E4 l):(yr l).flatten.length<=30000/\(yr l).length<=102:=by
 have Uz: ∀l:HP,(∀q∈l,q.1.length<=100/\q.2.length<=100)->(l.map λq=>q.1++58::32::q.2).flatten.length<=202*l.length:=by
  intro l
  induction l with
  |nil=>intro _;decide
  |cons q l ih=>
   intro h
   have h1:=h q (.head _)
   have h2:=ih λq' hq=>h q' (.tail _ hq)
   simp only [ba,cu,af,aU]
   exact (mu (.i (.l xA xP) (.i (.l xB xP) (.i (.l xC (.m 202 xD)) (.l (.a (.a xA (.a (.a xB xI) xI)) xC) (.m 202 (.a xD xI)))))) [_,_,_,_]) h1.1 h1.2 h2
 have h1:=Uz l h.2
 have h2:=h.1
 unfold yr
 simp only [eN,af,cu,List.flatten_nil,bQ,ah,aU]
 exact (mu (.i (.l xA (.m 202 xB)) (.i (.l xB xP) (.a (.l (.a xA (.a xJ (.a xJ xJ))) (.c 30000)) (.l (.a xB (.a (.a xJ xI) xI)) (.c 102))))) [_,_]) h1 h2
theorem JO (h:E4 l):uN w 1 269 (rZ l) [] [] (.str (S (oy l))):=by
 refine th ["self"] (ds:=[]) [] (RW _) (λX h=>mJ.nil) (λs x vs us B e e'=> ?_) (λA X g L a lx hH G=> ?_)
 ·obtain rfl:=aY.mp e;obtain rfl:=aY.mp e';exact .of_eq (by kernel_rfl!)
 ·refine v0 hH λd D vs t UB hr=> ?_
  have hz:=aw
  have hl:=h.1
  have hs:=Kr h
  refine m9 ?_
  refine re (p:=.str (S [13,10])) (T:="str") ?_ oh F.plainAttrs_str F.slot_str_join F.type_str_join (my (p:=.list (((yr l).map S).map PV.str)) ?_ mH) (qv (wu (t5 ?_)) rfl)
  ·exact m5 (by kernel_rfl)
  ·refine mP (mI (p:=.list ((l.filter λz=>ai).map λq=>.str (S (q.1++58::32::q.2)))) (q:=.list [.str (S []),.str (S [])]) (pJ (l:=l) (V:=λq=>.tup [.str (S q.1),.str (S q.2)]) (bs:=λq=>[("kv",.tup [.str (S q.1),.str (S q.2)])]) (cl:=[]) [] (λz=>ai) (λq=>.str (S (q.1++58::32::q.2)))
    (tY (uH G (by walk_at "ev") t) UB hr G.room.1 (.inl ⟨_,_,rfl⟩) (λz h=>nomatch h)) nJ (λq C g T5 z=>nO) (λq C g T5 z z z=>oa) (λq C g T5 hq z z z=> ?_) (by exact (mu (.i (.e xB xL) (.i (.l xA xP) (.l xA xB))) [_,_]) hz hl) (λz z=>rfl) rfl trivial rfl ?_) (pW (my ?_ (my ?_ mH)) (by simp;exact (mu (.i (.e xA xL) (.l xM xA)) [_]) hz)) (pL ?_)) ?_
   ·refine mI (p:=.str (S [37,115,58,32,37,115])) (q:=.tup [.str (S q.1),.str (S q.2)]) (m5 (by kernel_rfl)) ?_ (KX ?_ ?_)
    ·walk_at "ev"
    ·have:=h.2 q hq;exact (mu (.i (.l xA xP) (.l xA (.c 1000000))) [_]) this.1
    ·have:=h.2 q hq;exact (mu (.i (.l xA xP) (.l xA (.c 1000000))) [_]) this.2
   ·decide+kernel
   ·exact m5 (by kernel_rfl)
   ·exact m5 (by kernel_rfl)
   ·rw [bW.mpr (λz z=>rfl),ah];simp;exact (mu (.i (.e xB xL) (.i (.l xA xP) (.l (.a xA xM) xB))) [_,_]) hz hl
   ·rw [bW.mpr (λz z=>rfl)]
    simp [yr]
  ·simp only [aU,bQ];omega
end
section
variable {w:av}
def Ey (l:HP):Prop:=l.length<=100/\ ∀q∈l,(q.1.length<=100/\ ∀c∈q.1,vr ai c=ai)/\(q.2.length<=100/\ ∀c∈q.2,vr false c=ai)
theorem C7 (he:Ev ms w (fs c σ Λ) o (.raw (.ref a))) (t:oI c.g a d D):tG ms w (fs c σ Λ) o (λh a=> ∃d D,oI h a d D):=.mk λs i=>
 ab (he.run s i) (λv TZ uu=>eA uu λT1 T4=>by
  subst T4
  exact ⟨T1,a,rfl,d,D,t.keep (i.mono (mz T1)).keep⟩) λz z e=>e
theorem zM (G:Gd w 1 c) (ho:Ev ms w (fs c σ Λ) o (.raw (.ref a))) (t:oI c.g a d D)
  (he:Ev ms w (fs c σ Λ) e (.str (S T))) (hv:Ev ms w (fs c σ Λ) v (.bool b)) (h1: ∀c∈T,vr b c=ai) (h2:T.length<=1000)
  (VX:autoParam (bJ (.Call (.Attribute o "_convert_string_type" ap) [e] [⟨aa "name",v,p⟩] pos) c.env=(do
   let ov <-bJ o c.env
   iu ap.atName
   let (f,first) <-gV [ov] (ia ov "_convert_string_type" pl)
   gI pos f first (fa pos (aE [e] c.env)) (cM pos (bR [⟨aa "name",v,p⟩] c.env)))) XZ)
  (UR:autoParam (aE [e] c.env=(false,bJ e c.env)::aE [] c.env) XZ):
  Ev ms w (fs c σ Λ) (.Call (.Attribute o "_convert_string_type" ap) [e] [⟨aa "name",v,p⟩] pos) (.str (S T)):=.mk λs i=>
 (Ny G (C7 ho t) (λz z t=>t) (λz z z uu k=>rR uu λd D t=>⟨d,D,t.keep k⟩) (by kernel_rfl) (zv _).e (by kernel_rfl) (by kernel_rfl) (my he mH UR) (yt hv)
  (λa=>yY (H:=λz h a=> ∃d D,oI h a d D) h1 h2 c.A c.X _ a G.room (λh i=>G.inBase h i.1) (G.offX i) (λh i=>i.2)) VX UR).run s i
theorem Dy (ok:Ey l) (G:Gd w 1 ((mU tq 187 A (dx::X) [] g L).at g2)) (hx:g2.get? x=aa (gd 293 dx)) (hd:g2.get? dx=aa cA)
  (VW:dx≠iY) (Wz:dx≠dg) (hl:g2.IsList D vs.toArray) (hr:mJ (dx::X) g2 (hp l) vs) (h1:σ.lookup ("self":Str)=aa (.raw (.ref x))) (h2:σ.lookup ("headers":Str)=aa (.raw (.ref D))):
  mS ms w ((mU tq 187 A (dx::X) [] g L).at g2).env ((mU tq 187 A (dx::X) [] g L).at g2).A (In ((mU tq 187 A (dx::X) [] g L).at g2) σ []) ((nU (oY 0)).drop 1)
   (λfl h=>BI fl= .none/\oH [dx] g2 h/\oI h x dx D):=by
 refine m7 (d:=false) (mX (p:=.raw (.type "list")) (q:=.raw (.type "list")) (n9 G (v:=.type "type") (ps:=[.raw (.ref D)]) (by kernel_rfl) (by kernel_rfl) (my (nu h2) mH) (λs us i z r=> ?_) (.inr ⟨_,rfl⟩)) (rS G (v:=.type "list") (by kernel_rfl) (by kernel_rfl)) (EG rfl)) (λe=>by exact o8 e) (λz=> ?_)
 ·refine mQ (qI r) λv T0 r1=> ?_;obtain rfl:=T0
  subst r1
  exact call_type_of (hl.at λo e=>i.keep _ _ e).typeIs (by decide) ⟨mN _,o7⟩
 refine Go G (x:=x) (dx:=dx) (D:=D) (nu h1) (nu h2) hx hd (dw ..) VW Wz λg3 k3 t B3=> ?_
 have G3:Gd w 1 (((mU tq 187 A (dx::X) [] g L).at g2).at g3):=⟨B3,G.off,G.room,G.fn,G.gl,G.bl⟩
 have hDx:D≠dx:=λq=>by
  obtain ⟨o,e,q2,_⟩:=hl
  rw [q,hd] at e;obtain rfl:=am e
  exact absurd q2 (by decide)
 have hl3:g3.IsList D vs.toArray:=hl.at λo e=>k3 _ _ (λq=>hDx (ak.mp q)) e
 have hr3:mJ (dx::X) g3 (hp l) vs:=hr.keepX λb o nb e=>k3 _ _ (λq=>nb (by exact (ak.mp q)▸(.head _))) e
 refine m7 (d:=ai) (rm (p:=.bool ai) sF qt) (λz=> ?_) (λe=>by exact rj e)
 refine o0 (σ':=[("self",.raw (.ref x)),("headers",.raw (.ref D))]) (xv h1 (xv h2 Cy)) ?_
 refine vQ G3 (l:=l) (V:=λq=>.tup [.str (S q.1),.str (S q.2)]) (bs:=λq=>[("v",.str (S q.2)),("k",.str (S q.1))]) (λz=>[("self",.raw (.ref x)),("headers",.raw (.ref D))]) (λz=>[])
  (tY (by walk_at "ev") hl3 hr3 G3.room.1 (.inr ⟨⟨_,_,_,rfl⟩,?_⟩) (λb hb=>hb)) rfl rfl (λq is z=>qS G3.room.1) (λi q g' is hq G' kg=> ?_) ?_
 ·intro p hp
  obtain ⟨q,_,rfl⟩:=aK.mp hp
  exact ⟨_,rfl⟩
 ·have ht:=ok.2 q (br hq)
  have t':oI g' x dx D:=t.keep kg
  refine FJ (zM G' (T:=q.1) (b:=ai) (by walk_at "ev") t' (by walk_at "ev") sF ht.1.2 (by have:=ht.1.1;exact (mu (.i (.l xA xP) (.l xA xQ)) [_]) ht.1.1)) ?_
  refine FJ (zM G' (T:=q.2) (b:=false) (by walk_at "ev") t' (by walk_at "ev") sF ht.2.2 (by have:=ht.2.1;exact (mu (.i (.l xA xP) (.l xA xQ)) [_]) ht.2.1)) ?_
  exact qK (by walk_at "has")
 ·exact sD λh i=>⟨rfl,λb o nb e=>i.keep _ _ (k3 b o nb e),t.keep i.keep⟩
end
section
variable {w:av}
theorem K9 (P:aQ):makesIn (KB P) 293=ai:=by kernel_rfl
theorem Oo (P:aQ):iU (KB P) (.ref 293) "__init__"=aa (aa (.ref 187)):=by kernel_rfl
theorem RS (P:aQ):lX (KB P) (.ref 187)=aa (.type "function"):=by kernel_rfl
theorem CI {os:cY} (r3:pn 3 A) (B:oi w.params h) (lx:n6 X h) (hO:sM w.params X)
  (Uk: ∀s:aq,oi w.params s.heap->l0 s tq ⟨.ref (h.objs.size+1)::args,[]⟩ (([("self":Str),"headers"]:List Str).zip (.ref (h.objs.size+1)::(args++dv))))
  (hq: ∀g0,mT h g0->mJ (h.objs.size::X) g0 qs (args++dv))
  (body: ∀L A' g0,mT h g0->g0.get? (h.objs.size+1)=aa (gd 293 h.objs.size)->g0.get? h.objs.size=aa cA->n6 (h.objs.size::X) g0->Gd w 1 (mU tq 187 A' (h.objs.size::X) [] g0 L)->
   mS ms w (bf tq L 187) (A'.deeper (bf tq L 187)) (In (mU tq 187 A' (h.objs.size::X) [] g0 L) (pZ ["self","headers"] (.raw (.ref (h.objs.size+1))::qs)) []) (nU (oY 0))
    (λfl h'=> ∀s':aq,s'.heap=h'->nA ⟨h,g,d,t,os⟩ s'->BI fl= .none/\R (.ok (.ret (.ref (h.objs.size+1)))) s')):
  gx (aI ms w) A (.call (.ref 293) ⟨args,[]⟩) R ⟨h,g,d,t,os⟩:=by
 refine make_core (makes_of B.frag (K9 _)) (looks_findIn B.frag (Oo _)) (λself=>bind_fn B.frag self (RS _)) (.inl rfl) ?_
 have r2:pn 2 (A.under (.builtin "type.__call__" ⟨.ref 293::args,[]⟩)):=r3.make 293 args
 generalize (A.under (.builtin "type.__call__" ⟨.ref 293::args,[]⟩))=A' at r2
 have k1:mT h (h.push cA):=λb o e=>aO _ e
 have k2:mT (h.push cA) ((h.push cA).push (gd 293 h.objs.size)):=λb o e=>aO _ e
 have kk:=k1.trans k2
 have Wh:=k2 _ _ (au h (o:=cA) rfl)
 have hx:((h.push cA).push (gd 293 h.objs.size)).get? (h.objs.size+1)=aa (gd 293 h.objs.size):=by
  have:=au (h.push cA) (o:=gd 293 h.objs.size) rfl
  rwa [cw] at this
 generalize (h.push cA).push (gd 293 h.objs.size)=g0 at kk Wh hx
 clear k1 k2
 have lx':n6 (h.objs.size::X) g0:=λb hb=>by
  rcases ao.mp hb with q|q
  ·subst q;exact ⟨_,Wh⟩
  ·exact (lx.keep kk) b q
 have off':sM w.params (h.objs.size::X):=λb hb=>by
  rcases ao.mp hb with q|q
  ·subst q
   exact zK B (l:=[h.objs.size]) (λa ha=>by rw [ak.mp ha];exact nE _) _ (.head _)
  ·exact hO b q
 refine xz (M:=[]) (X:=h.objs.size::X) (ns:=["self","headers"]) (qs:=.raw (.ref (h.objs.size+1))::qs) (Λ:=[]) ((B.keep kk).defAt (RM _)) r2.lim lx' (λz h=>nomatch h) (λz h=>nomatch h) ?_ (λz h=>nomatch h) (vV (by kernel_rfl)) λL T2 k z z T7=> ?_
 ·refine Uk ⟨g0,g,d,t,os⟩ (B.keep kk) _ _ _ _ ⟨mN _,_,rfl,?_⟩
  exact mJ.cons o7 (hq g0 kk)
 ·refine ab ((body L A' g0 kk hx Wh lx' ⟨B.keep kk,off',r2.deeper _,rfl,rfl,rfl⟩).run T2 T7) (λfl s' uu=>eA uu λe j=> ?_) λz z e=>e.elim
  refine oU k ?_;clear k;intro Ut Vn T0 _;obtain rfl:=T0
  refine rR e ?_;clear e;intro Un Vy T0;obtain rfl:=T0
  exact j _ rfl ⟨Un,Vy,rfl⟩
theorem Gp (r3:pn 3 A) (hI: ∀h,I h->oi w.params h) (hO:sM w.params X) (ok:Ey l):pR ms w A X I (.ref 293) [.list (hp l)] (.hdr (hp l)):=λs vs i lx r=>by
 refine mQ (qI r) λv T0 r1=> ?_;obtain rfl:=T0
 refine nh (pC r1) λD us T0 nD hl hr=> ?_;obtain rfl:=T0
 obtain ⟨h,g,d,t,os⟩:=s
 have B:=hI _ i
 have nd:h.objs.size∉X:=oJ lx
 have nx:h.objs.size+1∉X:=λq=>let ⟨_,e⟩:=lx _ q;absurd (aR e) (i6.mpr (ix _))
 refine ei (CI (args:=[.ref D]) (dv:=[]) (qs:=[.raw (.ref D)]) r3 B lx hO (λs B=>.of_defaults rfl (B.frag 180 Jc (by kernel_rfl)) rfl (by with_unfolding_all rfl) (by with_unfolding_all rfl)) (λz z=>mJ.cons o7 mJ.nil) λL A' g0 kk hx Wh lx' G=> ?_)
 refine mK (c:=mU tq 187 A' (h.objs.size::X) [] g0 L) (σ:=pZ ["self","headers"] [.raw (.ref (h.objs.size+1)),.raw (.ref D)]) (Λ:=[]) (p:=.raw (.ref D)) ?_ ?_
 ·refine DR (c:=ai) ?_ (λz=>by walk_at "ev") (λe=>by exact rj e)
  refine mX (p:=.raw (.ref D)) (q:=.none) ?_ xi ?_
  ·walk_at "ev"
  ·exact vh λh v r=>by subst r;exact ⟨rfl,λe=>nomatch e⟩
 have VW:h.objs.size≠iY:=λq=>by obtain ⟨m,⟨o,_,_,e,_⟩,_⟩:=B.lim;exact absurd (aR e) (by rw [q];exact cn _)
 have Wz:h.objs.size≠dg:=λq=>by obtain ⟨m,⟨o,_,_,e,_⟩,_⟩:=B.blt;exact absurd (aR e) (by rw [q];exact cn _)
 have WK:mJ (h.objs.size::X) g0 (hp l) us:=by
  refine mJ.keep kk (hr.sub λb hb uu=>eE uu λo e=> ?_)
  rcases ao.mp hb with q|q
  ·subst q;exact absurd (aR e) (cn _)
  ·exact q
 refine s9 (Dy (g:=g0) (g2:=g0) ok G hx Wh VW Wz (hl.at λo e=>kk _ _ e) WK (by walk_at "lk") (by walk_at "lk")) (λz i=>i) λfl h' uu s' hs' Wn=>rN uu λe1 e2 e3=>⟨e1,?_⟩
 subst hs'
 have k3:mT h s'.heap:=λb o e=>e2 b o (λq=>by rw [ak.mp q] at e;exact absurd (aR e) (cn _)) (kk _ _ e)
 refine rR Wn ?_;clear Wn;intro Un Vy T0;obtain rfl:=T0
 refine ⟨⟨Un,Vy,rfl,k3⟩,?_⟩
 exact ⟨_,_,D,us,rfl,nx,nd,nD,e3,hl.at λo e=>k3 _ _ e,mJ.keep k3 hr⟩
theorem F8 (r3:pn 3 A) (B:oi w.params s.heap) (lx:n6 X s.heap) (hO:sM w.params X):
  aC (aI ms w) A (ft (.ref 293) []) (λv s'=>bB s s'/\ ∃a d D,v= .ref a/\a∉X/\d∉X/\oI s'.heap a d D/\s.heap.get? D=az/\s'.heap.get? D=aa {cls:=.type "list",data:=.seq #[]}) (λz z=>False) s:=by
 obtain ⟨h,g,d,t,os⟩:=s
 have nd:h.objs.size∉X:=oJ lx
 have nx:h.objs.size+1∉X:=λq=>let ⟨_,e⟩:=lx _ q;absurd (aR e) (i6.mpr (ix _))
 refine ei (CI (args:=[]) (dv:=[.none]) (qs:=[.none]) r3 B lx hO (λs B=>.of_defaults rfl (B.frag 180 Jc (by kernel_rfl)) rfl (by with_unfolding_all rfl) (by with_unfolding_all rfl)) (λz z=>mJ.cons BZ mJ.nil) λL A' g0 kk hx Wh lx' G=> ?_)
 refine DH (c:=mU tq 187 A' (h.objs.size::X) [] g0 L) (σ:=pZ ["self","headers"] [.raw (.ref (h.objs.size+1)),.none]) (Λ:=[]) ?_ λD g2 k2 hD0 Wj nD=> ?_
 ·refine mX (p:=.none) (q:=.none) ?_ xi Cg
  walk_at "ev"
 have VW:h.objs.size≠iY:=λq=>by obtain ⟨m,⟨o,_,_,e,_⟩,_⟩:=B.lim;exact absurd (aR e) (by rw [q];exact cn _)
 have Wz:h.objs.size≠dg:=λq=>by obtain ⟨m,⟨o,_,_,e,_⟩,_⟩:=B.blt;exact absurd (aR e) (by rw [q];exact cn _)
 have hDd:D≠h.objs.size:=λq=>by rw [q] at Wj;rw [k2 _ _ Wh] at Wj;exact absurd (congrArg Obj.cls (am Wj)) (by decide)
 refine s9 (Dy (l:=[]) (vs:=[]) (g:=g0) (g2:=g2) ⟨by decide,λq hq=>nomatch hq⟩ (G.at' k2) (k2 _ _ hx) (k2 _ _ Wh) VW Wz ⟨_,Wj,rfl,_,rfl⟩ mJ.nil (by walk_at "lk") (by walk_at "lk")) (λz i=>i) λfl h' uu s' hs' Wn=>rN uu λe1 e2 e3=>⟨e1,?_⟩
 subst hs'
 have k3:mT h s'.heap:=λb o e=>e2 b o (λq=>by rw [ak.mp q] at e;exact absurd (aR e) (cn _)) (k2 _ _ (kk _ _ e))
 refine rR Wn ?_;clear Wn;intro Un Vy T0;obtain rfl:=T0
 refine ⟨⟨Un,Vy,rfl,k3⟩,_,_,D,rfl,nx,nd,e3,?_,e2 D _ (λq=>hDd (ak.mp q)) Wj⟩
 cases e:h.get? D with
 |none=>rfl
 |some o=>have:=kk _ _ e;rw [show g0.get? D=az from hD0] at this;exact nB this
end
section
variable {w:av}
theorem Gy:ew rh ⟨[x,n,v],[]⟩=(alloc {cls:=.type "dict",data:=.dict #[]} >>= λd=>bG ((["self","_name","_value","_params"]:List Str).zip [x,n,v,.ref d])):=by kernel_rfl!
theorem FP: ∀h v,mO X h (.str x) v->plainIs v .none=ai/\v≠ .none:=λh v r=>by
 obtain ⟨t,rfl⟩:=nq r
 exact ⟨rfl,λe=>nomatch e⟩
set_option maxHeartbeats 1000000 in
theorem KS (G:Gd w 2 (mU rh 290 A X [D] g0 L)) (t:oI g0 a d D) (hd:g0.get? P0=aa cA) (hs:(P0==sysModules)=false) (hl:l.length<=1000)
  (h1:nm.length<=100/\ ∀c∈nm,vr ai c=ai) (h2:vl.length<=100/\ ∀c∈vl,vr false c=ai):
  mS ms w (mU rh 290 A X [D] g0 L).env (mU rh 290 A X [D] g0 L).A (In (mU rh 290 A X [D] g0 L) (pZ ["self","_name","_value","_params"] [.raw (.ref a),.str (S nm),.str (S vl),.raw (.ref P0)]) [(D,hp l)]) (nU (oY 16))
   (λfl h=>mT g0 h/\ ∃Wf,h.PlainList D Wf.toArray/\mJ (mU rh 290 A X [D] g0 L).X h (hp (l++[(nm,vl)])) Wf):=by
 have hz:=aw
 have G1:Gd w 1 (mU rh 290 A X [D] g0 L):=⟨G.base,G.off,G.room.less (by exact mu (.l xI xM) [] []),rfl,rfl,rfl⟩
 refine yR λP gP nP=> ?_
 have hDX:D∈(mU rh 290 A X [D] g0 L).X:=ax _ (.tail _ (aM _ (.head _)))
 have Uj: ∀q∈[(D,hp l)],q.1≠P:=λq hq=>by rw [ak.mp hq];exact λe=>nP (e▸hDX)
 have t':oI ((mU rh 290 A X [D] g0 L).addOwn P).g a d D:=t
 have GP:=G1.addOwn P
 refine m7 (d:=ai) (mX (p:=.str (S vl)) (q:=.none) ?_ xi (vh FP)) (λz=> ?_) (λe=>by exact rj e)
 ·walk_at "ev"
 refine mK (p:=.str (S vl)) (zM GP (T:=vl) (b:=false) ?_ t' ?_ sF h2.2 (by have:=h2.1;exact (mu (.i (.l xA xP) (.l xA xQ)) [_]) h2.1)) ?_
 ·walk_at "ev"
 ·walk_at "ev"
 refine BN (D:=P) (l:=[]) (p:=.str (S vl)) (by walk_at "lk") ?_ (by simp) Uj ?_
 ·walk_at "ev"
 refine E8 "parts" (by walk_at "lk") Uj nP ?_
 refine o0 (σ':=[("parts",.list [.str (S vl)]),("self",.raw (.ref a)),("_name",.str (S nm)),("_params",.raw (.ref P0))]) (by walk_at "has") ?_
 refine vQ G1 (l:=([]:List Unit)) (V:=λz=>.none) (bs:=λz=>[]) (λz=>[("parts",.list [.str (S vl)]),("self",.raw (.ref a)),("_name",.str (S nm)),("_params",.raw (.ref P0))]) (λz=>[(D,hp l)])
  (Jk (Lj (by walk_at "ev") hd hs) hd G.room.1 (λb hb=>hb)) rfl rfl (λa is h=>nomatch h) (λi a g' is h=>by simp at h) ?_
 have hval:Txt.join (S [59,32]) (([vl]:List (List Nat)).map S)=S vl:=rfl
 refine Gu (D:=D) (l:=hp l) (p:=.tup [.str (S nm),.str (S vl)]) ?_ ?_ (by unfold hp;rw [ah];exact (mu (.i (.l xA xQ) (.i (.e xB xL) (.l xA xB))) [_,_]) hl hz) (λq hq=>nomatch hq) ?_
 ·refine uH G1 ?_ t
  walk_at "ev"
 ·refine ot (my ?_ (my ?_ mH)) (by simp;exact (mu (.i (.e xA xL) (.l xM xA)) [_]) hz)
  ·refine zM G1 (T:=nm) (b:=ai) ?_ t ?_ sF h1.2 (by have:=h1.1;exact (mu (.i (.l xA xP) (.l xA xQ)) [_]) h1.1)
   ·walk_at "ev"
   ·walk_at "ev"
  ·refine re (p:=.str (S [59,32])) (T:="str") ?_ oh F.plainAttrs_str F.slot_str_join F.type_str_join (my (p:=.list (([vl].map S).map PV.str)) ?_ mH) (qv (wu (t5 ?_)) (by rw [hval]))
   ·exact m5 (by kernel_rfl)
   ·walk_at "ev"
   ·have:=h2.1;simp;exact (mu (.i (.l xA xP) (.l xA (.c 999998))) [_]) h2.1
 ·refine sD λh i=>⟨i.keep,?_⟩
  refine oV (i.lists _ (.head _)) λz vs pl rs=> ?_
  refine ⟨vs,pl,?_⟩
  rw [show hp (l++[(nm,vl)])=hp l++[.tup [.str (S nm),.str (S vl)]] by unfold hp;rw [bh];rfl]
  exact rs
theorem Ml (r3:pn 3 A) (B:oi w.params s.heap) (lx:n6 X s.heap) (hO:sM w.params X) (hD:D∈X) (t:oI s.heap a d D) (pl:s.heap.PlainList D vs.toArray) (rs:mJ X s.heap (hp l) vs)
  (hl:l.length<=1000) (h1:nm.length<=100/\ ∀c∈nm,vr ai c=ai) (h2:vl.length<=100/\ ∀c∈vl,vr false c=ai) (ru:mO X s.heap (.str (S nm)) u) (rz:mO X s.heap (.str (S vl)) z):
  aC (aI ms w) A (ft (.ref 290) [.ref a,u,z]) (λz s'=>nA s s'/\oH [D] s.heap s'.heap/\ ∃Wf,s'.heap.PlainList D Wf.toArray/\mJ X s'.heap (hp (l++[(nm,vl)])) Wf) (λz z=>False) s:=by
 have hz:=aw
 have hbig:333<s.heap.objs.size:=aR (B.frag 333 (fo pA) (by kernel_rfl))
 have off:sM w.params [D]:=λb hb=>hO b (by exact (ak.mp hb)▸hD)
 have hDlt:D<s.heap.objs.size:=by obtain ⟨_,e⟩:=pl;exact aR e
 have haD:a≠D:=λq=>by obtain ⟨_,e⟩:=pl;rw [<-q,t.obj] at e;have:=congrArg Obj.cls (am e);cases this
 have hdD:d≠D:=λq=>by
  obtain ⟨_,e⟩:=pl
  obtain ⟨od,e2,e3,_⟩:=t.dic
  rw [q,e] at e2;obtain rfl:=am e2;exact nB e3
 refine ei (wE (M:=[D]) (X:=X) (K:=λTZ=>TZ.heap.get? s.heap.objs.size=aa cA) (ns:=["self","_name","_value","_params"]) (qs:=[.raw (.ref a),.str (S nm),.str (S vl),.raw (.ref s.heap.objs.size)]) (Λ:=[(D,hp l)]) (B.defAt (DU _)) r3.lim lx (λb hb=>lx b (by exact (ak.mp hb)▸hD)) (λb hb=>by exact (ak.mp hb)▸hD) ?_ (λq hq=>by exact (ak.mp hq)▸(⟨.head _,vs,pl,rs⟩)) (vV (by kernel_rfl)) λL TZ T2 T1 hK T3 z hL T7=> ?_)
 ·rw [Gy]
  have k:=mY s {cls:=.type "dict",data:=.dict #[]} s.toks
  exact ae (wpAny_alloc (aj ⟨k,au _ rfl,_,rfl,mJ.cons o7 (mJ.cons (ru.keep (mz k)) (mJ.cons (rz.keep (mz k)) (mJ.cons o7 mJ.nil)))⟩))
 have nD: ∀b,b≠D->b∉[D]:=λb h q=>h (ak.mp q)
 have hg: ∀b o,b≠D->TZ.heap.get? b=aa o->(hideAll TZ.heap [D]).get? b=aa o:=λb o nb e=>bS _ e (nD b nb)
 have Ve:oI (hideAll TZ.heap [D]) a d D:=⟨hg _ _ haD (mz T1 _ _ t.obj),let ⟨od,e,r⟩:=t.dic;⟨od,hg _ _ hdD (mz T1 _ _ e),r⟩⟩
 have hdict:(hideAll TZ.heap [D]).get? s.heap.objs.size=aa cA:=hg _ _ (λq=>by rw [<-q] at hDlt;exact cn _ hDlt) hK
 have Wq:oi w.params (hideAll TZ.heap [D]):=by
  have B':=B.keep (mz T1)
  have VW:iY≠D:=λq=>by
   obtain ⟨m,⟨o,es,ep,e,e2,_⟩,_⟩:=B.lim
   obtain ⟨_,e3⟩:=pl
   rw [q,e3] at e;obtain rfl:=am e;cases e2
  have Wz:dg≠D:=λq=>by
   obtain ⟨m,⟨o,es,ep,e,e2,_⟩,_⟩:=B.blt
   obtain ⟨_,e3⟩:=pl
   rw [q,e3] at e;obtain rfl:=am e;cases e2
  refine ⟨λb o e=>hg b o (λq=>by have:=hO D hD;rw [<-q,e] at this;exact tC this) (B'.frag b o e),B'.lim.at λo e=>hg _ _ VW e,?_⟩
  refine mQ B'.blt λmb n r=> ?_
  exact ⟨mb,n.at' λo e=>hg _ _ Wz e,r⟩
 have G:Gd w 2 (mU rh 290 A X [D] (hideAll TZ.heap [D]) L):=⟨Wq,hO,r3.deeper _,rfl,rfl,rfl⟩
 have G1:Gd w 1 (mU rh 290 A X [D] (hideAll TZ.heap [D]) L):=⟨Wq,hO,(r3.deeper _).less (by exact mu (.l xI xM) [] []),rfl,rfl,rfl⟩
 have hs:(s.heap.objs.size==sysModules)=false:=by
  rw [beq_eq_false_iff_ne]
  intro q
  rw [q] at hbig
  exact absurd hbig (by decide)
 refine ab ((KS G Ve hdict hs hl h1 h2).run T2 T7) (λfl s' uu=>HR uu λe kk Wf VF rs'=> ?_) λz z e=>e.elim
 refine oU T1 ?_;clear T1;intro Ua t1 T0 k1;obtain rfl:=T0
 refine oU T3 ?_;clear T3;intro Ut t2 T0 k2;obtain rfl:=T0
 refine rR e ?_;clear e;intro Un t3 T0;obtain rfl:=T0
 refine ⟨⟨_,_,rfl⟩,λb o nb e=>kk b o (hg b o (λq=>nb (by exact q▸(.head _))) (k1 b o e)),Wf,VF,rs'.sub λb hb z=>aM _ hb⟩
end
end
section
open PySem.Calls PyProof.Rows
section
variable {prog:aH} {w:av} {A:aX} {X:List aF}
open PySem.SeqAt
mutual
noncomputable def pd:PV->Option ir
 |.none=>aa .none
 |.bool b=>aa (.bool b)
 |.int i=>aa (.int i)
 |.str x=>aa (.str x)
 |.tup l=>(wz l).map .tuple
 |.list l=>(wz l).map .list
 |_=>jo
noncomputable def wz:List PV->Option (List ir)
 |[]=>aa []
 |p::ps=>match pd p,wz ps with
  |some d,aa ds=>aa (d::ds)
  |_,_=>jo
end
set_option tactic.hygienic true
mutual
theorem wc: ∀{p:PV} {v:ay} {d:ir},pd p=aa d->mO X h p v-> ∃as,Reads h v d as
 |.none,v,d,e,r=>by
  obtain rfl:=am e;subst r;exact ⟨_,.none⟩
 |.bool b,v,d,e,r=>by
  obtain rfl:=am e;subst r;exact ⟨_,.bool _⟩
 |.int i,v,d,e,r=>by
  obtain rfl:=am e;obtain ⟨t,rfl⟩:=r;exact ⟨_,.int _ _⟩
 |.str x,v,d,e,r=>by
  obtain rfl:=am e;obtain ⟨t,rfl⟩:=r;exact ⟨_,.str _ _⟩
 |.tup l,v,d,e,r=>by
  unfold pd at e;
  obtain ⟨a,vs,rfl,_,⟨o,ho,hc,n,hd⟩,q⟩:=r
  cases el:wz l with
  |none=>rw [el] at e;exact nB e
  |some ds=>
   rw [el] at e;obtain rfl:=am e
   obtain ⟨as,k⟩:=zk el q
   exact ⟨_,.tuple ho hc hd k⟩
 |.list l,v,d,e,r=>by
  unfold pd at e;
  obtain ⟨a,vs,rfl,_,⟨o,ho,hc,n,hd⟩,q⟩:=r
  cases el:wz l with
  |none=>rw [el] at e;exact nB e
  |some ds=>
   rw [el] at e;obtain rfl:=am e
   obtain ⟨as,k⟩:=zk el q
   exact ⟨_,.list ho hc hd k⟩
 |.float _,_,_,e,_=>by exact nB e
 |.fx _,_,_,e,_=>by exact nB e
 |.bytes _,_,_,e,_=>by exact nB e
 |.raw _,_,_,e,_=>by exact nB e
 |.inst _,_,_,e,_=>by exact nB e
 |.hdr _,_,_,e,_=>by exact nB e
theorem zk: ∀{ps:List PV} {vs:List ay} {ds:List ir},wz ps=aa ds->mJ X h ps vs-> ∃as,ReadsAll h vs ds as
 |[],vs,ds,e,r=>by
  obtain rfl:=am e;subst r;exact ⟨_,.nil⟩
 |p::ps,vs,ds,e,r=>by
  unfold wz at e;
  refine ng r ?_;clear r;intro v us T0 a b;obtain rfl:=T0
  split at e
  ·rename_i d ds' e1 e2
   obtain rfl:=am e
   obtain ⟨_,k1⟩:=wc e1 a
   obtain ⟨_,k2⟩:=zk e2 b
   exact ⟨_,.cons k1 k2⟩
  ·exact nB e
end
set_option tactic.hygienic false
theorem EC {p q:PV} {d e:ir} (hu:A.units+64<fv) (hp:pd p=aa d) (hq:pd q=aa e) (sd:shaped d=ai) (se:shaped e=ai):
  n0 prog w A X (bP .Eq) p q (.bool (da d e)):=λs x y z r k=>by
 obtain ⟨_,r⟩:=wc hp r;obtain ⟨_,k⟩:=wc hq k
 exact eq_dataH r k sd se hu ⟨mN _,by rfl⟩
theorem FI {p q:PV} {d e:ir} (hu:A.units+64<fv) (hp:pd p=aa d) (hq:pd q=aa e) (sd:shaped d=ai) (se:shaped e=ai):
  n0 prog w A X (bP .NotEq) p q (.bool (!da d e)):=λs x y z r k=>by
 obtain ⟨_,r⟩:=wc hp r;obtain ⟨_,k⟩:=wc hq k
 exact ne_dataH r k sd se hu ⟨mN _,by rfl⟩
def Hx (A:aX) (X:List aF) (p q:PV) (b:Bool):Prop:= ∀(s:aq) (v u:ay),mO X s.heap p v->mO X s.heap q u->EqAt A s v u b/\(v=u->b=ai)
def AV (A:aX) (X:List aF) (l m:List PV) (b:Bool):Prop:= ∀(s:aq) (vs us:List ay),mJ X s.heap l vs->mJ X s.heap m us->
 vs.length=us.length/\(∃e:Nat->Bool,(∀j (h1:j<vs.length) (h2:j<us.length),EqAt A s vs[j] us[j] (e j))/\(ag vs.length).all e=b)/\(vs=us->b=ai)
theorem D8 {s:aq} {l b:aF} {k:Bool} (hs:l=b->k=ai) (h:RcAt A s (.ref l) (.ref b) k):EqAt A s (.ref l) (.ref b) k:=by
 by_cases e:l=b
 ·rw [hs e];subst e;exact EqAt.same _
 ·exact EqAt.of_refs e h
theorem vF:Hx A X (.raw v) (.raw v) ai:=λs x u r q=>by
 subst r q
 exact ⟨EqAt.same _,λz=>rfl⟩
theorem AN:AV A X [] [] ai:=λs vs us r q=>by
 subst r q
 exact ⟨rfl,⟨λz=>ai,λj h1=>absurd h1 (jN _),rfl⟩,λz=>rfl⟩
theorem r9 (h:Hx A X p q a) (hs:AV A X l m b):AV A X (p::l) (q::m) (a&&b):=λs vs us r k=>by
 refine ng r ?_;clear r;intro v Wf T0 r1 r2;obtain rfl:=T0
 refine ng k ?_;clear k;intro u Ws T0 k1 k2;obtain rfl:=T0
 refine eA (h s v u r1 k1) λh1 h1'=> ?_
 obtain ⟨hn,⟨e,he,hb⟩,hv⟩:=hs s Wf Ws r2 k2
 refine ⟨by simp [hn],⟨λj=>match j with|0=>a|j+1=>e j,?_,?_⟩,λhh=> ?_⟩
 ·intro j g1 g2
  cases j with
  |zero=>exact h1
  |succ j=>exact he j (by simpa using g1) (by simpa using g2)
 ·rw [aU,kz,iL,List.all_map,<-hb];rfl
 ·injection hh with e1 e2
  rw [h1' e1,hv e2];rfl
theorem F5 {h:aW} (p:h.IsList a x) (q:h.IsList a y):x=y:=by
 obtain ⟨o,e,c,n,d⟩:=p;obtain ⟨o',e',c',n',d'⟩:=q
 rw [e] at e';obtain rfl:=am e';rw [d] at d';injection d'
theorem Bo (p:IsTup h a x) (q:IsTup h a y):x=y:=by
 obtain ⟨o,e,c,n,d⟩:=p;obtain ⟨o',e',c',n',d'⟩:=q
 rw [e] at e';obtain rfl:=am e';rw [d] at d';injection d'
theorem LZ {l m:List PV} {b:Bool} (hu:A.units<fv) (h:AV A.in1 X l m b): ∀(s:aq) (v u:ay),mO X s.heap (.list l) v->mO X s.heap (.list m) u->RcAt A s v u b/\(v=u->b=ai):=λs v u r q=>by
 refine nh r ?_;clear r;intro a vs T0 _ t r;obtain rfl:=T0
 refine nh q ?_;clear q;intro a' us T0 _ t' q;obtain rfl:=T0
 obtain ⟨hn,⟨e,he,hb⟩,hv⟩:=h s vs us r q
 refine ⟨?_,λhh=> ?_⟩
 ·have:=RcAt.lists (A:=A) (e:=e) t t' (by simpa using hn) hu (λj h1 h2=>by simpa using he j (by simpa using h1) (by simpa using h2))
  rw [<-hb];simpa using this
 ·cases hh
  exact hv (by simpa using F5 t t')
theorem OY {l m:List PV} {b:Bool} (hu:A.units<fv) (h:AV A.in1 X l m b): ∀(s:aq) (v u:ay),mO X s.heap (.tup l) v->mO X s.heap (.tup m) u->RcAt A s v u b/\(v=u->b=ai):=λs v u r q=>by
 refine nh r ?_;clear r;intro a vs T0 _ t r;obtain rfl:=T0
 refine nh q ?_;clear q;intro a' us T0 _ t' q;obtain rfl:=T0
 obtain ⟨hn,⟨e,he,hb⟩,hv⟩:=h s vs us r q
 refine ⟨?_,λhh=> ?_⟩
 ·have:=RcAt.tuples (A:=A) (e:=e) t t' hu (λj h1 h2=>by simpa using he j (by simpa using h1) (by simpa using h2))
  rw [<-hb];simpa [hn] using this
 ·cases hh
  exact hv (by simpa using Bo t t')
theorem Hx.ofTup (hu:A.units<fv) (h:AV A.in1 X l m b):Hx A X (.tup l) (.tup m) b:=λs v u r q=>
 by
  obtain ⟨x,y⟩:=OY hu h s v u r q
  refine oU r ?_;clear r;intro a vs T0 _;obtain rfl:=T0
  refine oU q ?_;clear q;intro a' us T0 _;obtain rfl:=T0
  exact ⟨D8 (λe=>y (by rw [e])) x,y⟩
theorem Gv (hu:A.units<fv) (h:AV A.in1 X l m b):n0 prog w A X (bP .Eq) (.list l) (.list m) (.bool b):=λs x y z r k=>
 (LZ hu h s x y r k).1 prog w _ _ ⟨mN _,by rfl⟩
end
end
section
open PySem.Calls PyProof.Rows
section
variable {prog:aH} {w:av} {c:Sc} {σ:mW} {Λ:List (aF×List PV)}
theorem tp (hh:c.A.handled=az) (hx:autoParam (sB c x) XJ) (hy:autoParam (sB c y) XJ) (hz:autoParam (sB c z) XJ) (hk:autoParam (c.env.scope.kind= .function) XZ):
  yV prog w c (.Tuple [.Name x px,.Name y py,.Name z pz] k pos) (.tup [p,q,r]) [(z,r),(y,q),(x,p)]:=λσ Λ s v i r=>by
 refine nh r ?_;clear r;intro T vs T0 nT tT r;obtain rfl:=T0
 refine ng r ?_;clear r;intro a us T0 ra r;obtain rfl:=T0
 refine ng r ?_;clear r;intro b Ws T0 rb r;obtain rfl:=T0
 refine ng r ?_;clear r;intro d Ws T0 rd r;obtain rfl:=T0
 subst r
 refine wpAny_assign_Tuple hh tT rfl rfl λh' hE=> ?_
 have kk:mT s.heap h':=λb o e=>hE b o (di (aR e)) e
 have T8:=i.mono kk
 refine ae (bL (dM (ab (rt (s:={s with heap:=h'}) T8 hx (mO.keep kk ra) hk) (λz T2 uu=>rN uu λUD T7 T3=> ?_) λz z e=>e)))
 refine ae (bL (dM (ab (rt T7 hy ((mO.keep kk rb).keepX λb o nb e=>T3 b o (λq=>nb (ax _ q)) e) hk) (λz T9 uu=>rN uu λUJ Uh Ub=> ?_) λz z e=>e)))
 refine ae (bL (dM (ab (rt Uh hz (((mO.keep kk rd).keepX λb o nb e=>T3 b o (λq=>nb (ax _ q)) e).keepX λb o nb e=>Ub b o (λq=>nb (ax _ q)) e) hk) (λz Ul uu=>rN uu λVr UV Ux=> ?_) λz z e=>e)))
 exact aj ⟨(nA.trans ⟨h',s.toks,rfl⟩ (UD.trans (UJ.trans Vr))),UV,λb o nb e=>Ux b o nb (Ub b o nb (T3 b o nb (kk _ _ e)))⟩
end
section
variable {prog:aH} {w:av} {A:aX} {X:List aF} {I:aW->Prop}
theorem HO (h:b≠0) (hb:b.natAbs<1073741824):pR prog w A X I (.builtin "divmod") [.int a,.int b] (.tup [.int (a.fdiv b),.int (a.fmod b)]):=λs vs z lx r=>by
 refine ng (sP r) λv u T0 r1 r2=> ?_;obtain rfl:=T0
 refine eE r1 ?_;clear r1;intro t T0;obtain rfl:=T0;refine eE r2 ?_;clear r2;intro t' T0;obtain rfl:=T0
 refine divmod_int h ?_ (.inl (j0 hb))
 refine ⟨mY s _ _,EP (vs:=[.int (a.fdiv b) s.toks,.int (a.fmod b) (s.toks+1)]) (oJ lx) ⟨_,au _ rfl,rfl,_,rfl⟩ (mJ.cons tJ (mJ.cons tJ mJ.nil))⟩
theorem F3:n0 prog w A X (ca .Mult) (.int a) (.bool b) (.int (a*if b=ai then 1 else 0)):=λs x y z r q=>by
 refine eE r ?_;clear r;intro t T0;obtain rfl:=T0;subst q
 exact IntBool.mul_int_bool (qx rfl)
theorem F4:QS prog w A X (unaryOp .Not) (.bool b) (.bool (!b)):=λs x z r=>by
 subst r
 exact not_value (fO ⟨mN _,by rfl⟩)
end
section
variable {prog:aH} {w:av} {φ:Fs}
theorem Qk (hx:Ev prog w φ x p) (t:tS prog w φ.A φ.X p a) (hy:a=false->Ev prog w φ y q) (hr:r=if a then p else q):
  Ev prog w φ (.BoolOp .Or [x,y] pos) r:=.mk λs i=>
 wpAny_Or2 (ab (hx.run s i) (λv TZ uu=>eA uu λT1 T4=>ab (t TZ v T4) (λc T2 uu=>eA uu λT3 e=>by
  subst e
  cases c with
  |false=>subst hr;exact ab ((hy rfl).run T2 (φ.mono' i (mG T1 T3))) (λz z uu=>eA uu λUb Ui=>⟨mG T1 (mG T3 Ub),Ui⟩) λz z e=>e
  |true=>subst hr;exact ⟨mG T1 T3,T4.keep (mz T3)⟩) λz z e=>e) λz z e=>e)
theorem qU (h:Ev prog w φ e (.raw v)) (hv: ∀g,mO φ.X g p v):Ev prog w φ e p:=.mk λs i=>
 ab (h.run s i) (λu TZ uu=>eA uu λk r=>⟨k,by subst r;exact hv _⟩) λz z e=>e
end
end
section
open PySem.Calls PyProof.Rows PySem.Builtin.Str
section
variable {w:av}
noncomputable def xc (r f:Int):List (Int×Int×Int):=[(128,r,0),(f,128,0),(0,128,r),(0,f,128),(r,0,128),(128,0,f)]
noncomputable def M3 (t:Int×Int×Int):PV:=.tup [.int t.1,.int t.2.1,.int t.2.2]
noncomputable def SX:PV->Option PV
 |.tup [h,_,_]=>aa h
 |_=>az
def vn (p:Int):Option PV:=((xc ((6*p).fmod 128) (128 - (6*p).fmod 128))[((6*p).fdiv 128).toNat]?).bind λt=>(oz (.int t.1) (.int t.2.1) (.int t.2.2)).bind SX
theorem Ra {G:Prop} (e:vn p=aa h) (k: ∀t y z,(xc ((6*p).fmod 128) (128 - (6*p).fmod 128))[((6*p).fdiv 128).toNat]? =aa t->oz (.int t.1) (.int t.2.1) (.int t.2.2)=aa (.tup [h,y,z])->G):G:=
 mZ e λt e1 e=>mZ e λu e2 e3=>by
  cases u with
  |tup l=>
   match l,e3 with
   |[x,y,z],e3=>obtain rfl:=am e3;exact k t y z e1 e2
  |_=>exact nB e3
theorem AG (h0:0<=p) (h1:p<128) (e:vn p=aa h):rI ms w 2 304 [.int p] h:=by
 refine Ra e λt y z e1 e2=> ?_
 clear e
 refine qE ["place"] (DX _) (λvs e=> ?_) (λA X g' L lx G=> ?_)
 ·refine eE (vp e) λj T0=> ?_;obtain rfl:=T0;kernel_rfl!
 ·have hh:(A.deeper (bf M7 L 304)).handled=az:=G.room.1
  have hz:=aw
  have d0:0<=(6*p).fdiv 128:=by rw [bX _ (by decide)];exact (mu (.i (.L xJ xA) (.L xJ (.d (.m 6 xA) 128))) [] [_]) h0
  have d1:(6*p).fdiv 128<6:=by rw [bX _ (by decide)];exact (mu (.i (.B xA xR) (.B (.d (.m 6 xA) 128) (.c 6))) [] [_]) h1
  refine su (p:=.tup [.int ((6*p).fdiv 128),.int ((6*p).fmod 128)]) (n9 G (ps:=[.int (6*p),.int 128]) (by kernel_rfl) (by kernel_rfl) (my (mI (p:=.int 6) ?_ ?_ (BE (.of_left (by decide+kernel)))) (my ?_ mH)) (HO (by decide) (by decide))) (qS hh) ?_
  ·walk_at "ev"
  ·walk_at "ev"
  ·walk_at "ev"
  refine mK (p:=.int (128 - (6*p).fmod 128)) ?_ ?_
  ·walk_at "ev"
  refine mK (p:=.list ((xc ((6*p).fmod 128) (128 - (6*p).fmod 128)).map M3)) (pW (ps:=(xc ((6*p).fmod 128) (128 - (6*p).fmod 128)).map M3) (my ?_ (my ?_ (my ?_ (my ?_ (my ?_ (my ?_ mH)))))) (by simp [xc];exact (mu (.i (.e xA xL) (.l (.c 6) xA)) [_]) hz)) ?_
  all_goals first|(refine ot (my ?_ (my ?_ (my ?_ mH))) (by simp;exact (mu (.i (.e xA xL) (.l xO xA)) [_]) hz)<;>walk_at "ev")|skip
  refine su (p:=M3 t) (nj (p:=.list ((xc ((6*p).fmod 128) (128 - (6*p).fmod 128)).map M3)) (q:=.int ((6*p).fdiv 128)) ?_ ?_ (m4 d0 (by rw [a7,e1];rfl) (by exact (mu (.i (.B xA (.c 6)) (.B xA xS)) [] [_]) d1))) (tp hh) ?_
  ·walk_at "ev"
  ·walk_at "ev"
  refine m9 (nj (p:=.tup [h,y,z]) (q:=.int 0) (oE G (ps:=[.int t.1,.int t.2.1,.int t.2.2]) (by kernel_rfl) (vy _).e (my ?_ (my ?_ (my ?_ mH))) (uV trivial trivial trivial e2)) mM (rH (by decide) rfl (by decide)))
  ·walk_at "ev"
  ·walk_at "ev"
  ·walk_at "ev"
end
end
section
open PySem.Calls PyProof.Rows
section
variable {prog:aH} {w:av} {c:Sc} {σ:mW} {Λ:List (aF×List PV)}
theorem N2 {h:aW} (p:h.Ns a m) (q:h.Ns a m'):m=m':=by
 refine rY p λo es ep e d z f=> ?_;refine rY q λo' es' ep' e' d' z f'=> ?_
 rw [e] at e';obtain rfl:=am e';rw [d] at d';cases d'
 exact funext λx=>(f x).symm.trans (f' x)
theorem wp {α:Type} {l:List α} {V:α->PV} {bs:α->mW} (σf:mW) (t:α->Bool) (o:α->PV)
  (hi:uv prog w c σ Λ [] T6 iter (l.map V)) (hc:vT c σ σf scope cl)
  (ha: ∀a C g T5,a∈l->yV prog w (nk c scope cl C g T5) T6 (V a) (bs a))
  (ht: ∀a C g T5,a∈l->mT c.g g->(∀b∈(nk c scope cl C g T5).own++T5,c.g.get? b=az)->zB prog w (fs (nk c scope cl C g T5) (bs a++σf) []) VE (t a))
  (he: ∀a C g T5,a∈l->t a=ai->mT c.g g->(∀b∈(nk c scope cl C g T5).own++T5,c.g.get? b=az)->sM w.params c.X->Ev prog w (fs (nk c scope cl C g T5) (bs a++σf) []) elt (o a))
  (hoff: ∀h,In c σ Λ h->sM w.params c.X)
  (hsz:l.length<=bn) (VH: ∀a∈l,(σf.all λq=>((bs a).lookup q.1).isNone)=ai)
  (U8:gK scope c.env=bG cl) (UU:vB c.env.cells cl) (UX:scope.kind= .function) (UQ: ∀y∈scope.names,y.2= .local->scope.names.lookup y.1=aa .local)
  (hb:mS prog w c.env c.A (In c ((y,.list ((l.filter t).map o))::σ) Λ) b J)
  (hx:autoParam (c.env.kindOf y=aa .local) XZ) (hk:autoParam (c.env.scope.kind= .function) XZ) (XF:autoParam (cJ (.ListComp elt [⟨T6,iter,VE,0⟩] scope pos) (aa (.Name y px)) Vd.line c.env=bG ai) XZ)
  (hs:autoParam (∀x,cO iter c.env x=bG x) X1):
  mS prog w c.env c.A (In c σ Λ) (.Assign [.Name y px] (.ListComp elt [⟨T6,iter,VE,0⟩] scope pos) Vd::b) J:=
 qQ (I':=In c ((y,.list ((l.filter t).map o))::σ) Λ) (λs i=>by
  rw [exec_Assign_Name_used _ _ _ _ XF]
  refine ae (eC (ae ?_))
  refine ae (ab (CZ (Q:=λz s'=>nA s s'/\In c ((y,.list ((l.filter t).map o))::σ) Λ s'.heap) σf t o hi hc (λa C g T5 h z=>ha a C g T5 h) ht (λa C g T5 ha ht hk hn=>he a C g T5 ha ht hk hn (hoff _ i)) hsz VH U8 UU UX UQ hs i (use:=aa (lW (.Name y px) c.env)) λT9 C v hC hns hf=> ?_) (λz s' hq=>aj (aj hq)) λz z e=>e)
  refine eE hns λmC nC=> ?_
  have hLC:c.env.locals≠C:=λq=>by
   obtain ⟨o,e⟩:=i.live _ i.locOwn
   rw [q,hC] at e;exact nB e
  refine eA (hf T9.heap ⟨rfl,λz z=>rfl⟩) λUI WD=> ?_
  have Uh:=i.mono (mz UI)
  refine mQ Uh.loc λm₀ Xw hm₀=> ?_
  refine dM (iO hx Xw (λUa WC sb1=>⟨mC,nC.sameBut sb1 hLC.symm,λh' sb'=> ?_⟩) (by rw [hk];rfl))
  refine v0 (id Xw) λoL esL epL eL dL rL=> ?_
  refine wN (id WC) λoL' z z eL' z=> ?_
  have e':h'.get? c.env.locals=aa oL':=(sb'.2 _ hLC).trans eL'
  have hfr:oL.isFreed=false:=(aW.get?_some_iff.mp eL).2
  have WJ:(h'.update c.env.locals λz=>oL).objs.size=h'.objs.size:=by cases h';simp [aW.update]
  have kl:cL c.env.locals (h'.update c.env.locals λz=>oL) h':=⟨WJ.symm,λb hb=>(df h' _ (Ne.symm hb)).symm⟩
  have kb:cL C T9.heap (h'.update c.env.locals λz=>oL):=⟨by rw [WJ,sb'.1,sb1.1],λb hb=>by
   by_cases q:b=c.env.locals
   ·rw [q,cr _ e' hfr,eL]
   ·rw [df h' _ (Ne.symm q),sb'.2 b hb,sb1.2 b q]⟩
  refine eA (hf _ kb) λT1 T4=> ?_
  have UV:=i.mono (mz T1)
  refine mQ UV.loc λm₄ n₄ hm₄=> ?_
  have em:m₄=m₀:=N2 n₄ (Xw.sameBut kb hLC)
  subst em
  exact ⟨(nA.of UI).trans ⟨_,_,rfl⟩,UV.store hx n₄ hm₄ (WC.sameBut sb' hLC) kl T4⟩) hb
end
end
section
open PySem.Calls PyProof.Rows PySem.Builtin.Str
section
variable {w:av}
noncomputable def MZ (p:PV):Option Fx:=match p with
 |.fx f=>aa f
 |_=>az
def qr (t:PV):Option (Fx×Fx×Fx):=match t with
 |.tup l=>match l with
  |[a,b,c]=>(MZ a).bind λa=>(MZ b).bind λb=>(MZ c).bind λc=>aa (a,b,c)
  |_=>az
 |_=>az
theorem AT {p:PV} (e:MZ p=aa f):p= .fx f:=by
 cases p<;>cases e;rfl
theorem v5 (e:qr t=aa q):t= .tup [.fx q.1,.fx q.2.1,.fx q.2.2]:=by
 cases t with
 |tup l=>
  match l with
  |[a,b,c]=>
   refine mZ e λx e1 e=>mZ e λy e2 e=>mZ e λz e3 e=> ?_
   rw [AT e1,AT e2,AT e3];obtain rfl:=am e;rfl
 |_=>exact nB e
def HQ (r g b:Fx) (UO:PV) (s v:Fx):Option (Bool×PV):=(uA (.fx r) (.fx g) (.fx b)).bind λt=>(qr t).bind λq=>(pE (.int 2) (.fx q.2.1)).bind λa=>(nQ (.int 2) (.fx s)).bind λc=>(pE (.fx v) c).bind λd=>
 (qB (.fx q.1) UO).bind λh=>(v6 h (.fx q.2.1) (.fx q.2.2)).bind λu=>aa (rO a d,u)
def IE (r g b:Fx) (UO:PV):Option (Bool×PV):=(oz (.fx r) (.fx g) (.fx b)).bind λt=>(qr t).bind λq=>(qB (.fx q.1) UO).bind λh=>(sp h (.fx q.2.1) (.fx q.2.2)).bind λu=>aa (ai,u)
def nY (f:Fx):Option Int:=(pE (.int 256) (.fx f)).bind λa=>(qB a (.int 1)).bind λc=>match c with
 |.fx g=>Option.map (λn:Nat=>Int.fdiv (gU n) 2) (IR g)
 |_=>az
def wG (p a:Int) (by_:Int) (s v:Fx):Option Int:=(vn p).bind λh=>(sp h (.fx s) (.fx v)).bind λt=>(qr t).bind λq=>(vn a).bind λUO=>
 (cond (by_ !=0) (HQ q.1 q.2.1 q.2.2 UO s v) (IE q.1 q.2.1 q.2.2 UO)).bind λz=>(qr z.2).bind λq'=>(oz (.fx q'.1) (.fx q'.2.1) (.fx q'.2.2)).bind λy=>(qr y).bind λu=>
 (nY u.1).bind λa0=>(nY u.2.1).bind λa1=>(nY u.2.2).bind λa2=>(nY s).bind λb1=>(nY v).bind λb2=>
 aa ((a0+64*(if (!(a1==b1&&a2==b2)|| !z.1)=ai then 1 else 0)).fmod 128)
theorem Hi (h:pE p q=aa x):uw x=ai:=by
 refine uI (wl h) λf g k a b c d T0=> ?_;obtain rfl:=T0;rfl
theorem Gd.comp (G:Gd w n c) (ho:sM w.params c.X) (k:mT c.g g) (hn: ∀b∈(nk c scope cl C g T5).own++T5,c.g.get? b=az) (hf:(nk c scope cl C g T5).env.scope.kind= .function):
  Gd w n (nk c scope cl C g T5):=⟨G.base.keep k,Cd (zK G.base λb hb=>hn b (aM _ hb)) ho,G.room,hf,G.gl,G.bl⟩
def nF (f:Fx):Int:=(nY f).getD 0
theorem we (e:nY f=aa a):nY f=aa (nF f):=by unfold nF;rw [e];rfl
theorem CS (G:Gd w n c) {l:List Fx} {qa qb qc qd qe qf qg qh qi qj qk px Vd:Pos} (hl: ∀f∈l,nY f=aa (nF f)) (hz:l.length<=10)
  (hi:uv ms w c σ Λ [] (.Name "part" qa) iter (l.map .fx)) (UU:gK sc c.env=bG [])
  (hkf:sc.kind= .function) (hp: ∀C g T5,sB (nk c sc [] C g T5) "part") (hfn: ∀C g T5,(nk c sc [] C g T5).env.scope.kind= .function) (hki: ∀C g T5,(nk c sc [] C g T5).env.kindOf "int"=aa .globalImplicit)
  (XA: ∀y∈sc.names,y.2= .local->sc.names.lookup y.1=aa .local) (hs: ∀x,cO iter c.env x=bG x)
  (hb:mS ms w c.env c.A (In c ((y,.list (l.map λf=>.int (nF f)))::σ) Λ) b J)
  (hy:c.env.kindOf y=aa .local) (XF:cJ (.ListComp (.BinOp (.Call (.Name "int" qb) [.BinOp (.BinOp (.Constant (.int 256) k1 qc) .Mult (.Name "part" qd) qe) .Add (.Constant (.int 1) k2 qf) qg] [] qh) .FloorDiv (.Constant (.int 2) k3 qi) qj) [⟨.Name "part" qa,iter,[],0⟩] sc qk) (aa (.Name y px)) Vd.line c.env=bG ai):
  mS ms w c.env c.A (In c σ Λ) (.Assign [.Name y px] (.ListComp (.BinOp (.Call (.Name "int" qb) [.BinOp (.BinOp (.Constant (.int 256) k1 qc) .Mult (.Name "part" qd) qe) .Add (.Constant (.int 1) k2 qf) qg] [] qh) .FloorDiv (.Constant (.int 2) k3 qi) qj) [⟨.Name "part" qa,iter,[],0⟩] sc qk) Vd::b) J:=by
 have XC:=aw
 refine wp (l:=l) (V:=.fx) (bs:=λf=>[("part",.fx f)]) (cl:=[]) [] (λz=>ai) (λf=>.int (nF f)) hi nJ (λf C g T5 z=>nO (hp C g T5) (hfn C g T5)) (λf C g T5 z z z=>oa) (λf C g T5 hf z k hn ho=> ?_) (λh i=>G.offX i) (by exact (mu (.i (.l xA (.c 10)) (.i (.e xB xL) (.l xA xB))) [_,_]) hz XC) (λz z=>rfl) UU trivial hkf XA (by exact (bW.mpr (λz z=>rfl))▸hb) hy G.fn XF hs
 have G':=Gd.comp G ho k hn (hfn C g T5)
 have e:=hl f hf
 refine mQ (bd.mp e) λa e1 e=> ?_
 refine mQ (bd.mp e) λb e2 e=> ?_
 cases b with
 |fx y=>
  refine mQ (dT.mp e) λm e3 e4=> ?_
  rw [<-e4]
  refine mI (p:=.int m) (q:=.int 2) (n9 G' (v:=.type "int") (ps:=[.fx y]) (by kernel_rfl) (by kernel_rfl) (my (mI (p:=a) (q:=.int 1) (mI (p:=.int 256) (q:=.fx f) mM ?_ (pI e1)) mM (qA e2)) mH) (Bt e3) (.inr ⟨_,rfl⟩) (by decide+kernel) (hki C g T5)) mM (oX (by decide) (by decide))
  exact nu (by walk_at "lk") (hfn C g T5)
 |_=>exact nB e
set_option maxHeartbeats 2000000 in
structure Sd (p a b:Int) (s v:Fx) (r:Int) (h UO:PV) (q q' u:Fx×Fx×Fx) (half:Bool):Prop where
 e1:vn p=aa h
 e2:sp h (.fx s) (.fx v)=aa (.tup [.fx q.1,.fx q.2.1,.fx q.2.2])
 e4:vn a=aa UO
 e5:cond (b !=0) (HQ q.1 q.2.1 q.2.2 UO s v) (IE q.1 q.2.1 q.2.2 UO)=aa (half,.tup [.fx q'.1,.fx q'.2.1,.fx q'.2.2])
 e7:oz (.fx q'.1) (.fx q'.2.1) (.fx q'.2.2)=aa (.tup [.fx u.1,.fx u.2.1,.fx u.2.2])
 f0: ∀f∈[u.1,u.2.1,u.2.2],nY f=aa (nF f)
 f3: ∀f∈[s,v],nY f=aa (nF f)
 eF:(nF u.1+64*(if (!(nF u.2.1==nF s&&nF u.2.2==nF v)|| !half)=ai then 1 else 0)).fmod 128=r
theorem wa (e:nY f=aa n):nF f=n:=by unfold nF;rw [e];rfl
theorem HH (e:wG p a b s v=aa r): ∃h UO q q' u half,Sd p a b s v r h UO q q' u half:=by
 exact mZ e λh e1 e=>mZ e λt e2 e=>mZ e λq e3 e=>mZ e λUO e4 e=>mZ e λz e5 e=>mZ e λq' e6 e=>mZ e λy e7 e=>mZ e λu e8 e=>
  mZ e λt0 f0 e=>mZ e λt1 f1 e=>mZ e λt2 f2 e=>mZ e λk1 f3 e=>mZ e λk2 f4 eF=>
  ⟨h,UO,q,q',u,z.1,e1,e2.trans (congrArg aa (v5 e3)),e4,e5.trans (congrArg aa (eS rfl (v5 e6))),e7.trans (congrArg aa (v5 e8)),
   eG.mpr ⟨we f0,eG.mpr ⟨we f1,eG.mpr ⟨we f2,λz h=>nomatch h⟩⟩⟩,
   eG.mpr ⟨we f3,eG.mpr ⟨we f4,λz h=>nomatch h⟩⟩,by rw [wa f0,wa f1,wa f2,wa f3,wa f4];exact am eF⟩
structure Q1 (r g b:Fx) (UO:PV) (s v:Fx) (half:Bool) (z:PV) (q:Fx×Fx×Fx) (a c d h:PV):Prop where
 k1:uA (.fx r) (.fx g) (.fx b)=aa (.tup [.fx q.1,.fx q.2.1,.fx q.2.2])
 k3:pE (.int 2) (.fx q.2.1)=aa a
 k4:nQ (.int 2) (.fx s)=aa c
 k5:pE (.fx v) c=aa d
 k6:qB (.fx q.1) UO=aa h
 k7:v6 h (.fx q.2.1) (.fx q.2.2)=aa z
 k8:half=rO a d
theorem KG (e:HQ r g b UO s v=aa (half,z)): ∃q a c d h,Q1 r g b UO s v half z q a c d h:=by
 exact mZ e λt k1 e=>mZ e λq k2 e=>mZ e λa k3 e=>mZ e λc k4 e=>mZ e λd k5 e=>mZ e λh k6 e=>mZ e λu k7 e=>by
  cases e
  exact ⟨q,a,c,d,h,k1.trans (congrArg aa (v5 k2)),k3,k4,k5,k6,k7,rfl⟩
structure QJ (r g b:Fx) (UO:PV) (half:Bool) (z:PV) (q:Fx×Fx×Fx) (h:PV):Prop where
 k1:oz (.fx r) (.fx g) (.fx b)=aa (.tup [.fx q.1,.fx q.2.1,.fx q.2.2])
 k6:qB (.fx q.1) UO=aa h
 k7:sp h (.fx q.2.1) (.fx q.2.2)=aa z
 k8:ai=half
theorem Ja (e:IE r g b UO=aa (half,z)): ∃q h,QJ r g b UO half z q h:=by
 exact mZ e λt k1 e=>mZ e λq k2 e=>mZ e λh k6 e=>mZ e λu k7 e=>by
  cases e
  exact ⟨q,h,k1.trans (congrArg aa (v5 k2)),k6,k7,rfl⟩
theorem FZ (p0:0<=p) (p1:p<128) (a0:0<=a) (a1:a<128) (e:wG p a b s v=aa r):rI ms w 3 309 [.int p,.int a,.int b,.fx s,.fx v] (.int r):=by
 refine OW (HH e) λh UO q q' u half T=> ?_
 have hz: ∀l:List PV,l.length<=3->l.length<=bn:=λl h=>cg h (by rw [aw];decide)
 refine qE ["place","ahead","by_hls","share","value"] (NE _) (λvs e=> ?_) (λA X g' L lx G=> ?_)
 ·refine Jj (SY e) λz z z z z T0=> ?_;obtain rfl:=T0;kernel_rfl!
 have hh:(A.deeper (bf zN L 309)).handled=az:=G.room.1
 have hu:(A.deeper (bf zN L 309)).units+64<fv:=by have:=G.room.2.2;simp only [mU] at this;exact (mu (.i (.b (.a (.a xA (.m 10 xM)) xP) xB) (.b (.a xA (.c 64)) xB)) [_,_]) this
 have G2:Gd w 2 (mU zN 309 A X [] g' L):=⟨G.base,G.off,G.room.less (by decide),rfl,rfl,rfl⟩
 have G1:Gd w 1 (mU zN 309 A X [] g' L):=⟨G.base,G.off,G.room.less (by decide),rfl,rfl,rfl⟩
 refine su (p:=.tup [.fx q.1,.fx q.2.1,.fx q.2.2]) (oE G2 (ps:=[h,.fx s,.fx v]) (by kernel_rfl) (DY _).e (my (oE G2 (ps:=[.int p]) (by kernel_rfl) (DX _).e (my ?_ mH) (AG p0 p1 T.e1)) (my ?_ (my ?_ mH))) (As rfl T.e2)) (tp hh) ?_
 ·walk_at "ev"
 ·walk_at "ev"
 ·walk_at "ev"
 refine mK (p:=UO) (oE G2 (ps:=[.int a]) (by kernel_rfl) (DX _).e (my ?_ mH) (AG a0 a1 T.e4)) ?_
 ·walk_at "ev"
 refine mK (p:=.bool ai) sF ?_
 refine (λtail=>m7 (d:=b !=0) ?e0 (λc1=>HA (I':=In (mU zN 309 A X [] g' L) [("half",.bool half),("red",.fx q'.1),("green",.fx q'.2.1),("blue",.fx q'.2.2),("share",.fx s),("value",.fx v)] []) ?e1 tail) (λc1=>HA ?e2 tail)) ?tail
 case e0=>
  refine rm (p:=.int b) ?_ Kw
  walk_at "ev"
 case e1=>
  refine Jj (KG (by have:=T.e5;rw [c1] at this;exact this)) λq2 x1 x2 x3 x4 H=> ?_
  refine su (p:=.tup [.fx q2.1,.fx q2.2.1,.fx q2.2.2]) (oE G1 (ps:=[.fx q.1,.fx q.2.1,.fx q.2.2]) (by kernel_rfl) (DS _).e (my ?_ (my ?_ (my ?_ mH))) (Gm trivial trivial trivial H.k1)) (tp hh) ?_
  ·walk_at "ev"
  ·walk_at "ev"
  ·walk_at "ev"
  refine mK (p:=.bool half) (mP (vg (p:=x1) (q:=x3) (mI (p:=.int 2) (q:=.fx q2.2.1) ?_ ?_ (pI H.k3)) (mI (p:=.fx v) (q:=x2) ?_ (mI (p:=.int 2) (q:=.fx s) ?_ ?_ (nN H.k4)) (pI H.k5)) (tI (Hi H.k3) (Hi H.k5))) (congrArg PV.bool H.k8.symm)) ?_
  ·walk_at "ev"
  ·walk_at "ev"
  ·walk_at "ev"
  ·walk_at "ev"
  ·walk_at "ev"
  refine su (p:=.tup [.fx q'.1,.fx q'.2.1,.fx q'.2.2]) (oE G2 (ps:=[x4,.fx q2.2.1,.fx q2.2.2]) (by kernel_rfl) (I1 _).e (my (mI (p:=.fx q2.1) (q:=UO) ?_ ?_ (qA H.k6)) (my ?_ (my ?_ mH))) (Ed rfl H.k7)) (tp hh) (sD λh i=>i.has ?_)
  ·walk_at "ev"
  ·walk_at "ev"
  ·walk_at "ev"
  ·walk_at "ev"
  ·walk_at "has"
 case e2=>
  refine rR (Ja (by have:=T.e5;rw [c1] at this;exact this)) λq2 x4 H=> ?_
  cases H.k8
  refine su (p:=.tup [.fx q2.1,.fx q2.2.1,.fx q2.2.2]) (oE G1 (ps:=[.fx q.1,.fx q.2.1,.fx q.2.2]) (by kernel_rfl) (vy _).e (my ?_ (my ?_ (my ?_ mH))) (uV trivial trivial trivial H.k1)) (tp hh) ?_
  ·walk_at "ev"
  ·walk_at "ev"
  ·walk_at "ev"
  refine su (p:=.tup [.fx q'.1,.fx q'.2.1,.fx q'.2.2]) (oE G2 (ps:=[x4,.fx q2.2.1,.fx q2.2.2]) (by kernel_rfl) (DY _).e (my (mI (p:=.fx q2.1) (q:=UO) ?_ ?_ (qA H.k6)) (my ?_ (my ?_ mH))) (As rfl H.k7)) (tp hh) (sD λh i=>i.has ?_)
  ·walk_at "ev"
  ·walk_at "ev"
  ·walk_at "ev"
  ·walk_at "ev"
  ·walk_at "has"
 case tail=>
  refine CS (l:=[u.1,u.2.1,u.2.2]) G1 T.f0 (by simp) (Hv (ps:=[u.1,u.2.1,u.2.2].map PV.fx) (oE G1 (ps:=[.fx q'.1,.fx q'.2.1,.fx q'.2.2]) (by kernel_rfl) (vy _).e (my ?_ (my ?_ (my ?_ mH))) (uV trivial trivial trivial T.e7)) hh (λz h=>nomatch h)) rfl rfl (λC g T5=>.inl rfl) (λC g T5=>rfl) (λC g T5=>rfl) (by decide+kernel) (λx=>rfl) ?_ rfl rfl
  ·walk_at "ev"
  ·walk_at "ev"
  ·walk_at "ev"
  refine CS (l:=[s,v]) G1 T.f3 (by simp) (Hv (ps:=[s,v].map PV.fx) (ot (ps:=[.fx s,.fx v]) (my ?_ (my ?_ mH)) (hz _ (by simp))) hh (λz h=>nomatch h)) rfl rfl (λC g T5=>.inl rfl) (λC g T5=>rfl) (λC g T5=>rfl) (by decide+kernel) (λx=>rfl) ?_ rfl rfl
  ·walk_at "ev"
  ·walk_at "ev"
  refine m9 (mP (mI (p:=.int (nF u.1+64*(if (!(nF u.2.1==nF s&&nF u.2.2==nF v)|| !half)=ai then 1 else 0))) (q:=.int 128) (mI (p:=.int (nF u.1)) (q:=.int (64*(if (!(nF u.2.1==nF s&&nF u.2.2==nF v)|| !half)=ai then 1 else 0))) (nj (p:=.list [.int (nF u.1),.int (nF u.2.1),.int (nF u.2.2)]) (q:=.int 0) ?_ mM (m4 (by decide) rfl (by decide))) (mI (p:=.int 64) (q:=.bool (!(nF u.2.1==nF s&&nF u.2.2==nF v)|| !half)) mM (Qk (p:=.bool (!(nF u.2.1==nF s&&nF u.2.2==nF v))) (q:=.bool (!half)) (a:= !(nF u.2.1==nF s&&nF u.2.2==nF v)) (vg (p:=.list [.int (nF u.2.1),.int (nF u.2.2)]) (q:=.list [.int (nF s),.int (nF v)]) (mP (tn (ps:=[.int (nF u.1),.int (nF u.2.1),.int (nF u.2.2)]) (lo:=aa 1) (hi:=az) ?_ (nW mM) rJ (hz _ (by simp))) rfl) ?_ (sV (FI hu rfl rfl rfl rfl) (by simp [da,gu]))) qt (λz=>rW (p:=.bool half) ?_ F4) ?_) F3) nV) mM (oq (by decide))) (congrArg PV.int T.eF))
  ·walk_at "ev"
  ·walk_at "ev"
  ·walk_at "ev"
  ·walk_at "ev"
  ·cases (nF u.2.1==nF s&&nF u.2.2==nF v)<;>rfl
end
section
variable {w:av}
abbrev IL:=List Int
noncomputable def si (l:IL):List PV:=l.map PV.int
def il (l:IL):PV:=.list (si l)
noncomputable def m8 (rows:List IL) (i:Nat):IL:=(rows[i]?).getD []
def ql (rows:List IL) (last n k:Nat):IL:=(ag k).foldl (λt i=>t++aG ((m8 rows (n+1+i)).length - (m8 rows (n+i)).length) ((last:Int) - ((n+1+i:Nat):Int)+1)) []
noncomputable def uq (sh:Int) (WT:IL):IL:=(dF (WT++[0]) (0::WT)).map λq=>q.1+sh*q.2
def tB (rows:List IL) (last n i:Nat):IL:=aG i ((last:Int) - n)++aG ((m8 rows n).length - 2 - i) ((last:Int) - n+1)++ql rows last n (last - n)
def qG (x:Int) (U3:IL):IL:=U3.foldl (λs sh=>uq sh s) [x]
noncomputable def AI (t s:IL):IL:=(dF t s).map λq=>q.1+q.2
def rX (rows:List IL) (last n k:Nat) (U0:IL):IL:=(ag k).foldl (λt i=>AI t (qG ((m8 rows n)[i]?.getD 0) (tB rows last n i))) U0
def rG (rows:List IL) (last k:Nat):IL:=(ag k).foldl (λt n=>rX rows last n ((m8 rows n).length - 1) t) (aG ((m8 rows last).length - 1) 0)
def zP (rows:List IL):IL:=((m8 rows (rows.length - 1)).getLast?.getD 0::rG rows (rows.length - 1) rows.length).map λx=>x.fmod 128
theorem uO (rows:List IL) (last n k:Nat):ql rows last n (k+1)=ql rows last n k++aG ((m8 rows (n+1+k)).length - (m8 rows (n+k)).length) ((last:Int) - ((n+1+k:Nat):Int)+1):=by
 unfold ql;rw [cy,dc];rfl
theorem wV (rows:List IL) (last n k:Nat) (U0:IL):rX rows last n (k+1) U0=AI (rX rows last n k U0) (qG ((m8 rows n)[k]?.getD 0) (tB rows last n k)):=by
 unfold rX;rw [cy,dc];rfl
theorem zb (rows:List IL) (last k:Nat):rG rows last (k+1)=rX rows last k ((m8 rows k).length - 1) (rG rows last k):=by
 unfold rG;rw [cy,dc];rfl
theorem HW (sh:Int) (s:IL):(uq sh s).length=s.length+1:=by unfold uq;simp
theorem F2 (x:Int) (U3:IL) (k:Nat) (sh:Int) (e:U3[k]? =aa sh):qG x (U3.take (k+1))=uq sh (qG x (U3.take k)):=by
 unfold qG;rw [gA,e];simp [dc]
theorem BQ (x:Int) (U3:IL):(qG x U3).length=U3.length+1:=by
 unfold qG
 have: ∀(l:IL) (s:IL),(l.foldl (λs sh=>uq sh s) s).length=s.length+l.length:=by
  intro l
  induction l with
  |nil=>intro s;rfl
  |cons a l ih=>intro s;rw [eX,ih,HW,aU];exact mu (.e (.a (.a xA xI) xB) (.a xA (.a xB xI))) [_,_]
 rw [this];simp;exact mu (.e (.a xI xA) (.a xA xI)) [_]
theorem MW (t s:IL):(AI t s).length<=t.length:=by unfold AI;simp;exact mu (.l (.n xA xB) xA) [_,_]
theorem x8 (rows:List IL) (last n:Nat) (U0:IL): ∀k,(rX rows last n k U0).length<=U0.length
 |0=>aN _
 |k+1=>by rw [wV];exact cg (MW _ _) (x8 rows last n U0 k)
theorem AB (rows:List IL) (last:Nat): ∀k,(rG rows last k).length<=(m8 rows last).length - 1
 |0=>by unfold rG;simp
 |k+1=>by rw [zb];exact cg (x8 _ _ _ _ _) (AB rows last k)
theorem uW {rows:List IL} (h: ∀r∈rows,r.length<=5) (i:Nat):(m8 rows i).length<=5:=by
 unfold m8
 cases e:rows[i]? with
 |none=>simp
 |some r=>exact h r (br e)
theorem yl {rows:List IL} (h: ∀r∈rows,r.length<=5) (last n:Nat): ∀k,(ql rows last n k).length<=5*k
 |0=>by unfold ql;simp
 |k+1=>by
  rw [uO,af,a8]
  have:=yl h last n k
  have:=uW h (n+1+k)
  exact (mu (.i (.l xA (.m 5 xD)) (.i (.l xB xN) (.l (.a xA (.s xB xC)) (.m 5 (.a xD xI))))) [_,_,_,_]) (by assumption) this
theorem yn (h:i<rows.length):(rows.map il)[i]? =aa (il (m8 rows i)):=by
 unfold m8;rw [a7,aA h];rfl
theorem zO (a b:IL):si (a++b)=si a++si b:=bh
theorem zE (n:Nat) (x:Int):si (aG n x)=(aG n [PV.int x]).flatten:=by
 unfold si;rw [eZ,List.flatten_replicate_singleton]
theorem oZ (a:IL):(si a).length=a.length:=ah _
noncomputable def pr (q:Int×Int):PV:=.tup [.int q.1,.int q.2]
theorem EO: ∀a b:IL,(jf (λp q=>[p,q]) (si a) (si b)).map PV.tup=(dF a b).map pr
 |[],_=>rfl
 |_::_,[]=>rfl
 |x::a,y::b=>by
  exact congrArg _ (EO a b)
theorem Jq (rows:List IL):(((rows.map il).mapIdx λi p=>[PV.int i,p]).map PV.tup)=(ag rows.length).map λ(n:Nat)=>PV.tup [.int n,il (m8 rows n)]:=by
 apply gO
 ·simp
 ·intro i h1 h2
  have hi:i<rows.length:=by simpa using h1
  simp [m8,aA hi]
theorem AA {α β:Type} (l:List α) (o:α->β):(l.filter λz=>ai).map o=l.map o:=by rw [bW.mpr (λz z=>rfl)]
theorem EJ (hp:ps.getLast? =aa p):n0 prog w A X (dS value Uv) (.list ps) (.int (-1)) p:=λs x y z r q=>by
 refine nh r ?_;clear r;intro a vs T0 ha hl rs;obtain rfl:=T0;obtain ⟨u,rfl⟩:=q
 rw [j5] at hp
 have Ud:ps.length - 1<ps.length:=(aT.mp hp).1
 refine mQ (rs.get hp) λv e rv=> ?_
 have hsz:=rs.len
 refine vH hl.typeIs fP.lookup (wpAny_getItem_list_neg hl (by decide) (by simp;exact (mu (.i (.b (.s xB xI) xB) (.i (.e xA xB) (.L xI (.k xA)))) [_,_]) Ud hsz) (by decide) (x:=v) ?_ ⟨mN _,rv⟩)
 have:((-1:Int)+(vs.toArray.size:Nat)).toNat=ps.length - 1:=by simp;exact (mu (.i (.e xA xB) (.e (.t (.a (.g xI) (.k xA))) (.s xB xI))) [_,_]) hsz
 rw [this];simpa using e
end
section
variable {w:av}
theorem L2 (hn:n<=last) (hl:last<=3) (hrows:rows.length=last+1): ∀x∈tB rows last n i,0<=x/\x<=4:=by
 have later: ∀k,k<=last - n-> ∀x∈ql rows last n k,0<=x/\x<=4:=by
  intro k
  induction k with
  |zero=>intro _ x hx;simp [ql] at hx
  |succ k ih=>
   intro hk x hx
   rw [uO] at hx
   rcases ar.mp hx with q|q
   ·exact ih (by exact (mu (.i (.l (.a xA xI) (.s xB xC)) (.l xA (.s xB xC))) [_,_,_]) hk) x q
   ·rw [(dW.mp q).2];exact (mu (.i (.l xA xO) (.i (.l (.a xC xI) (.s xA xB)) (.a (.L xJ (.a (.s (.k xA) (.k (.a (.a xB xI) xC))) xI)) (.L (.a (.s (.k xA) (.k (.a (.a xB xI) xC))) xI) xK)))) [_,_,_]) hl hk
 intro x hx
 unfold tB at hx
 rcases ar.mp hx with q|q
 ·rcases ar.mp q with q|q
  ·rw [(dW.mp q).2];exact (mu (.i (.l xB xA) (.i (.l xA xO) (.a (.L xJ (.s (.k xA) (.k xB))) (.L (.s (.k xA) (.k xB)) xK)))) [_,_]) hn hl
  ·rw [(dW.mp q).2];exact (mu (.i (.l xB xA) (.i (.l xA xO) (.a (.L xJ (.a (.s (.k xA) (.k xB)) xI)) (.L (.a (.s (.k xA) (.k xB)) xI) xK)))) [_,_]) hn hl
 ·exact later _ (aN _) x q
theorem KE (h:0<=x/\x<=4):IntMulOk x y:=by
 obtain ⟨h0,h1⟩:=h
 have:x=0\/x=1\/x=2\/x=3\/x=4:=by exact (mu (.i (.L xJ xA) (.i (.L xA xK) (.o (.E xA xJ) (.o (.E xA xI) (.o (.E xA xM) (.o (.E xA xO) (.E xA xK))))))) [] [_]) h0 h1
 rcases this with rfl|rfl|rfl|rfl|rfl<;>exact .of_left (by decide+kernel)
theorem An (h1:0<=a) (h2:a<=1000000) (h3:0<=b) (h4:b<=1000000):jI a b 1=ai:=small_one (by exact (mu (.i (.L xJ xA) (.L (.g NK) xA)) [] [_]) h1) (by exact (mu (.i (.L xA (.c 1000000)) (.B xA NK)) [] [_]) h2) (by exact (mu (.i (.L xJ xA) (.L (.g NK) xA)) [] [_]) h3) (by exact (mu (.i (.L xA (.c 1000000)) (.B xA NK)) [] [_]) h4)
set_option maxHeartbeats 4000000 in
theorem JQ (h0:1<=rows.length) (h4:rows.length<=4) (h5: ∀r∈rows,r.length<=5) (h1: ∀r∈rows,1<=r.length):rI ms w 1 321 [.list (rows.map il)] (il (zP rows)):=by
 refine qE ["rows"] (Nt _) (λvs e=> ?_) (λA X g' L lx G=> ?_)
 ·refine eE (vp e) λz T0=> ?_;obtain rfl:=T0;kernel_rfl!
 ·have hh:(A.deeper (bf Ir L 321)).handled=az:=G.room.1
  have hz:=aw
  obtain ⟨last,Uo⟩: ∃last,rows.length=last+1:=⟨rows.length - 1,by exact (mu (.i (.l xI xA) (.e xA (.a (.s xA xI) xI))) [_]) h0⟩
  have WV: ∀i,i<rows.length->1<=(m8 rows i).length:=λi hi=>by
   unfold m8;rw [aA hi];exact h1 _ (dm hi)
  have hL1:=WV last (by exact (mu (.i (.e xB (.a xA xI)) (.b xA xB)) [_,_]) Uo)
  have hL5:=uW h5 last
  refine mK (p:=.int last) (mP (mI (p:=.int ((rows.map il).length:Nat)) (q:=.int 1) (n9 G (ps:=[.list (rows.map il)]) (by kernel_rfl) (by kernel_rfl) (my ?_ mH) (r4 (by rw [ah];exact (mu (.i (.l xA xK) (.l xA (.c 1000000))) [_]) h4))) mM nI) (by rw [ah,Uo];exact congrArg _ (mu (.E (.s (.k (.a xA xI)) xI) (.k xA)) [_]))) ?_
  ·walk_at "ev"
  refine mK (p:=il (aG ((m8 rows last).length - 1) 0)) (mP (uQ (ps:=[.int 0]) (k:=((m8 rows last).length:Int) - 1) (my mM mH) (mI (p:=.int ((si (m8 rows last)).length:Nat)) (q:=.int 1) (n9 G (ps:=[il (m8 rows last)]) (by kernel_rfl) (by kernel_rfl) (my (nj (p:=.list (rows.map il)) (q:=.int last) ?_ ?_ (m4 (by exact mu (.L xJ (.k xA)) [_]) (by rw [bZ];exact yn (by exact (mu (.i (.e xB (.a xA xI)) (.b xA xB)) [_,_]) Uo)) (by exact (mu (.i (.l xB xK) (.i (.e xB (.a xA xI)) (.B (.k xA) xS))) [_,_]) h4 Uo))) mH) (r4 (by rw [oZ];exact (mu (.i (.l xA xN) (.l xA (.c 1000000))) [_]) hL5))) mM (sV nI (by rw [oZ]))) (by decide) (by simp) (by exact mu (.L (.g xS) (.s (.k xA) xI)) [_]) (by exact (mu (.i (.l xA xN) (.L (.s (.k xA) xI) (.c 10000))) [_]) hL5)) (by
   unfold il;rw [zE];congr 3;exact mu (.e (.t (.s (.k xA) xI)) (.s xA xI)) [_])) ?_
  ·walk_at "ev"
  ·walk_at "ev"
  refine o0 (σ':=[("total",il (rG rows last 0)),("rows",.list (rows.map il)),("last",.int last)]) (by walk_at "has") ?_
  refine rK G (l:=ag rows.length) (V:=λ(n:Nat)=>.tup [.int n,il (m8 rows n)]) (bs:=λn=>[("row",il (m8 rows n)),("n",.int n)]) (λk=>[("total",il (rG rows last k)),("rows",.list (rows.map il)),("last",.int last)]) (λz=>[])
   (Jq rows▸Me (s8 (rS G (by kernel_rfl) (by kernel_rfl)) (my (by walk_at "ev") mH)) hh (λb hb=>ax _ hb)) rfl rfl (λn is z=>qS hh) (λi n g1 is1 hi G1=> ?_) ?_
  ·obtain ⟨hn,rfl⟩:n<rows.length/\n=i:=by
    obtain ⟨h1,h2⟩:=aT.mp hi
    rw [cU] at h2
    exact ⟨by rw [<-h2];simpa using h1,h2.symm⟩
   clear hi
   have hh1:=hh
   have WA:=uW h5 n
   have hlr1:=WV n hn
   refine mK (p:=il []) (pW mH (cx _)) ?_
   refine o0 (σ':=[("later",il (ql rows last n 0)),("row",il (m8 rows n)),("n",.int n),("total",il (rG rows last n)),("rows",.list (rows.map il)),("last",.int last)]) (by walk_at "has") ?_
   refine rK G1 (l:=ag (last - n)) (V:=λ(k:Nat)=>.int (((n:Int)+1)+k)) (bs:=λk=>[("j",.int (((n:Int)+1)+k))]) (λk=>[("later",il (ql rows last n k)),("row",il (m8 rows n)),("n",.int n),("total",il (rG rows last n)),("rows",.list (rows.map il)),("last",.int last)]) (λz=>[])
    (y8 (a:=(n:Int)+1) (b:=(last:Int)+1) (n:=last - n) (J9 (s8 (rS G1 (by kernel_rfl) (by kernel_rfl)) (my (mI (p:=.int n) (q:=.int 1) ?_ mM nV) (my (mI (p:=.int last) (q:=.int 1) ?_ mM nV) mH)))) ?_ ?_ hh) rfl rfl (λk is z=>nO) (λk k' g2 U1 hk G2=> ?_) ?_
   ·walk_at "ev"
   ·walk_at "ev"
   ·rw [lq];split<;>(first|exact (mu (.i (.B (.a (.k xB) xI) (.a (.k xA) xI)) (.E (.s (.a (.k xA) xI) (.a (.k xB) xI)) (.k (.s xA xB)))) [_,_]) (by assumption)|exact (mu (.i (.n (.B (.a (.k xB) xI) (.a (.k xA) xI))) (.E xJ (.k (.s xA xB)))) [_,_]) (by assumption))
   ·exact An (by exact mu (.L xJ (.a (.k xA) xI)) [_]) (by exact (mu (.i (.l xB xK) (.i (.b xA xB) (.L (.a (.k xA) xI) (.c 1000000)))) [_,_]) h4 hn) (by exact mu (.L xJ (.a (.k xA) xI)) [_]) (by exact (mu (.i (.l xB xK) (.i (.e xB (.a xA xI)) (.L (.a (.k xA) xI) (.c 1000000)))) [_,_]) h4 Uo)
   ·obtain ⟨VC,rfl⟩:k'<last - n/\k'=k:=by
     obtain ⟨h1,h2⟩:=aT.mp hk
     rw [cU] at h2
     exact ⟨by rw [<-h2];simpa using h1,h2.symm⟩
    clear hk
    have ej:((n:Int)+1)+(k':Int)=((n+1+k':Nat):Int):=by exact mu (.E (.a (.a (.k xA) xI) (.k xB)) (.k (.a (.a xA xI) xB))) [_,_]
    rw [ej]
    have hj5:=uW h5 (n+1+k')
    have hj5':=uW h5 (n+k')
    have Um:=yl h5 last n k'
    refine mK (p:=il (ql rows last n (k'+1))) (mP (mI (p:=il (ql rows last n k')) (q:=il (aG ((m8 rows (n+1+k')).length - (m8 rows (n+k')).length) ((last:Int) - ((n+1+k':Nat):Int)+1))) ?_
     (mP (uQ (ps:=[.int ((last:Int) - ((n+1+k':Nat):Int)+1)]) (k:=((m8 rows (n+1+k')).length:Int) - ((m8 rows (n+k')).length:Int)) (my (mI (p:=.int ((last:Int) - ((n+1+k':Nat):Int))) (q:=.int 1) (mI (p:=.int last) (q:=.int ((n+1+k':Nat):Int)) ?_ ?_ nI) mM nV) mH)
      (mI (p:=.int ((si (m8 rows (n+1+k'))).length:Nat)) (q:=.int ((si (m8 rows (n+k'))).length:Nat)) (n9 G2 (ps:=[il (m8 rows (n+1+k'))]) (by kernel_rfl) (by kernel_rfl) (my (nj (p:=.list (rows.map il)) (q:=.int ((n+1+k':Nat):Int)) ?_ ?_ (m4 (by exact mu (.L xJ (.k (.a (.a xA xI) xB))) [_,_]) (by rw [bZ];exact yn (by exact (mu (.i (.e xC (.a xD xI)) (.i (.b xB (.s xD xA)) (.b (.a (.a xA xI) xB) xC))) [_,_,_,_]) Uo VC)) (by exact (mu (.i (.l xC xK) (.i (.e xC (.a xD xI)) (.i (.b xB (.s xD xA)) (.B (.k (.a (.a xA xI) xB)) xS)))) [_,_,_,_]) h4 Uo VC))) mH) (r4 (by rw [oZ];exact (mu (.i (.l xA xN) (.l xA (.c 1000000))) [_]) hj5)))
       (n9 G2 (ps:=[il (m8 rows (n+k'))]) (by kernel_rfl) (by kernel_rfl) (my (nj (p:=.list (rows.map il)) (q:=.int ((n+k':Nat):Int)) ?_ (mI (p:=.int ((n+1+k':Nat):Int)) (q:=.int 1) ?_ mM (sV nI (by exact congrArg _ (mu (.E (.s (.k (.a (.a xA xI) xB)) xI) (.k (.a xA xB))) [_,_])))) (m4 (by exact mu (.L xJ (.k (.a xA xB))) [_,_]) (by rw [bZ];exact yn (by exact (mu (.i (.e xC (.a xD xI)) (.i (.b xB (.s xD xA)) (.b (.a xA xB) xC))) [_,_,_,_]) Uo VC)) (by exact (mu (.i (.l xC xK) (.i (.e xC (.a xD xI)) (.i (.b xB (.s xD xA)) (.B (.k (.a xA xB)) xS)))) [_,_,_,_]) h4 Uo VC))) mH) (r4 (by rw [oZ];exact (mu (.i (.l xA xN) (.l xA (.c 1000000))) [_]) hj5')))
       (sV nI (by rw [oZ,oZ]))) (by simp) (by simp) (by exact (mu (.i (.l xB xN) (.L (.g xS) (.s (.k xA) (.k xB)))) [_,_]) hj5') (by exact (mu (.i (.l xA xN) (.L (.s (.k xA) (.k xB)) (.c 10000))) [_,_]) hj5)) (by unfold il;rw [zE];congr 3;exact mu (.e (.t (.s (.k xA) (.k xB))) (.s xA xB)) [_,_])) (pL (by rw [oZ,oZ,a8];exact (mu (.i (.l xE xK) (.i (.e xD xL) (.i (.e xE (.a xF xI)) (.i (.b xG (.s xF xH)) (.i (.l xB xN) (.i (.l xA (.m 5 xG)) (.l (.a xA (.s xB xC)) xD))))))) [_,_,_,_,_,_,_,_]) h4 hz Uo VC hj5 Um))) (by rw [uO];unfold il;rw [zO])) (qK (by walk_at "has"))
    ·walk_at "ev"
    ·walk_at "ev"
    ·walk_at "ev"
    ·walk_at "ev"
    ·walk_at "ev"
    ·walk_at "ev"
    ·walk_at "ev"
   ·refine o0 (σ':=[("total",il (rX rows last n 0 (rG rows last n))),("later",il (ql rows last n (last - n))),("row",il (m8 rows n)),("n",.int n),("rows",.list (rows.map il)),("last",.int last)]) ?_ ?_
    ·rw [be];walk_at "has"
    have Um:=yl h5 last n (last - n)
    refine rK G1 (l:=ag ((m8 rows n).length - 1)) (V:=λ(k:Nat)=>.int ((0:Int)+k)) (bs:=λk=>[("i",.int ((0:Int)+k))]) (λk=>[("total",il (rX rows last n k (rG rows last n))),("later",il (ql rows last n (last - n))),("row",il (m8 rows n)),("n",.int n),("rows",.list (rows.map il)),("last",.int last)]) (λz=>[])
     (y8 (a:=0) (b:=((m8 rows n).length:Int) - 1) (n:=(m8 rows n).length - 1) (CK (s8 (rS G1 (by kernel_rfl) (by kernel_rfl)) (my (mI (p:=.int ((si (m8 rows n)).length:Nat)) (q:=.int 1) (n9 G1 (ps:=[il (m8 rows n)]) (by kernel_rfl) (by kernel_rfl) (my ?_ mH) (r4 (by rw [oZ];exact (mu (.i (.l xA xN) (.l xA (.c 1000000))) [_]) WA))) mM (sV nI (by rw [oZ]))) mH))) ?_ ?_ hh) rfl rfl (λk is z=>nO) (λk k' g2 U1 hk G2=> ?_) ?_
    ·walk_at "ev"
    ·rw [lq];split<;>(first|exact (mu (.i (.B xJ (.s (.k xA) xI)) (.E (.s (.s (.k xA) xI) xJ) (.k (.s xA xI)))) [_]) (by assumption)|exact (mu (.i (.n (.B xJ (.s (.k xA) xI))) (.E xJ (.k (.s xA xI)))) [_]) (by assumption))
    ·exact An (by exact mu (.L xJ xJ) [] []) (by exact mu (.L xJ (.c 1000000)) [] []) (by exact (mu (.i (.l xI xA) (.L xJ (.s (.k xA) xI))) [_]) hlr1) (by exact (mu (.i (.l xA xN) (.L (.s (.k xA) xI) (.c 1000000))) [_]) WA)
    ·obtain ⟨VC,rfl⟩:k'<(m8 rows n).length - 1/\k'=k:=by
      refine eE (aT.mp hk) λh1 h2=> ?_
      rw [cU] at h2
      exact ⟨by rw [<-h2];simpa using h1,h2.symm⟩
     clear hk
     rw [gi]
     have hx:(m8 rows n)[k']? =aa ((m8 rows n)[k']?.getD 0):=by
      rw [aA (by exact (mu (.i (.b xA (.s xB xI)) (.b xA xB)) [_,_]) VC)];rfl
     generalize hX:(m8 rows n)[k']?.getD 0=x0 at hx
     have hok:=L2 (i:=k') (by exact (mu (.i (.e xC (.a xB xI)) (.i (.b xA xC) (.l xA xB))) [_,_,_]) Uo hn) (by exact (mu (.i (.l xB xK) (.i (.e xB (.a xA xI)) (.l xA xO))) [_,_]) h4 Uo) Uo (rows:=rows) (n:=n)
     have Vv:(tB rows last n k').length<=30:=by unfold tB;simp only [af,a8];exact (mu (.i (.l xD xK) (.i (.e xD (.a xE xI)) (.i (.l xB xN) (.i (.l xC (.m 5 (.s xE xF))) (.i (.b xA (.s xB xI)) (.l (.a (.a xA (.s (.s xB xM) xA)) xC) (.c 30))))))) [_,_,_,_,_,_]) h4 Uo WA Um VC
     generalize hS:tB rows last n k'=U3 at hok Vv
     refine mK (p:=il (qG x0 [])) (pW (ps:=[.int x0]) (my (nj (p:=il (m8 rows n)) (q:=.int k') ?_ ?_ (m4 (by exact mu (.L xJ (.k xA)) [_]) (by rw [bZ];unfold si;rw [a7,hx];rfl) (by exact (mu (.i (.l xB xN) (.i (.b xA (.s xB xI)) (.B (.k xA) xS))) [_,_]) WA VC))) mH) (by simp;exact (mu (.i (.e xA xL) (.l xI xA)) [_]) hz)) ?_
     ·walk_at "ev"
     ·walk_at "ev"
     refine o0 (σ':=[("share",il (qG x0 (U3.take 0))),("i",.int k'),("total",il (rX rows last n k' (rG rows last n))),("later",il (ql rows last n (last - n))),("row",il (m8 rows n)),("n",.int n),("rows",.list (rows.map il)),("last",.int last)]) (by walk_at "has") ?_
     refine rK G2 (l:=U3) (V:=PV.int) (bs:=λk=>[("shift",.int k)]) (λk=>[("share",il (qG x0 (U3.take k))),("i",.int k'),("total",il (rX rows last n k' (rG rows last n))),("later",il (ql rows last n (last - n))),("row",il (m8 rows n)),("n",.int n),("rows",.list (rows.map il)),("last",.int last)]) (λz=>[])
      (qD (mP (mI (p:=.list (si (aG k' ((last:Int) - n))++si (aG ((m8 rows n).length - 2 - k') ((last:Int) - n+1)))) (q:=il (ql rows last n (last - n))) (mI (p:=il (aG k' ((last:Int) - n))) (q:=il (aG ((m8 rows n).length - 2 - k') ((last:Int) - n+1)))
       (mP (uQ (ps:=[.int ((last:Int) - n)]) (k:=(k':Int)) (my (mI (p:=.int last) (q:=.int n) ?_ ?_ nI) mH) ?_ (by simp) (fD _ _) (by exact mu (.L (.g xS) (.k xA)) [_]) (by exact (mu (.i (.l xB xN) (.i (.b xA (.s xB xI)) (.L (.k xA) (.c 10000)))) [_,_]) WA VC)) (by unfold il;rw [zE];congr 3))
       (mP (uQ (ps:=[.int ((last:Int) - n+1)]) (k:=((m8 rows n).length:Int) - 2 - k') (my (mI (p:=.int ((last:Int) - n)) (q:=.int 1) (mI (p:=.int last) (q:=.int n) ?_ ?_ nI) mM nV) mH)
        (mI (p:=.int (((m8 rows n).length:Int) - 2)) (q:=.int k') (mI (p:=.int ((si (m8 rows n)).length:Nat)) (q:=.int 2) (n9 G2 (ps:=[il (m8 rows n)]) (by kernel_rfl) (by kernel_rfl) (my ?_ mH) (r4 (by rw [oZ];exact (mu (.i (.l xA xN) (.l xA (.c 1000000))) [_]) WA))) mM (sV nI (by rw [oZ]))) ?_ nI) (by simp) (fD _ _) (by exact (mu (.i (.b xB (.s xA xI)) (.L (.g xS) (.s (.s (.k xA) xM) (.k xB)))) [_,_]) VC) (by exact (mu (.i (.l xA xN) (.L (.s (.s (.k xA) xM) (.k xB)) (.c 10000))) [_,_]) WA)) (by unfold il;rw [zE];congr 3;exact mu (.e (.t (.s (.s (.k xA) xM) (.k xB))) (.s (.s xA xM) xB)) [_,_]))
       (pL (by rw [oZ,oZ,a8,a8];exact (mu (.i (.e xC xL) (.i (.l xB xN) (.i (.b xA (.s xB xI)) (.l (.a xA (.s (.s xB xM) xA)) xC)))) [_,_,_]) hz WA VC))) ?_ (pL (by rw [af,oZ,oZ,oZ,a8,a8];exact (mu (.i (.l xE xK) (.i (.e xD xL) (.i (.e xE (.a xF xI)) (.i (.l xB xN) (.i (.l xC (.m 5 (.s xF xG))) (.i (.b xA (.s xB xI)) (.l (.a (.a xA (.s (.s xB xM) xA)) xC) xD))))))) [_,_,_,_,_,_,_]) h4 hz Uo WA Um VC))) (by rw [<-zO,<-zO,<-hS];rfl)) hh (.inl ⟨_,_,rfl⟩) (λb hb=>ax _ hb)) rfl rfl (λk is z=>nO (.inr ⟨L+1,n7.of (ve (fd:=Ir) (a:=321) (A:=A) (X:=X) (M:=[]) (g:=g') rfl (by kernel_rfl) (by kernel_rfl)) rfl (λb hb=>hb)⟩)) (λk sh g3 is3 hk3 G3=> ?_) ?_
     ·walk_at "ev"
     ·walk_at "ev"
     ·walk_at "ev"
     ·walk_at "ev"
     ·walk_at "ev"
     ·walk_at "ev"
     ·walk_at "ev"
     ·walk_at "ev"
     ·have hsh:=hok sh (br hk3)
      have UU:(qG x0 (U3.take k)).length<=31:=by rw [BQ,dk];exact (mu (.i (.l xB (.c 30)) (.l (.a (.n xA xB) xI) (.c 31))) [_,_]) Vv
      have UM:=F2 x0 U3 k sh hk3
      generalize qG x0 (U3.take k)=cur at UU UM ⊢
      refine wp (l:=dF (cur++[0]) (0::cur)) (V:=pr) (bs:=λq=>[("b",.int q.2),("a",.int q.1)]) (cl:=[("shift",L+1)]) [("shift",.int sh)] (λz=>ai) (λq=>.int (q.1+sh*q.2))
       ?h1 ?h2 ?h3 ?h4 ?h5 ?h6 ?h7 ?h8 ?h9 ?h10 ?h11 ?h12 ?h13 ?h14 ?h15 ?h16 ?h17
      case h1=>exact EO (cur++[0]) (0::cur)▸GF (ps:=si (cur++[0])) (qs:=si (0::cur)) (s8 (rS G3 (by kernel_rfl) (by kernel_rfl)) (my (mP (mI (p:=il cur) (q:=.list [.int 0]) (by walk_at "ev") (pW (my mM mH) (by simp;exact (mu (.i (.e xA xL) (.l xI xA)) [_]) hz)) (pL (by rw [oZ];simp;exact (mu (.i (.e xB xL) (.i (.l xA (.c 31)) (.l (.a xA xI) xB))) [_,_]) hz UU))) (by rw [zO];rfl)) (my (mI (p:=.list [.int 0]) (q:=il cur) (pW (my mM mH) (by simp;exact (mu (.i (.e xA xL) (.l xI xA)) [_]) hz)) (by walk_at "ev") (pL (by rw [oZ];simp;exact (mu (.i (.e xB xL) (.i (.l xA (.c 31)) (.l (.a xI xA) xB))) [_,_]) hz UU))) mH))) hh (λb hb=>nomatch hb)
      case h2=>exact (nZ nJ (by walk_at "lk") (.inl rfl) (λz=>by kernel_rfl) (λz=>.inl (by kernel_rfl)))
      case h3=>exact (λq C g T5 z=>qS hh)
      case h4=>exact (λq C g T5 z z z=>oa)
      case h5=>
       refine (λq C g T5 z z z z z=>mI (p:=.int q.1) (q:=.int (sh*q.2)) ?_ (mI (p:=.int sh) (q:=.int q.2) ?_ ?_ (BE (KE hsh))) nV)
       ·walk_at "ev"
       ·walk_at "ev"
       ·walk_at "ev"
      case h6=>exact (λh i=>G3.offX i)
      case h7=>simp;exact (mu (.i (.e xB xL) (.i (.l xA (.c 31)) (.l (.a xA xI) xB))) [_,_]) hz UU
      case h8=>exact (λz z=>by kernel_rfl)
      case h9=>kernel_rfl
      case h10=>exact ⟨by kernel_rfl,trivial⟩
      case h11=>rfl
      case h12=>decide+kernel
      case h13=>
       rw [AA]
       have:PV.list ((dF (cur++[0]) (0::cur)).map λq=>PV.int (q.1+sh*q.2))=il (qG x0 (U3.take (k+1))):=by
        rw [UM];unfold il uq si;rw [aB];rfl
       rw [this]
       exact qK (by walk_at "has")
      case h14=>rfl
      case h15=>rfl
      case h16=>rfl
      case h17=>intro _;rfl
     ·rw [eI]
      have UU:(qG x0 U3).length<=31:=by rw [BQ];exact (mu (.i (.l xA (.c 30)) (.l (.a xA xI) (.c 31))) [_]) Vv
      have Wc:=x8 rows last n (rG rows last n) k'
      have htl2:=AB rows last n
      have UM:=wV rows last n k' (rG rows last n)
      rw [hX,hS] at UM
      generalize qG x0 U3=cur at UU UM ⊢
      generalize rX rows last n k' (rG rows last n)=U0 at Wc UM ⊢
      refine wp (l:=dF U0 cur) (V:=pr) (bs:=λq=>[("b",.int q.2),("a",.int q.1)]) (cl:=[]) [] (λz=>ai) (λq=>.int (q.1+q.2))
       ?h1 ?h2 ?h3 ?h4 ?h5 ?h6 ?h7 ?h8 ?h9 ?h10 ?h11 ?h12 ?h13 ?h14 ?h15 ?h16 ?h17
      case h1=>exact EO U0 cur▸GF (ps:=si U0) (qs:=si cur) (s8 (rS G2 (by kernel_rfl) (by kernel_rfl)) (my (by walk_at "ev") (my (by walk_at "ev") mH))) hh (λb hb=>nomatch hb)
      case h2=>exact nJ
      case h3=>exact (λq C g T5 z=>qS hh)
      case h4=>exact (λq C g T5 z z z=>oa)
      case h5=>
       refine (λq C g T5 z z z z z=>mI (p:=.int q.1) (q:=.int q.2) ?_ ?_ nV)
       ·walk_at "ev"
       ·walk_at "ev"
      case h6=>exact (λh i=>G2.offX i)
      case h7=>simp;exact (mu (.i (.e xC xL) (.i (.l xB (.c 31)) (.l (.n xA xB) xC))) [_,_,_]) hz UU
      case h8=>exact (λz z=>rfl)
      case h9=>kernel_rfl
      case h10=>trivial
      case h11=>rfl
      case h12=>decide+kernel
      case h13=>
       rw [AA]
       have:PV.list ((dF U0 cur).map λq=>PV.int (q.1+q.2))=il (rX rows last n (k'+1) (rG rows last n)):=by
        rw [UM];unfold il AI si;rw [aB];rfl
       rw [this]
       exact qK (by walk_at "has")
      case h14=>rfl
      case h15=>rfl
      case h16=>rfl
      case h17=>intro _;rfl
    ·rw [be]
     have e:=zb rows last n
     rw [<-e]
     exact qK (by walk_at "has")
  ·rw [be]
   have WR:(m8 rows last).getLast? =aa ((m8 rows last).getLast?.getD 0):=by
    cases e:(m8 rows last).getLast? with
    |none=>rw [j4] at e;rw [e] at hL1;simp at hL1
    |some x=>rfl
   have Wc:=AB rows last rows.length
   have hP:zP rows=((m8 rows last).getLast?.getD 0::rG rows last rows.length).map λx=>x.fmod 128:=by
    unfold zP;rw [show rows.length - 1=last by exact (mu (.i (.e xA (.a xB xI)) (.e (.s xA xI) xB)) [_,_]) Uo]
   rw [hP]
   generalize (m8 rows last).getLast?.getD 0=y0 at WR ⊢
   generalize rG rows last rows.length=U0 at Wc ⊢
   have E: ∀{φ:Fs} {e:Expr},Ev ms w φ e (.list (((y0::U0).filter λz=>ai).map λq=>PV.int (q.fmod 128)))->Ev ms w φ e (il ((y0::U0).map λx=>x.fmod 128)):=λh=>mP h (by rw [AA];unfold il si;rw [aB];rfl)
   refine m9 (E ?_)
   refine pJ (l:=y0::U0) (V:=PV.int) (bs:=λq=>[("x",.int q)]) (cl:=[]) [] (λz=>ai) (λq=>.int (q.fmod 128)) ?h1 ?h2 ?h3 ?h4 ?h5 ?h6 ?h7 ?h8 ?h9 ?h10 ?h11 ?h12
   case h1=>
    refine qD (ps:=si (y0::U0)) ?_ hh (.inl ⟨_,_,rfl⟩) (λz h=>nomatch h)
    refine mI (p:=.list [.int y0]) (q:=il U0) (pW (ps:=[.int y0]) (my (nj (p:=il (m8 rows last)) (q:=.int (-1)) (nj (p:=.list (rows.map il)) (q:=.int last) ?_ ?_ (m4 (by exact mu (.L xJ (.k xA)) [_]) (by rw [bZ];exact yn (by exact (mu (.i (.e xB (.a xA xI)) (.b xA xB)) [_,_]) Uo)) (by exact (mu (.i (.l xB xK) (.i (.e xB (.a xA xI)) (.B (.k xA) xS))) [_,_]) h4 Uo))) (rW mM oB) (EJ (by unfold si;rw [gB,WR];rfl))) mH) (by simp;exact (mu (.i (.e xA xL) (.l xI xA)) [_]) hz)) ?_ (pL (by rw [oZ];simp;exact (mu (.i (.e xB xL) (.i (.l xC xN) (.i (.l xA (.s xC xI)) (.l (.a xI xA) xB)))) [_,_,_]) hz hL5 Wc))
    ·walk_at "ev"
    ·walk_at "ev"
    ·walk_at "ev"
   case h2=>exact nJ
   case h3=>exact (λq C g T5 z=>nO)
   case h4=>exact (λq C g T5 z z z=>oa)
   case h5=>
    refine (λq C g T5 z z z z=>mI (p:=.int q) (q:=.int 128) ?_ mM (oq (by decide)))
    walk_at "ev"
   case h6=>simp;exact (mu (.i (.e xB xL) (.i (.l xC xN) (.i (.l xA (.s xC xI)) (.l (.a xA xI) xB)))) [_,_,_]) hz hL5 Wc
   case h7=>exact (λz z=>rfl)
   case h8=>rfl
   case h9=>trivial
   case h10=>rfl
   case h11=>decide+kernel
   case h12=>intro _;rfl
end
end
section
open PySem.Calls PyProof.Rows
structure pD (prog:aH) (w:av) (I:aW->Prop) (env:Env) (A:aX) (b:List ef) (J:hG->aW->Prop):Prop where
 run: ∀s:aq,I s.heap->0<s.toks->aC (aI prog w) A (iA b env) (λfl s'=>nA s s'/\J fl s'.heap) (λz z=>False) s
structure Et (prog:aH) (w:av) (φ:Fs) (e:Expr) (P:PV->Prop):Prop where
 run: ∀s:aq,φ.I s.heap->0<s.toks->aC (aI prog w) φ.A (bJ e φ.env) (λv s'=>bB s s'/\ ∃p,P p/\mO φ.X s'.heap p v) (λz z=>False) s
structure MQ (prog:aH) (w:av) (A:aX) (X:List aF) (I:aW->Prop) (f:ay) (ps:List PV) (P:PV->Prop):Prop where
 run: ∀(s:aq) (vs:List ay),I s.heap->0<s.toks->n6 X s.heap->mJ X s.heap ps vs->aC (aI prog w) A (ft f vs) (λv s'=>bB s s'/\ ∃p,P p/\mO X s'.heap p v) (λz z=>False) s
section
variable {prog:aH} {w:av} {c:Sc} {σ:mW} {Λ:List (aF×List PV)} {I I':aW->Prop} {env:Env} {A:aX} {J J':hG->aW->Prop}
theorem pD.of (h:mS prog w env A I b J):pD prog w I env A b J:=.mk λs i z=>h.run s i
theorem CR (h:pD prog w I env A b (λfl g=>match fl with|.next=>I' g|f=>J f g)) (hc:pD prog w I' env A d J):pD prog w I env A (b++d) J:=.mk λs i t0 Γ p hΓ=>by
 refine EW b p s (cf _ Γ _ (λfl p' s' Ua=> ?_) (λz z z e=>e) _ _ (B9 _ _ p s (h.run s i t0 Γ p hΓ)))
 refine rN Ua λk e j=> ?_
 cases fl with
 |next=>exact cf _ Γ _ (λfl z Vo ⟨e',j'⟩=>⟨e.trans e',j'⟩) (λz z z e=>e) _ _ (hc.run s' j (bi t0 k) Γ p' hΓ)
 |brk=>exact ⟨e,j⟩
 |cont=>exact ⟨e,j⟩
 |ret v=>exact ⟨e,j⟩
theorem ME (h:mS prog w env A I b (λfl g=>match fl with|.next=>I' g|f=>J f g)) (hc:pD prog w I' env A d J):pD prog w I env A (b++d) J:=CR (.of h) hc
theorem Pk {ι:Type} {K:ι->aW->Prop} (h: ∀v,pD prog w (K v) env A b J):pD prog w (λg=> ∃v,K v g) env A b J:=.mk λs uu t0=>eE uu λv i=>(h v).run s i t0
theorem Na (h:Ev prog w φ e p) (hp:P p):Et prog w φ e P:=.mk λs i z=>ab (h.run s i) (λv s' uu=>eA uu λk r=>⟨k,p,hp,r⟩) λz z e=>e
theorem Jn {P:PV->Prop} (hl:Ev prog w φ l p) (hr:Ev prog w φ r q)
  (ho: ∀(s:aq) (x y:ay),0<s.toks->mO φ.X s.heap p x->mO φ.X s.heap q y->aC (aI prog w) φ.A (ca op x y) (λv s'=>bB s s'/\ ∃r,P r/\mO φ.X s'.heap r v) (λz z=>False) s):
  Et prog w φ (.BinOp l op r pos) P:=.mk λs i t0=>
 j8 (pV (ab (hl.run s i) (λx TZ uu tk1=>eA uu λT1 T4=>pV (ab (hr.run TZ (φ.mono' i T1)) (λy T2 uu tk2=>eA uu λT3 Ug=>
  ab (ho T2 x y (bi t0 (cg tk1 tk2)) (T4.keep (mz T3)) Ug) (λv T9 uu=>eA uu λUb Ui=>⟨mG T1 (mG T3 Ub),Ui⟩) λz z e=>e) λz z e=>e)) λz z e=>e))
theorem Rj {P P':PV->Prop} (hv:Et prog w φ value P) (hs:Ev prog w φ Uv q) (ho: ∀p,P p-> ∃r,P' r/\n0 prog w φ.A φ.X (dS value Uv) p q r):Et prog w φ (.Subscript value Uv pos) P':=.mk λs i t0=>
 Subscript_ (ab (hv.run s i t0) (λx TZ uu=>oV uu λT1 p hp T4=>ab (hs.run TZ (φ.mono' i T1)) (λy T2 uu=>eA uu λT3 Ug=>by
  refine mQ (ho p hp) λr hr op=> ?_
  exact ab (op T2 x y ((φ.live _ i).keep (mz (mG T1 T3))) (T4.keep (mz T3)) Ug) (λv T9 uu=>eA uu λUb Ui=>⟨mG T1 (mG T3 Ub),r,hr,Ui⟩) λz z e=>e) λz z e=>e) λz z e=>e)
theorem uL (he:Et prog w (fs c σ Λ) e P) (hb: ∀p,P p->pD prog w (In c ((x,p)::σ) Λ) c.env c.A b J)
  (hx:autoParam (sB c x) XJ) (hk:autoParam (c.env.scope.kind= .function) XZ) (hs:autoParam (cJ e (aa (.Name x px)) pos.line c.env=bG false) XZ):
  pD prog w (In c σ Λ) c.env c.A (.Assign [.Name x px] e pos::b) J:=by
 have h1:pD prog w (In c σ Λ) c.env c.A [.Assign [.Name x px] e pos] (λfl g=>match fl with|.next=> ∃p:{p // P p},In c ((x,p.1)::σ) Λ g|f=>J f g):=.mk λs i t0=>by
  refine wpAny_execs_cons (ab (Q:=λfl s'=>fl= .next/\nA s s'/\ ∃p:{p // P p},In c ((x,p.1)::σ) Λ s'.heap) ?_ (λfl s' uu=>rN uu λe a b=>by subst e;exact iG ⟨a,b⟩) λz z e=>e)
  exact cN (ab (he.run s i t0) (λv TZ uu=>oV uu λT1 p hp T4=>
   ab (tV (i.mono (mz T1)) hx T4 hk) (λz T2 uu=>eA uu λUD T7=>⟨rfl,(nA.of T1).trans UD,⟨p,hp⟩,T7⟩) λz z e=>e) λz z e=>e) hs
 exact CR (b:=[_]) h1 (Pk λp=>hb p.1 p.2)
end
section
variable {prog:aH} {w:av} {c:Sc} {σ:mW} {Λ:List (aF×List PV)}
theorem K4 (he:Et prog w (fs c σ Λ) e P) (hg:mT g c.g:=by exact mT.rfl) (hY: ∀a∈Y,a∈c.X:=by exact λa h=>aM _ h):
  pD prog w (In c σ Λ) c.env c.A (.Return (aa e) pos::b) (λfl h=> ∃p,P p/\uy g Y p fl h):=.mk λs i t0=>by
 rw [ch]
 refine ae (jL (ab (he.run s i t0) (λv TZ uu=>oV uu λT1 p hp T4=> ?_) λz z e=>e))
 exact aj ⟨nA.of T1,p,hp,hg.trans (i.mono (mz T1)).keep,T4.sub λb hb z=>hY b hb⟩
structure C0 (prog:aH) (w:av) (φ:Fs) (e:Expr) (b:Bool):Prop where
 run: ∀s:aq,φ.I s.heap->0<s.toks->aC (aI prog w) φ.A (isTrue e φ.env (bJ e φ.env)) (λc s'=>bB s s'/\c=b) (λz z=>False) s
theorem Gx (ht:C0 prog w (fs c σ Λ) t d)
  (hb:d=ai->pD prog w (In c σ Λ) c.env c.A (b++rest) J) (ho:d=false->pD prog w (In c σ Λ) c.env c.A (o++rest) J):
  pD prog w (In c σ Λ) c.env c.A (.If t b o pos::rest) J:=.mk λs i t0 Γ p hΓ=>by
 rw [ch,dh,exec_If]
 simp only [dh,i9]
 refine cf _ Γ _ (λe UN T2 ⟨tk,k,q⟩=> ?_) (λz z z e=>e) _ _ (B9 _ _ _ _ (ht.run s i t0 Γ _ hΓ))
 subst q
 have t2:=bi t0 tk
 cases e with
 |true=>exact uF b UN T2 (cf _ Γ _ (λfl z T9 ⟨e,j⟩=>⟨(nA.of k).trans e,j⟩) (λz z z e=>e) _ _ ((hb rfl).run T2 (i.mono (mz k)) t2 Γ UN hΓ))
 |false=>exact uF o UN T2 (cf _ Γ _ (λfl z T9 ⟨e,j⟩=>⟨(nA.of k).trans e,j⟩) (λz z z e=>e) _ _ ((ho rfl).run T2 (i.mono (mz k)) t2 Γ UN hΓ))
theorem Oq {id:Str} (hf:Ev prog w (fs c σ Λ) (.Name id np) (.raw f)) (ha:tH prog w (fs c σ Λ) pos (e::es) ps)
  (hk: ∀s:aq,In c σ Λ s.heap->tj c.A prog w f s) (hc:MQ prog w c.A c.X (In c σ Λ) f ps P)
  (he:autoParam (aE (e::es) c.env=(false,bJ e c.env)::aE es c.env) XZ):Et prog w (fs c σ Λ) (.Call (.Name id np) (e::es) [] pos) P:=.mk λs i t0=>by
 refine cj (pV (ab (hf.run s i) (λv TZ uu tk1=>eA uu λT1 T4=> ?_) λz z e=>e))
 subst T4
 refine nH (qo (pV (ab (ha.run TZ (i.mono (mz T1))) (λvs T2 uu tk2=>eA uu λT3 Ug=> ?_) λz z e=>e)) he)
 have T7:=i.mono (mz (mG T1 T3))
 exact ⟨hk _ T7,ab (hc.run T2 vs T7 (bi t0 (cg tk1 tk2)) T7.liveAll Ug) (λz z uu=>eA uu λUb Ui=>⟨mG T1 (mG T3 Ub),Ui⟩) λz z e=>e⟩
theorem LJ {A:aX} {I:aW->Prop} (ns:List Str) {P:PV->Prop}
  (hd: ∀h,I h->yv h a fd body) (UG:A.depth<dC)
  (Uk: ∀(s:aq) (vs:List ay),I s.heap->mJ X s.heap ps vs->aC (aI prog w) A.in1 (ew fd ⟨vs,[]⟩) (λUq TZ=>bB s TZ/\ ∃us,Uq=ns.zip us/\mJ X TZ.heap qs us) (λz z=>False) s)
  (F:A6 fd ns)
  (h: ∀g L,I g->n6 X g->pD prog w (In (mU fd a A X [] g L) (pZ ns qs) []) (bf fd L a) (A.deeper (bf fd L a)) body (λfl h=> ∃p,P p/\uy g X p fl h)):MQ prog w A X I (.ref a) ps P:=.mk λs vs i t0 lx r=>by
 refine ei (xz (M:=[]) (ns:=ns) (qs:=qs) (Λ:=[]) (hd _ i) UG lx (λz h=>nomatch h) (λz h=>nomatch h) ?_ (λz h=>nomatch h) F λL T2 k tk z T7=> ?_)
 ·exact ab (Uk s vs i r) (λz z h=>h) λz z e=>e.elim
 ·refine ab ((h s.heap L i lx).run T2 T7 (bi t0 tk)) (λfl s' ⟨⟨h',tk',e⟩,p,hp,kk,rr⟩=> ?_) λz z e=>e.elim
  subst e
  refine oU k ?_;clear k;intro Ut Vn T0 T3;obtain rfl:=T0
  exact ⟨⟨h',tk',rfl,kk⟩,p,hp,rr⟩
end
def Fl (f:Fx) (v:ay):Prop:= ∃x t,v= .float x t/\FR f x/\t≠0
theorem Fl.rep (h:Fl f v) (g:aW):mO X g (.fx f) v:=by
 refine ng h ?_;clear h;intro x t T0 r _;obtain rfl:=T0
 exact ⟨x,t,rfl,r⟩
section
variable {prog:aH} {w:av} {c:Sc} {σ:mW} {Λ:List (aF×List PV)} {I:aW->Prop} {A:aX} {X:List aF}
theorem Fm (t0:0<s.toks) (h:FR f x):bB s {s with toks:=s.toks+1}/\ ∃p,(∃u,p= .raw u/\Fl f u)/\mO X ({s with toks:=s.toks+1}:aq).heap p (.float x s.toks):=
 ⟨pf _ _,_,⟨_,rfl,x,s.toks,rfl,h,Nat.pos_iff_ne_zero.mp t0⟩,o7⟩
theorem HT (e:AS a b=aa r) (s:aq) (x y:ay) (t0:0<s.toks) (rp:mO X s.heap (.int a) x) (rq:mO X s.heap (.int b) y):
  aC (aI prog w) A (ca .Div x y) (λv s'=>bB s s'/\ ∃p,(∃u,p= .raw u/\Fl r u)/\mO X s'.heap p v) (λz z=>False) s:=by
 refine eA (GA e) λhb F=> ?_
 refine eE rp ?_;clear rp;intro t T0;obtain rfl:=T0;refine eE rq ?_;clear rq;intro u T0;obtain rfl:=T0
 exact jQ (by simpa using hb) (zz F) (Fm t0 F)
theorem HV (e:yU f g=aa r) (s:aq) (x y:ay) (t0:0<s.toks) (rp:mO X s.heap (.fx f) x) (rq:mO X s.heap (.fx g) y):
  aC (aI prog w) A (ca .Div x y) (λv s'=>bB s s'/\ ∃p,(∃u,p= .raw u/\Fl r u)/\mO X s'.heap p v) (λj j=>False) s:=by
 refine oU rp ?_;clear rp;intro x t T0 Fx;obtain rfl:=T0;refine oU rq ?_;clear rq;intro y u T0 Fy;obtain rfl:=T0
 refine eA (zF Fx Fy e) λFr z=> ?_
 exact jx (by simp [z]) (Fm t0 Fr)
theorem pN (he:Ev prog w (fs c σ Λ) e p) (hb:pD prog w (In c ((x,p)::σ) Λ) c.env c.A b J)
  (hx:autoParam (sB c x) XJ) (hk:autoParam (c.env.scope.kind= .function) XZ) (hs:autoParam (cJ e (aa (.Name x px)) pos.line c.env=bG false) XZ):
  pD prog w (In c σ Λ) c.env c.A (.Assign [.Name x px] e pos::b) J:=uL (P:=λq=>q=p) (Na he rfl) (λq e=>e▸hb) hx hk hs
theorem C0.of (h:Tr prog w φ e b):C0 prog w φ e b:=.mk λs i z=>h.run s i
def zy (prog:aH) (w:av) (n:Nat) (a:aF) (I₀:aW->Prop) (ps:List PV) (P:PV->Prop):Prop:=
 ∀(A:aX) (X:List aF) (I:aW->Prop),pn n A->(∀h,I h->oi w.params h)->(∀h,I h->I₀ h)->sM w.params X->MQ prog w A X I (.ref a) ps P
theorem yI (ns:List Str) {I₀:aW->Prop} {ps:List PV} {P:PV->Prop} (T:qW w.params a fd body)
  (Uk: ∀vs:List ay,vs.length=ps.length->ew fd ⟨vs,[]⟩=bG (ns.zip vs))
  (h: ∀A X g L,n6 X g->I₀ g->Gd w n (mU fd a A X [] g L)->pD prog w (In (mU fd a A X [] g L) (pZ ns ps) []) (bf fd L a) (A.deeper (bf fd L a)) body (λfl h=> ∃p,P p/\uy g X p fl h)) (F:autoParam (JD fd ns=ai) XQ):zy prog w (n+1) a I₀ ps P:=by
 have F:=vV F
 intro A X I hr hI hI0 hO
 refine LJ ns (λh i=>(hI h i).defAt T) hr.lim (λs vs i r=>xw r Uk) F λg L i lx=> ?_
 exact h A X g L lx (hI0 g i) ⟨hI g i,hO,hr.deeper _,F.kind,F.gl,F.bl⟩
theorem Iv (G:Gd w n c) {id:Str} (hv:lU (KB w.params) bm id=aa (aa (.ref a)))
  (ho:(KB w.params).lookup a=aa ⟨oc,od,.func fd,sl⟩) (ha:tH prog w (fs c σ Λ) pos (e::es) ps) (hc:zy prog w n a I₀ ps P) (h0:I₀ c.g) (hI₀: ∀h h',I₀ h->mT h h'->I₀ h') (hx:autoParam (c.env.kindOf id=aa .globalImplicit) XZ) (hd:autoParam ((id==("__debug__":Str))=false) XQ)
  (he:autoParam (aE (e::es) c.env=(false,bJ e c.env)::aE es c.env) XZ):Et prog w (fs c σ Λ) (.Call (.Name id np) (e::es) [] pos) P:=.mk λs i t0=>
 (Oq (ur G hv hx hd) ha (λs i=>rB ((G.inBase _ i).frag _ _ ho) rfl) (hc c.A c.X _ G.room G.inBase (λh i=>hI₀ _ _ h0 i.keep) (G.offX i)) he).run s i t0
end
end
section
open PySem.Calls PyProof.Rows PySem.Builtin.Str
section
variable {w:av}
set_option tactic.hygienic true in
theorem Ox (e:qH (.int a) (.int b)=aa s): ∃f,s= .fx f/\AS a b=aa f:=by
 unfold qH at e
 dsimp only at e
 split at e
 ·exact nB e
 ·rename_i r q;obtain rfl:=am e;exact ⟨r,rfl,q⟩
theorem IP (hp:p= .int a) (hq:q= .int b) (e:AS a b=aa r) (s:aq) (x y:ay) (t0:0<s.toks) (rp:mO X s.heap p x) (rq:mO X s.heap q y):
  aC (aI prog w) A (ca .Div x y) (λv s'=>bB s s'/\ ∃p,(∃u,p= .raw u/\Fl r u)/\mO X s'.heap p v) (λz z=>False) s:=by
 subst hp hq;exact HT e s x y t0 rp rq
theorem I4 (n1:qn r g) (n2:qn g b) (n3:qn r b) (e:oz r g b=aa (.tup [hq,sq,mq]))
  (hmx:nw r g b= .int M) (hrg:nQ (nw r g b) (qm r g b)=aa (.int R')) (c1:rO (qm r g b) (nw r g b)=false):
  zy ms w 1 125 (λz=>True) [r,g,b] (λq=> ∃u sf,Fl sf u/\sq= .fx sf/\q= .tup [hq,.raw u,mq]):=by
 have i1:=ss n1
 have i2:=ss n2
 have i3:=ss (sa n3)
 have im:=Ct i1 i2 i3
 have in_:=CE i1 i2 i3
 have n4:=sa n3
 refine mZ e λrange e1 e=>mZ (tL c1 e) λs e2 e=>AQ e λrc gc bc h a1 a2 a3 h0 h1 R e=> ?_
 cases e
 have V7:range= .int R':=by rw [hrg] at e1;exact (am e1).symm
 refine mQ (Ox (by rw [V7,hmx] at e2;exact e2)) λsf T0 V1=> ?_;obtain rfl:=T0
 refine yI ["r","g","b"] (vy _) (λvs e=> ?_) (λA X g' L lx z G=> ?_)
 ·refine vk (vo e) λz z z T0=> ?_;obtain rfl:=T0;kernel_rfl!
 have hh:(A.deeper (bf xn L 125)).handled=az:=G.room.1
 refine pN (p:=nw r g b) (n9 G (ps:=[r,g,b]) (by kernel_rfl) (by kernel_rfl) (my ?_ (my ?_ (my ?_ mH))) (AK hh n1 n2 n3 n4)) ?_
 ·walk_at "ev"
 ·walk_at "ev"
 ·walk_at "ev"
 refine pN (p:=qm r g b) (n9 G (ps:=[r,g,b]) (by kernel_rfl) (by kernel_rfl) (my ?_ (my ?_ (my ?_ mH))) (AX hh n1 n2 n3 n4)) ?_
 ·walk_at "ev"
 ·walk_at "ev"
 ·walk_at "ev"
 refine pN (p:=range) (mI (p:=nw r g b) ?_ ?_ (nN e1)) ?_
 ·walk_at "ev"
 ·walk_at "ev"
 refine pN (p:=nw r g b) ?_ ?_
 ·walk_at "ev"
 refine Gx (d:=rO (qm r g b) (nw r g b)) (.of (mX (p:=qm r g b) (q:=nw r g b) ?_ ?_ (tI in_ im))) (λc2=>by rw [c1] at c2;exact o8 c2) (λz=> ?_)
 ·walk_at "ev"
 ·walk_at "ev"
 refine uL (P:=λp=> ∃u,p= .raw u/\Fl sf u) ?he (λq Xv=> ?_)
 case he=>
  refine Jn (p:=range) (q:=nw r g b) ?_ ?_ ?_
  ·walk_at "ev"
  ·walk_at "ev"
  ·exact IP V7 hmx V1
 refine mQ Xv ?_;clear Xv;intro u T0 hu;obtain rfl:=T0
 exact pD.of (s9 (D5 i1 i2 im R) (λz i=>i) (λz z r=>⟨_,⟨u,sf,hu,rfl,rfl⟩,r⟩))
end
section
variable {w:av}
theorem vG (r:mO X h (.raw v) u):u=v:=by exact r
theorem C4 (hh:A.handled=az) (hv:Fl f v):pR prog w A X I (.builtin "max") [.raw v,.raw v,.raw v] (.raw v):=λs vs z z rr=>by
 refine rY (zQ rr) λv1 v2 v3 T0 r1 r2 r3=> ?_;obtain rfl:=T0
 obtain rfl:=vG r1;obtain rfl:=vG r2;obtain rfl:=vG r3
 have n:qn (.fx f) (.fx f):=trivial
 have r:mO X s.heap (.fx f) v3:=hv.rep _
 refine yB hh (sC n r) (sC n r) (sC n r) λh' tk k=>⟨⟨_,_,rfl,k⟩,?_⟩
 have: ∀b:Bool,mO X h' (.raw v3) (cond b (cond b v3 v3) (cond b v3 v3)):=λb=>by cases b<;>exact o7
 exact this _
theorem Du (hh:A.handled=az) (hv:Fl f v):pR prog w A X I (.builtin "min") [.raw v,.raw v,.raw v] (.raw v):=λs vs z z rr=>by
 refine rY (zQ rr) λv1 v2 v3 T0 r1 r2 r3=> ?_;obtain rfl:=T0
 obtain rfl:=vG r1;obtain rfl:=vG r2;obtain rfl:=vG r3
 have n:qn (.fx f) (.fx f):=trivial
 have r:mO X s.heap (.fx f) v3:=hv.rep _
 refine yx hh (sC n r) (sC n r) (sC n r) λh' tk k=>⟨⟨_,_,rfl,k⟩,?_⟩
 have: ∀b:Bool,mO X h' (.raw v3) (cond b (cond b v3 v3) (cond b v3 v3)):=λb=>by cases b<;>exact o7
 exact this _
theorem Kq (hv:Fl f v) (e1:nQ (.fx f) (.fx f)=aa range) (ee:tm f f=ai):rI ms w 1 125 [.raw v,.raw v,.raw v] (.tup [.fx (fN 0),.fx (fN 0),.raw v]):=by
 refine qE ["r","g","b"] (vy _) (λvs e=> ?_) (λA X g' L lx G=> ?_)
 ·refine vk (vo e) λz z z T0=> ?_;obtain rfl:=T0;kernel_rfl!
 ·have hh:(A.deeper (bf xn L 125)).handled=az:=G.room.1
  refine mK (p:=.raw v) (n9 G (ps:=[.raw v,.raw v,.raw v]) (by kernel_rfl) (by kernel_rfl) (my ?_ (my ?_ (my ?_ mH))) (C4 hh hv)) ?_
  ·walk_at "ev"
  ·walk_at "ev"
  ·walk_at "ev"
  refine mK (p:=.raw v) (n9 G (ps:=[.raw v,.raw v,.raw v]) (by kernel_rfl) (by kernel_rfl) (my ?_ (my ?_ (my ?_ mH))) (Du hh hv)) ?_
  ·walk_at "ev"
  ·walk_at "ev"
  ·walk_at "ev"
  refine mK (p:=range) (mI (p:=.fx f) (q:=.fx f) (qU (v:=v) ?_ λg=>hv.rep g) (qU (v:=v) ?_ λg=>hv.rep g) (nN e1)) ?_
  ·walk_at "ev"
  ·walk_at "ev"
  refine mK (p:=.raw v) ?_ ?_
  ·walk_at "ev"
  refine m7 (d:=ai) (mX (p:=.fx f) (q:=.fx f) (qU (v:=v) ?_ λg=>hv.rep g) (qU (v:=v) ?_ λg=>hv.rep g) (ee▸AM)) (λz=> ?_) (λc=>by exact rj c)
  ·walk_at "ev"
  ·walk_at "ev"
  refine m9 (ot (ps:=[.fx (fN 0),.fx (fN 0),.raw v]) (my ?_ (my ?_ (my ?_ mH))) (by have:=aw;simp;exact (mu (.i (.e xA xL) (.l xO xA)) [_]) this))<;>walk_at "ev"
theorem IC (hv:Fl f v) (e0:qB (.fx f) (.fx f)=aa (.fx f2)) (e1:nQ (.fx f) (.fx f)=aa range) (e2:yU f2 (fN 2)=aa g) (ee:tm f f=ai):
  zy ms w 1 104 (λz=>True) [.raw v,.raw v,.raw v] (λq=> ∃u,Fl g u/\q= .tup [.fx (fN 0),.raw u,.fx (fN 0)]):=by
 refine yI ["r","g","b"] (DS _) (λvs e=> ?_) (λA X g' L lx z G=> ?_)
 ·refine vk (vo e) λz z z T0=> ?_;obtain rfl:=T0;kernel_rfl!
 ·have hh:(A.deeper (bf IT L 104)).handled=az:=G.room.1
  refine pN (p:=.raw v) (n9 G (ps:=[.raw v,.raw v,.raw v]) (by kernel_rfl) (by kernel_rfl) (my ?_ (my ?_ (my ?_ mH))) (C4 hh hv)) ?_
  ·walk_at "ev"
  ·walk_at "ev"
  ·walk_at "ev"
  refine pN (p:=.raw v) (n9 G (ps:=[.raw v,.raw v,.raw v]) (by kernel_rfl) (by kernel_rfl) (my ?_ (my ?_ (my ?_ mH))) (Du hh hv)) ?_
  ·walk_at "ev"
  ·walk_at "ev"
  ·walk_at "ev"
  refine pN (p:=.fx f2) (mI (p:=.fx f) (q:=.fx f) (qU (v:=v) ?_ λg=>hv.rep g) (qU (v:=v) ?_ λg=>hv.rep g) (qA e0)) ?_
  ·walk_at "ev"
  ·walk_at "ev"
  refine pN (p:=range) (mI (p:=.fx f) (q:=.fx f) (qU (v:=v) ?_ λg=>hv.rep g) (qU (v:=v) ?_ λg=>hv.rep g) (nN e1)) ?_
  ·walk_at "ev"
  ·walk_at "ev"
  refine uL (P:=λp=> ∃u,p= .raw u/\Fl g u) ?he (λq Xv=> ?_)
  case he=>
   refine Jn (p:=.fx f2) (q:=.fx (fN 2)) ?_ ?_ ?_
   ·walk_at "ev"
   ·walk_at "ev"
   ·exact HV e2
  refine mQ Xv ?_;clear Xv;intro u T0 hu;obtain rfl:=T0
  refine pD.of (s9 (J:=uy g' X (.tup [.fx (fN 0),.raw u,.fx (fN 0)])) ?_ (λz i=>i) (λz z r=>⟨_,⟨u,hu,rfl⟩,r⟩))
  refine m7 (d:=ai) (mX (p:=.fx f) (q:=.fx f) (qU (v:=v) ?_ λg=>hv.rep g) (qU (v:=v) ?_ λg=>hv.rep g) (ee▸AM)) (λz=> ?_) (λc=>by exact rj c)
  ·walk_at "ev"
  ·walk_at "ev"
  refine m9 (ot (ps:=[.fx (fN 0),.raw u,.fx (fN 0)]) (my ?_ (my ?_ (my ?_ mH))) (by have:=aw;simp;exact (mu (.i (.e xA xL) (.l xO xA)) [_]) this))<;>walk_at "ev"
end
end
section
open PySem.Calls PyProof.Rows PySem.SeqAt
def te (h:aW):Prop:= ∃m,h.Ns iY m/\m sharingNotToldKey=az
theorem te.keep (a:te h) (k:mT h h'):te h':=let ⟨m,n,e⟩:=a;⟨m,n.keeps k,e⟩
section
variable {prog:aH} {w:av} {A:aX} {X:List aF} {s:aq}
theorem Bd (S:te s.heap) {Q:Bool->aq->Prop} (h:Q false s):aC (aI prog w) A (sharingNotTold t) Q E s:=by
 refine mQ S λm n e=> ?_
 exact ae (wpAny_nsGet n (by exact e▸(aj h)))
theorem Ob (S:te s.heap) (hv:Fl f v) (hu:Fl g u) (e:tm f g=ai):EqAt A s v u ai:=λprog w E Q hq=>by
 refine ng hv ?_;clear hv;intro x t T0 fx t0;obtain rfl:=T0
 refine ng hu ?_;clear hu;intro y t' T0 fy t0';obtain rfl:=T0
 refine bL ?_
 refine wpAny_ite_split (λhab=>ae (gJ (aj hq))) (λj=> ?_)
 have last:aC (aI prog w) A (do let r <-richCompare .Eq (.float x t) (.float y t');truthOfDropped r) Q E s:=
  ae (jZ (fO (by exact (IS fx fy)▸e▸hq)))
 have sm:aC (aI prog w) A (isSame (.float x t) (.float y t')) (λb s'=>s'=s) E s:=by
  show aC _ _ (isSame.created (x==y&& !Float64.isNaN x) t t') _ _ _
  unfold isSame.created
  have z:(t==0||t'==0)=false:=by simp [t0,t0']
  rw [z]
  simp only [a9,if_false,pure_bind]
  have P: ∀b:Bool,aC (aI prog w) A (bG b) (λb s'=>s'=s) E s:=λb=>aj rfl
  by_cases c1:(t==t')=ai
  ·exact (if_pos c1)▸(P _)
  rw [if_neg c1]
  by_cases c2:(!(x==y&& !Float64.isNaN x))=ai
  ·exact (if_pos c2)▸(P _)
  rw [if_neg c2]
  refine ae (Bd S ?_)
  simp only [a9,if_false,pure_bind]
  refine ae (Bd S ?_)
  simp only [a9,if_false,pure_bind]
  intro Γ p hΓ
  exact rfl
 refine ae (ab sm (λb s' e'=> ?_) λz z e=>e)
 subst e'
 cases b with
 |true=>exact aj hq
 |false=>exact last
end
section
variable {prog:aH} {w:av} {A:aX} {X:List aF} {I:aW->Prop}
def CJ (I:aW->Prop) (A:aX) (X:List aF) (p q:PV) (b:Bool):Prop:= ∀(s:aq) (v u:ay),I s.heap->mO X s.heap p v->mO X s.heap q u->EqAt A s v u b/\(v=u->b=ai)
def Fj (I:aW->Prop) (A:aX) (X:List aF) (l m:List PV) (b:Bool):Prop:= ∀(s:aq) (vs us:List ay),I s.heap->mJ X s.heap l vs->mJ X s.heap m us->
 vs.length=us.length/\(∃e:Nat->Bool,(∀j (h1:j<vs.length) (h2:j<us.length),EqAt A s vs[j] us[j] (e j))/\(ag vs.length).all e=b)/\(vs=us->b=ai)
theorem NM:CJ I A X (.raw v) (.raw v) ai:=λs x u i r q=>by
 subst r q
 exact ⟨EqAt.same _,λz=>rfl⟩
theorem BY:CJ I A X (.fx f) (.int n) (tm f (xg n)):=λs v u i r q=>by
 refine oU r ?_;clear r;intro x t T0 fx;obtain rfl:=T0;obtain ⟨t',rfl⟩:=q
 refine ⟨λprog w E Q hq=> ?_,λh=>nomatch h⟩
 refine bL ?_
 refine wpAny_ite_split (λhab=>absurd (gC hab) nofun) (λz=> ?_)
 exact ae (eq_fi (fO (by rw [yL fx];exact hq)))
theorem AE:Fj I A X [] [] ai:=λs vs us i r q=>by
 subst r q
 exact ⟨rfl,⟨λz=>ai,λj h1=>absurd h1 (jN _),rfl⟩,λz=>rfl⟩
theorem sj (h:CJ I A X p q a) (hs:Fj I A X l m b):Fj I A X (p::l) (q::m) (a&&b):=λs vs us i r k=>by
 refine ng r ?_;clear r;intro v Wf T0 r1 r2;obtain rfl:=T0
 refine ng k ?_;clear k;intro u Ws T0 k1 k2;obtain rfl:=T0
 refine eA (h s v u i r1 k1) λh1 h1'=> ?_
 obtain ⟨hn,⟨e,he,hb⟩,hv⟩:=hs s Wf Ws i r2 k2
 refine ⟨by simp [hn],⟨λj=>match j with|0=>a|j+1=>e j,?_,?_⟩,λhh=> ?_⟩
 ·intro j g1 g2
  cases j with
  |zero=>exact h1
  |succ j=>exact he j (by simpa using g1) (by simpa using g2)
 ·rw [aU,kz,iL,List.all_map,<-hb];rfl
 ·injection hh with e1 e2
  rw [h1' e1,hv e2];rfl
theorem G5 (hu:A.units<fv) (h:Fj I A.in1 X l m b): ∀(s:aq) (v u:ay),I s.heap->mO X s.heap (.tup l) v->mO X s.heap (.tup m) u->RcAt A s v u b/\(v=u->b=ai):=λs v u i r q=>by
 refine nh r ?_;clear r;intro a vs T0 _ t r;obtain rfl:=T0
 refine nh q ?_;clear q;intro a' us T0 _ t' q;obtain rfl:=T0
 obtain ⟨hn,⟨e,he,hb⟩,hv⟩:=h s vs us i r q
 refine ⟨?_,λhh=> ?_⟩
 ·have:=RcAt.tuples (A:=A) (e:=e) t t' hu (λj h1 h2=>by simpa using he j (by simpa using h1) (by simpa using h2))
  rw [<-hb];simpa [hn] using this
 ·cases hh
  exact hv (by simpa using Bo t t')
theorem CJ.ofTup (hu:A.units<fv) (h:Fj I A.in1 X l m b):CJ I A X (.tup l) (.tup m) b:=λs v u i r q=>
 by
  obtain ⟨x,y⟩:=G5 hu h s v u i r q
  refine oU r ?_;clear r;intro a vs T0 _;obtain rfl:=T0
  refine oU q ?_;clear q;intro a' us T0 _;obtain rfl:=T0
  exact ⟨D8 (λe=>y (by rw [e])) x,y⟩
theorem PY (hI: ∀h,I h->te h) (hv:Fl f v) (hu:Fl g u) (e:tm f g=ai):CJ I A X (.raw v) (.raw u) ai:=λs x y i r q=>by
 subst r q
 exact ⟨Ob (hI _ i) hv hu e,λz=>rfl⟩
end
end
section
open PySem.Calls PyProof.Rows
structure M4 (prog:aH) (w:av) (φ:Fs) (pos:Pos) (es:List Expr) (P:List PV->Prop):Prop where
 run: ∀s:aq,φ.I s.heap->0<s.toks->aC (aI prog w) φ.A (spliced (fa pos (aE es φ.env))) (λvs s'=>bB s s'/\ ∃ps,P ps/\mJ φ.X s'.heap ps vs) (λz z=>False) s
section
variable {prog:aH} {w:av} {φ:Fs}
theorem QH (h:tH prog w φ pos es ps) (hp:P ps):M4 prog w φ pos es P:=.mk λs i z=>ab (h.run s i) (λv s' uu=>eA uu λk r=>⟨k,ps,hp,r⟩) λz z e=>e
theorem EM (h:Et prog w φ e P) (hs:M4 prog w φ pos es P') (hR: ∀p ps,P p->P' ps->R (p::ps))
  (he:autoParam (aE (e::es) φ.env=(false,bJ e φ.env)::aE es φ.env) XZ):M4 prog w φ pos (e::es) R:=.mk λs i t0=>
 cB (pV (ab (h.run s i t0) (λv TZ uu tk=>oV uu λT1 p hp T4=>ab (hs.run TZ (φ.mono' i T1) (bi t0 tk)) (λvs T2 uu=>oV uu λT3 ps WN Ug=>⟨mG T1 T3,_,hR p ps hp WN,mJ.cons (T4.keep (mz T3)) Ug⟩) λz z e=>e) λz z e=>e)) he
theorem Qp (hs:M4 prog w φ pos es P) (hz: ∀ps,P ps->ps.length<=bn/\P' (.tup ps)):Et prog w φ (.Tuple es k pos) P':=.mk λs i t0=>
 wpAny_Tuple (ab (hs.run s i t0) (λvs TZ uu=>oV uu λT1 ps hp T4=>⟨by exact T4.len▸((hz ps hp).1),mG T1 (mY _ _ _),_,(hz ps hp).2,by
  exact ⟨_,vs,rfl,oJ (φ.live _ (φ.mono' i T1)),⟨_,au _ rfl,rfl,_,rfl⟩,T4.keep (mz (mY TZ _ TZ.toks))⟩⟩) λz z e=>e)
theorem Q3 (hl:Et prog w φ l P) (hr:Ev prog w φ r q)
  (ho: ∀p,P p-> ∀(s:aq) (x y:ay),φ.I s.heap->mO φ.X s.heap p x->mO φ.X s.heap q y->aC (aI prog w) φ.A (bP op x y) (λv s'=>bB s s'/\ ∃r,P' r/\mO φ.X s'.heap r v) (λz z=>False) s)
  (hm:autoParam (lu op r=false) XX):Et prog w φ (.Compare l [op] [r] pos) P':=.mk λs i t0=>
 wpAny_Compare1 (ab (hl.run s i t0) (λa TZ uu=>oV uu λT1 p hp T4=>ab (hr.run TZ (φ.mono' i T1)) (λb T2 uu=>eA uu λT3 Ug=>
  ab (ho p hp T2 a b (φ.mono' i (mG T1 T3)) (T4.keep (mz T3)) Ug) (λz z uu=>eA uu λUb Ui=>⟨mG T1 (mG T3 Ub),Ui⟩) λz z e=>e) λz z e=>e) λz z e=>e) hm
theorem NN (hx:Ev prog w φ x p) (t:tS prog w φ.A φ.X p ai) (hy:Et prog w φ y P):Et prog w φ (.BoolOp .And [x,y] pos) P:=.mk λs i t0=>
 wpAny_And2 (pV (ab (hx.run s i) (λv TZ uu tk1=>eA uu λT1 T4=>pV (ab (t TZ v T4) (λc T2 uu tk2=>eA uu λT3 e=>by
  subst e
  exact ab (hy.run T2 (φ.mono' i (mG T1 T3)) (bi t0 (cg tk1 tk2))) (λz z uu=>eA uu λUb Ui=>⟨mG T1 (mG T3 Ub),Ui⟩) λz z e=>e) λz z e=>e)) λz z e=>e))
end
end
section
open PySem.Calls PyProof.Rows PySem.Builtin.Str
section
variable {w:av}
theorem z0:rO (.int 0) (.fx (fN 0))=ai:=by decide+kernel
theorem Tk (h l:PV):sp h (.int 0) l=aa (.tup [l,l,l]):=by unfold sp;rw [z0];rfl
theorem SP (h l:PV):v6 h l (.int 0)=aa (.tup [l,l,l]):=by unfold v6;rw [z0];rfl
theorem z1:tm (fN 0) (xg 0)=ai:=by decide+kernel
theorem H1 (hv:Fl f v) (e0:qB (.fx f) (.fx f)=aa (.fx f2)) (e1:nQ (.fx f) (.fx f)=aa range) (e2:yU f2 (fN 2)=aa f) (ee:tm f f=ai):
  zy ms w 3 316 te [.raw v,UO] (λq=>q= .bool ai):=by
 refine yI ["value","way"] (No _) (λvs e=> ?_) (λA X g' L lx hS G=> ?_)
 ·refine rR (Fd e) λz z T0=> ?_;obtain rfl:=T0;kernel_rfl!
 ·have hh:(A.deeper (bf wT L 316)).handled=az:=G.room.1
  have hz:=aw
  have hu:(A.deeper (bf wT L 316)).units+64<fv:=by have:=G.room.2.2;simp only [mU] at this;exact (mu (.i (.b (.a (.a xA (.m 10 xM)) xP) xB) (.b (.a xA (.c 64)) xB)) [_,_]) this
  have hu0:(A.deeper (bf wT L 316)).units<fv:=by exact (mu (.i (.b (.a xA (.c 64)) xB) (.b xA xB)) [_,_]) hu
  have hu1:(A.deeper (bf wT L 316)).in1.units<fv:=by exact (mu (.i (.b (.a xA (.c 64)) xB) (.b (.a xA xI) xB)) [_,_]) hu
  have G1:Gd w 1 (mU wT 316 A X [] g' L):=⟨G.base,G.off,G.room.less (by exact mu (.l xI xM) [] []),rfl,rfl,rfl⟩
  have hI: ∀h,(fs (mU wT 316 A X [] g' L) [("told",.list [.tup [.raw v,.raw v,.raw v],.tup [.raw v,.raw v,.raw v]]),("grey",.tup [.raw v,.raw v,.raw v]),("value",.raw v),("way",UO)] []).I h->te h:=λh i=>hS.keep (In.keep i)
  refine pN (p:=.tup [.raw v,.raw v,.raw v]) (ot (ps:=[.raw v,.raw v,.raw v]) (my ?_ (my ?_ (my ?_ mH))) (by simp;exact (mu (.i (.e xA xL) (.l xO xA)) [_]) hz)) ?_
  ·walk_at "ev"
  ·walk_at "ev"
  ·walk_at "ev"
  refine pN (p:=.list [.tup [.raw v,.raw v,.raw v],.tup [.raw v,.raw v,.raw v]]) (pW (ps:=[.tup [.raw v,.raw v,.raw v],.tup [.raw v,.raw v,.raw v]]) (my (oE G (ps:=[UO,.int 0,.raw v]) (by kernel_rfl) (DY _).e (my ?_ (my ?_ (my ?_ mH))) (As rfl (Tk _ _))) (my (oE G (ps:=[UO,.raw v,.int 0]) (by kernel_rfl) (I1 _).e (my ?_ (my ?_ (my ?_ mH))) (Ed rfl (SP _ _))) mH)) (by simp;exact (mu (.i (.e xA xL) (.l xM xA)) [_]) hz)) ?_
  ·walk_at "ev"
  ·walk_at "ev"
  ·walk_at "ev"
  ·walk_at "ev"
  ·walk_at "ev"
  ·walk_at "ev"
  refine K4 ?_
  refine NN (p:=.bool ai) ?h1 qt ?h2
  case h1=>
   refine vg (p:=.list [.tup [.raw v,.raw v,.raw v],.tup [.raw v,.raw v,.raw v]]) (q:=.list [.tup [.raw v,.raw v,.raw v],.tup [.raw v,.raw v,.raw v]]) ?_ (pW (my ?_ (my ?_ mH)) (by simp;exact (mu (.i (.e xA xL) (.l xM xA)) [_]) hz)) (Gv hu0 (r9 (Hx.ofTup hu1 (r9 vF (r9 vF (r9 vF AN)))) (r9 (Hx.ofTup hu1 (r9 vF (r9 vF (r9 vF AN)))) AN)))
   ·walk_at "ev"
   ·walk_at "ev"
   ·walk_at "ev"
  case h2=>
   refine Q3 (P:=λp=> ∃u,Fl f u/\p= .tup [.tup [.fx (fN 0),.fx (fN 0),.raw v],.tup [.fx (fN 0),.raw u,.fx (fN 0)]]) (q:=.tup [.tup [.int 0,.int 0,.raw v],.tup [.int 0,.raw v,.int 0]]) ?l ?r ?o
   case l=>
    refine Qp (P:=λps=> ∃u,Fl f u/\ps=[.tup [.fx (fN 0),.fx (fN 0),.raw v],.tup [.fx (fN 0),.raw u,.fx (fN 0)]]) ?a (λps hp=> ?b)
    case a=>
     refine EM (P:=λp=>p= .tup [.fx (fN 0),.fx (fN 0),.raw v]) (P':=λps=> ∃u,Fl f u/\ps=[.tup [.fx (fN 0),.raw u,.fx (fN 0)]]) (Na (oE G1 (ps:=[.raw v,.raw v,.raw v]) (by kernel_rfl) (vy _).e (my ?_ (my ?_ (my ?_ mH))) (Kq hv e1 ee)) rfl) ?t (λp ps hp WN=>by refine mQ WN ?_;clear WN;intro u hu T0;obtain rfl:=T0;exact ⟨u,hu,by rw [hp]⟩)
     ·walk_at "ev"
     ·walk_at "ev"
     ·walk_at "ev"
     case t=>
      refine EM (P:=λq=> ∃u,Fl f u/\q= .tup [.fx (fN 0),.raw u,.fx (fN 0)]) (P':=λps=>ps=[]) (Iv G1 (I₀:=λz=>True) (ps:=[.raw v,.raw v,.raw v]) (by kernel_rfl) (DS _).e (my ?_ (my ?_ (my ?_ mH))) (IC hv e0 e1 e2 ee) trivial (λz z z z=>trivial)) (QH mH rfl) (λp ps hp WN=>by refine mQ hp ?_;clear hp;intro u hu T0;obtain rfl:=T0;exact ⟨u,hu,by rw [WN]⟩)
      ·walk_at "ev"
      ·walk_at "ev"
      ·walk_at "ev"
    case b=>
     refine mQ hp ?_;clear hp;intro u hu T0;obtain rfl:=T0
     exact ⟨by simp;exact (mu (.i (.e xA xL) (.l xM xA)) [_]) hz,u,hu,rfl⟩
   case r=>
    refine ot (my (ot (my ?_ (my ?_ (my ?_ mH))) (by simp;exact (mu (.i (.e xA xL) (.l xO xA)) [_]) hz)) (my (ot (my ?_ (my ?_ (my ?_ mH))) (by simp;exact (mu (.i (.e xA xL) (.l xO xA)) [_]) hz)) mH)) (by simp;exact (mu (.i (.e xA xL) (.l xM xA)) [_]) hz)
    ·walk_at "ev"
    ·walk_at "ev"
    ·walk_at "ev"
    ·walk_at "ev"
    ·walk_at "ev"
    ·walk_at "ev"
   case o=>
    intro p hp s x y i rp rq
    refine mQ hp ?_;clear hp;intro u hu' T0;obtain rfl:=T0
    have E:=G5 (I:=te) (X:=(mU wT 316 A X [] g' L).X) hu0 (sj (CJ.ofTup hu1 (sj (BY (f:=fN 0) (n:=0)) (sj (BY (f:=fN 0) (n:=0)) (sj (NM (v:=v)) AE)))) (sj (CJ.ofTup hu1 (sj (BY (f:=fN 0) (n:=0)) (sj (PY (λz h=>h) hu' hv ee) (sj (BY (f:=fN 0) (n:=0)) AE)))) AE))
    have S:te s.heap:=hS.keep (In.keep i)
    rw [z1] at E
    exact (E s x y S rp rq).1 ms w _ _ ⟨mN _,.bool ai,rfl,by rfl⟩
end
end
section
open PySem.Calls PyProof.Rows
section
variable {prog:aH} {w:av} {φ:Fs}
theorem Pi (h:C0 prog w φ x b):C0 prog w φ (.UnaryOp .Not x pos) (!b):=.mk λs i t0=>
 wpAny_isTrue_Not (ab (h.run s i t0) (λc s' uu=>eA uu λk e=>⟨k,by rw [e]⟩) λz z e=>e)
theorem OO (h:Et prog w φ e (λq=>q=p)) (t:tS prog w φ.A φ.X p b)
  (he:autoParam (isTrue e φ.env (bJ e φ.env)=(do let v <-bJ e φ.env;iu e.pos;gV [v] (truthy v))) XZ):C0 prog w φ e b:=.mk λs i t0=>
 jB (ab (h.run s i t0) (λv TZ uu=>oV uu λT1 q hq T4=>by
  subst hq
  exact ab (t TZ v T4) (λc T2 uu=>eA uu λT3 e=>⟨mG T1 T3,e⟩) λz z e=>e) λz z e=>e) he
theorem PR (hx:Tr prog w φ x false) (hy:C0 prog w φ y b):C0 prog w φ (.BoolOp .Or [x,y] pos) b:=.mk λs i t0=>
 wpAny_isTrue_BoolOp (iP (pV (ab (hx.run s i) (λc TZ uu tk=>eA uu λk e=>by
  subst e
  exact iP (ab (hy.run TZ (φ.mono' i k) (bi t0 tk)) (λc T2 uu=>eA uu λk' e'=>by
   subst e'
   cases c with
   |true=>exact ⟨mG k k',rfl⟩
   |false=>exact wpAny_allTrue_Or_nil ⟨mG k k',rfl⟩) λz z e=>e)) λz z e=>e)))
end
section
variable {w:av} {c:Sc} {σ:mW} {Λ:List (aF×List PV)}
end
end
section
open PySem.Calls PyProof.Rows PySem.Builtin.Str
noncomputable def po (p:Nat):Fx:=⟨false,de p (iD 2 1067)⟩
noncomputable def HF (x:Option PV) (f:Fx):Bool:=match x with
 |some (.fx g)=>cond g.s false (bN g.m f.m)
 |_=>false
def Qs (p:Nat):Bool:=HF (vn (gU p)) (po p)
set_option tactic.hygienic true in
theorem GK (h:HF x (po p)=ai):x=aa (.fx (po p)):=by
 unfold HF at h
 split at h
 ·rename_i g
  obtain ⟨s,m⟩:=g
  cases s with
  |true=>exact o8 h
  |false=>
   have:=bO h
   rw [show m=(po p).m from this];rfl
 ·exact o8 h
theorem Oz:(ag 128).all Qs=ai:=by decide+kernel
theorem Eh {p:Nat} (h:p<128):vn (p:Int)=aa (.fx (po p)):=GK (bq.mp Oz p (aL.mpr h))
def KJ (n m:Nat):Bool:=HF (qB (.fx (po n)) (.fx (po m))) (po (n+m))
noncomputable def nt (k:Nat):Fx:=⟨false,de k (iD 2 1072)⟩
noncomputable def wW (a b:Fx):Bool:=cond a.s false (cond b.s false (bN a.m b.m))
def H3 (s v l d:Fx) (p:Nat):Bool:=match (sp (.fx (po p)) (.fx s) (.fx v)).bind qr with
 |some (r,g,b)=>(match (oz (.fx r) (.fx g) (.fx b)).bind qr with
   |some (x,y,z)=>wW x (po p)&&wW y s&&wW z v
   |none=>false)&&(match (uA (.fx r) (.fx g) (.fx b)).bind qr with
   |some (x,y,z)=>wW x (po p)&&wW y l&&wW z d
   |none=>false)
 |none=>false
def Ib (s v:Fx):Fx×Fx:=match (sp (.fx (po 0)) (.fx s) (.fx v)).bind qr with
 |some (r,g,b)=>(match (uA (.fx r) (.fx g) (.fx b)).bind qr with
   |some (_,y,z)=>(y,z)
   |none=>(⟨false,0⟩,⟨false,0⟩))
 |none=>(⟨false,0⟩,⟨false,0⟩)
def MS (s v:Fx):Bool:=match Ib s v with
 |(l,d)=>(ag 128).all (H3 s v l d)
noncomputable def xd:List (Nat×Nat):=[(1,4),(2,4),(3,3),(4,3),(1,2),(2,2),(3,1),(4,1)]
theorem LC:xd.all (λq=>MS (nt q.1) (nt q.2))=ai:=by decide+kernel
theorem IU:(ag 128).all (λn=>(ag 128).all (KJ n))=ai:=by decide+kernel
def HE (s v:Fx) (m:Nat):Bool:=match (sp (.fx (po (m+128))) (.fx s) (.fx v)).bind qr with
 |some (r,g,b)=>(match (oz (.fx r) (.fx g) (.fx b)).bind qr with
   |some (x,y,z)=>wW x (po m)&&wW y s&&wW z v
   |none=>false)
 |none=>false
noncomputable def Ik (x:Option Int) (n:Nat):Bool:=match x with
 |some (.ofNat k)=>bN k n
 |_=>false
noncomputable def Gz (x y:Option Int):Bool:=match x,y with
 |some (.ofNat k),aa (.ofNat n)=>bN k n
 |_,_=>false
def Jb (s v l d:Fx) (n:Nat):Bool:=match (v6 (.fx (po n)) (.fx l) (.fx d)).bind qr with
 |some (r,g,b)=>(match (oz (.fx r) (.fx g) (.fx b)).bind qr with
   |some (a,c,e)=>Ik (nY a) (kG n 128)&&Gz (nY c) (nY s)&&Gz (nY e) (nY v)
   |none=>false)
 |none=>false
def H5 (s v l:Fx):Bool:=match pE (.int 2) (.fx l),(nQ (.int 2) (.fx s)).bind λc=>pE (.fx v) c with
 |some a,aa d=>rO a d&&Gz (nY s) (nY s)&&Gz (nY v) (nY v)
 |_,_=>false
def v7 (s v:Fx):Bool:=match Ib s v with
 |(l,d)=>H5 s v l&&(ag 127).all (HE s v)&&(ag 255).all (Jb s v l d)
theorem d1:v7 (nt 1) (nt 4)=ai:=by decide+kernel
theorem d2:v7 (nt 2) (nt 4)=ai:=by decide+kernel
theorem d3:v7 (nt 3) (nt 3)=ai:=by decide+kernel
theorem d4:v7 (nt 4) (nt 3)=ai:=by decide+kernel
theorem d5:v7 (nt 1) (nt 2)=ai:=by decide+kernel
theorem d6:v7 (nt 2) (nt 2)=ai:=by decide+kernel
theorem d7:v7 (nt 3) (nt 1)=ai:=by decide+kernel
theorem d8:v7 (nt 4) (nt 1)=ai:=by decide+kernel
theorem Mj (h:q∈xd):v7 (nt q.1) (nt q.2)=ai:=by
 simp only [xd,ao,fB,or_false] at h
 rcases h with rfl|rfl|rfl|rfl|rfl|rfl|rfl|rfl
 ·exact d1
 ·exact d2
 ·exact d3
 ·exact d4
 ·exact d5
 ·exact d6
 ·exact d7
 ·exact d8
theorem L8:(ag 128).all (λn=>Ik (nY (po n)) n)=ai:=by decide+kernel
theorem tz (h:wW a b=ai):a=b:=by
 obtain ⟨s,m⟩:=a
 obtain ⟨s',m'⟩:=b
 cases s<;>cases s'
 ·have:=bO h
  dsimp only at this;rw [this]
 ·exact o8 h
 ·exact o8 h
 ·exact o8 h
theorem GN (h:Ik x n=ai):x=aa (n:Int):=by
 unfold Ik at h
 split at h
 ·rw [bO h];rfl
 ·exact o8 h
set_option tactic.hygienic true in
theorem BO (h:Gz x y=ai): ∃k:Int,x=aa k/\y=aa k:=by
 unfold Gz at h
 split at h
 ·rename_i a b
  exact ⟨_,rfl,by rw [bO h]⟩
 ·exact o8 h
set_option tactic.hygienic true in
theorem Hu (h:H3 s v l d p=ai): ∃q:Fx×Fx×Fx,(sp (.fx (po p)) (.fx s) (.fx v)).bind qr=aa q/\(oz (.fx q.1) (.fx q.2.1) (.fx q.2.2)).bind qr=aa (po p,s,v)/\(uA (.fx q.1) (.fx q.2.1) (.fx q.2.2)).bind qr=aa (po p,l,d):=by
 unfold H3 at h
 split at h
 ·rename_i r g b e
  refine ⟨_,e,?_⟩
  rw [bI] at h
  refine eA h λh1 h2=> ?_
  split at h1
  ·rename_i x y z e1
   split at h2
   ·rename_i x' y' z' e2
    simp only [bI] at h1 h2
    rw [e1,e2,tz h1.1.1,tz h1.1.2,tz h1.2,tz h2.1.1,tz h2.1.2,tz h2.2]
    exact ⟨rfl,rfl⟩
   ·exact o8 h2
  ·exact o8 h1
 ·exact o8 h
set_option tactic.hygienic true in
theorem Pl (h:HE s v m=ai): ∃q:Fx×Fx×Fx,(sp (.fx (po (m+128))) (.fx s) (.fx v)).bind qr=aa q/\(oz (.fx q.1) (.fx q.2.1) (.fx q.2.2)).bind qr=aa (po m,s,v):=by
 unfold HE at h
 split at h
 ·rename_i r g b e
  refine ⟨_,e,?_⟩
  split at h
  ·rename_i x y z e1
   simp only [bI] at h
   rw [e1,tz h.1.1,tz h.1.2,tz h.2]
  ·exact o8 h
 ·exact o8 h
set_option tactic.hygienic true in
theorem Pa (h:Jb s v l d n=ai): ∃q u:Fx×Fx×Fx,(v6 (.fx (po n)) (.fx l) (.fx d)).bind qr=aa q/\(oz (.fx q.1) (.fx q.2.1) (.fx q.2.2)).bind qr=aa u/\nY u.1=aa ((n % 128:Nat):Int)/\ ∃j k:Int,nY u.2.1=aa j/\nY s=aa j/\nY u.2.2=aa k/\nY v=aa k:=by
 unfold Jb at h
 split at h
 ·rename_i r g b e
  split at h
  ·rename_i x y z e1
   simp only [bI] at h
   refine mQ (BO h.1.2) λj j1 j2=> ?_
   refine mQ (BO h.2) λk k1 k2=> ?_
   exact ⟨(r,g,b),(x,y,z),e,e1,GN h.1.1,j,k,j1,j2,k1,k2⟩
  ·exact o8 h
 ·exact o8 h
set_option tactic.hygienic true in
theorem Oc (h:H5 s v l=ai): ∃a c d:PV,∃j k:Int,pE (.int 2) (.fx l)=aa a/\nQ (.int 2) (.fx s)=aa c/\pE (.fx v) c=aa d/\rO a d=ai/\nY s=aa j/\nY v=aa k:=by
 unfold H5 at h
 split at h
 ·rename_i a d e1 e2
  refine mQ (bd.mp e2) λc c1 c2=> ?_
  simp only [bI] at h
  refine mQ (BO h.1.2) λj j1 _=> ?_
  refine mQ (BO h.2) λk k1 _=> ?_
  exact ⟨a,c,d,j,k,e1,c1,c2,h.1.1,j1,k1⟩
 ·exact o8 h
theorem Mf (h:KJ n m=ai):qB (.fx (po n)) (.fx (po m))=aa (.fx (po (n+m))):=by
 exact GK h
theorem O1 (hn:n<128) (hm:m<128):qB (.fx (po n)) (.fx (po m))=aa (.fx (po (n+m))):=by
 exact Mf (bq.mp (bq.mp IU n (aL.mpr hn)) m (aL.mpr hm))
theorem K6 (hn:n<128):nY (po n)=aa (n:Int):=GN (bq.mp L8 n (aL.mpr hn))
theorem HI (h:x.bind qr=aa q): ∃t,x=aa t/\qr t=aa q:=bd.mp h
theorem r8 {α β:Type} {x:Option α} {a:α} {f:α->Option β} {r:Option β} (h:x=aa a) (k:f a=r):x.bind f=r:=by rw [h];exact k
theorem Cb {β:Type} {x:Option PV} {f:Fx×Fx×Fx->Option β} {r:Option β} (h:x.bind qr=aa q) (k:f q=r):(x.bind λt=>(qr t).bind f)=r:=by
 refine mQ (HI h) λt h1 h2=> ?_
 exact r8 h1 (r8 h2 k)
theorem Eu {j k:Int} {z:Nat}:(aa (((z:Int)+64*(if (!(j==j&&k==k)|| !ai)=ai then 1 else 0)).fmod 128):Option Int)=aa ((z % 128:Nat):Int):=by
 simp only [beq_self_eq_true,Bool.and_self,iN,Bool.or_self,a9,if_false]
 rw [bM _ (by decide)]
 congr 1
theorem ML {n:Nat} (hb:(b !=0)=ai) (e1:vn p=aa h) (e2:(sp h (.fx s) (.fx v)).bind qr=aa q) (e3:vn a=aa UO) (e4:(uA (.fx q.1) (.fx q.2.1) (.fx q.2.2)).bind qr=aa (hu,l,d))
  (s1:pE (.int 2) (.fx l)=aa x) (s2:nQ (.int 2) (.fx s)=aa c) (s3:pE (.fx v) c=aa y) (s4:rO x y=ai) (e5:qB (.fx hu) UO=aa hh) (e6:(v6 hh (.fx l) (.fx d)).bind qr=aa q2) (e7:(oz (.fx q2.1) (.fx q2.2.1) (.fx q2.2.2)).bind qr=aa u)
  (h3:nY u.1=aa (n:Int)) (h4:nY u.2.1=aa j) (h5:nY u.2.2=aa k) (h6:nY s=aa j) (h7:nY v=aa k):wG p a b s v=aa ((n % 128:Nat):Int):=by
 refine r8 e1 (Cb e2 (r8 e3 ?_))
 rw [hb]
 refine mQ (HI e6) λt k1 k2=> ?_
 refine r8 (a:=(ai,t)) (Cb e4 (r8 s1 (r8 s2 (r8 s3 (r8 e5 (r8 k1 (by rw [s4]))))))) ?_
 exact r8 k2 (Cb e7 (r8 h3 (r8 h4 (r8 h5 (r8 h6 (r8 h7 Eu))))))
theorem Mt {n:Nat} (hb:(b !=0)=false) (e1:vn p=aa h) (e2:(sp h (.fx s) (.fx v)).bind qr=aa q) (e3:vn a=aa UO) (e4:(oz (.fx q.1) (.fx q.2.1) (.fx q.2.2)).bind qr=aa (hu,s',v'))
  (e5:qB (.fx hu) UO=aa hh) (e6:(sp hh (.fx s') (.fx v')).bind qr=aa q2) (e7:(oz (.fx q2.1) (.fx q2.2.1) (.fx q2.2.2)).bind qr=aa u)
  (h3:nY u.1=aa (n:Int)) (h4:nY u.2.1=aa j) (h5:nY u.2.2=aa k) (h6:nY s=aa j) (h7:nY v=aa k):wG p a b s v=aa ((n % 128:Nat):Int):=by
 refine r8 e1 (Cb e2 (r8 e3 ?_))
 rw [hb]
 refine mQ (HI e6) λt k1 k2=> ?_
 refine r8 (a:=(ai,t)) (Cb e4 (r8 e5 (r8 k1 rfl))) ?_
 exact r8 k2 (Cb e7 (r8 h3 (r8 h4 (r8 h5 (r8 h6 (r8 h7 Eu))))))
theorem Of (hA: ∀p,p<128->H3 s v l d p=ai) (hS:H5 s v l=ai) (hC: ∀p,p<127->HE s v p=ai) (hL: ∀p,p<255->Jb s v l d p=ai) {p a:Nat} (hp:p<128) (ha:a<128):wG p a b s v=aa (((p+a) % 128:Nat):Int):=by
 refine Ga (Oc hS) λx c y j k s1 s2 s3 s4 s5 s6=> ?_
 refine tE (Hu (hA p hp)) λq0 a1 a2 a3=> ?_
 have sm:=O1 hp ha
 have hq:=Eh hp
 have hr:=Eh ha
 have Uz: ∀n:Nat,n=(p+a) % 128->(((p+a) % 128:Nat):Int)=((n % 128:Nat):Int):=λn e=>by exact (mu (.i (.e xC (.e (.a xA xB) 128)) (.E (.k (.e (.a xA xB) 128)) (.k (.e xC 128)))) [_,_,_]) e
 cases hb:(b !=0) with
 |true=>
  refine Gi (Pa (hL (p+a) (by exact (mu (.i (.b xA xR) (.i (.b xB xR) (.b (.a xA xB) (.c 255)))) [_,_]) hp ha))) λq2 u l1 l2 l3 j' k' l4 l5 l6 l7=> ?_
  rw [s5] at l5
  rw [s6] at l7
  obtain rfl:=am l5
  obtain rfl:=am l7
  rw [Uz _ rfl]
  exact ML hb hq a1 hr a3 s1 s2 s3 s4 sm l1 l2 l3 l4 l6 s5 s6
 |false=>
  have: ∃q2:Fx×Fx×Fx,(sp (.fx (po (p+a))) (.fx s) (.fx v)).bind qr=aa q2/\(oz (.fx q2.1) (.fx q2.2.1) (.fx q2.2.2)).bind qr=aa (po ((p+a) % 128),s,v):=by
   rcases dI (p+a) 128 with h|h
   ·refine tE (Hu (hA (p+a) h)) λq2 b1 b2 z=> ?_
    rw [Nat.mod_eq_of_lt h]
    exact ⟨q2,b1,b2⟩
   ·obtain ⟨m,em⟩: ∃m,p+a=m+128:=⟨p+a - 128,by exact (mu (.i (.l xR (.a xA xB)) (.e (.a xA xB) (.a (.s (.a xA xB) xR) xR))) [_,_]) h⟩
    rw [em]
    refine mQ (Pl (hC m (by exact (mu (.i (.b xB xR) (.i (.b xC xR) (.i (.e (.a xB xC) (.a xA xR)) (.b xA (.c 127))))) [_,_,_]) hp ha em))) λq2 b1 b2=> ?_
    rw [show (m+128) % 128=m by exact (mu (.i (.b xB xR) (.i (.b xC xR) (.i (.e (.a xB xC) (.a xA xR)) (.e (.e (.a xA xR) 128) xA)))) [_,_,_]) hp ha em]
    exact ⟨q2,b1,b2⟩
  refine mQ this λq2 l1 l2=> ?_
  rw [Uz _ rfl]
  exact Mt hb hq a1 hr a2 sm l1 l2 (K6 (fL _ (by decide))) s5 s6 s5 s6
theorem ES (h:(ag n).all f=ai): ∀p,p<n->f p=ai:=λp hp=>bq.mp h p (aL.mpr hp)
theorem LW (hA:MS s v=ai) (hD:v7 s v=ai) {p a:Nat} (hp:p<128) (ha:a<128):wG p a b s v=aa (((p+a) % 128:Nat):Int):=by
 unfold MS at hA
 unfold v7 at hD
 revert hA hD
 cases Ib s v with
 |mk l d=>
  intro hA hD
  rw [bI,bI] at hD
  exact Of (ES hA) hD.1.1 (ES hD.1.2) (ES hD.2) hp ha
theorem NR {p a:Nat} (hq:q∈xd) (hp:p<128) (ha:a<128):wG p a b (nt q.1) (nt q.2)=aa (((p+a) % 128:Nat):Int):=
 LW (bq.mp LC q hq) (Mj hq) hp ha
section
variable {prog:aH} {w:av} {c:Sc} {σ:mW} {Λ:List (aF×List PV)} {base:aW} {outer:List Env} {m:Str}
def uM (base:aW) (outer:List Env) (m:Str) (g:aW) (s:aq) (e:ay) (s':aq):Prop:=
 nA s s'/\g.UpToSlots s'.heap/\ ∃a t tk,e= .ref a/\je base outer a (.type "ValueError") (.ref t) s'.heap/\s'.heap.TupAt t [.str m tk]
structure sJ (c:Sc) (base:aW) (outer:List Env):Prop where
 stack:c.A.frames=aa (c.env::outer)
 stays:base.StaysIn c.g
 frames:c.g.FunFrames base outer
 frame:c.env.frame=aa c.env.locals
 fn:c.env.scope.kind= .function
 fresh:base.get? c.env.locals=az
def wQ (c:Sc) (h:aW):Prop:=mT c.g h/\ ∃m,h.Ns c.env.locals m
theorem wQ.of (i:In c σ Λ h):wQ c h:=⟨i.keep,let ⟨m,n,_⟩:=i.loc;⟨m,n⟩⟩
theorem sJ.funs (b:sJ c base outer) (f:wQ c h):h.FunFrames base (c.env::outer):=
 let ⟨k,m,n⟩:=f
 .cons (by rw [b.fn];decide) b.frame n b.fresh (b.frames.of_keeps λx o e z=>⟨o,k x o e,rfl⟩)
theorem sJ.stay (b:sJ c base outer) (f:wQ c h):base.StaysIn h:=λx o e=>f.1 x o (b.stays x o e)
def z5 (c:Sc) (base:aW) (outer:List Env) (m:Str) (s:aq) (e:ay) (s':aq):Prop:=
 nA s s'/\((∃h a tk,e= .ref a/\wQ c h/\aW.MadeExc h s'.heap a "ValueError" [.str m tk])\/ ∃h,wQ c h/\h.UpToSlots s'.heap/\ ∃a t tk,e= .ref a/\je base (c.env::outer) a (.type "ValueError") (.ref t) s'.heap/\s'.heap.TupAt t [.str m tk])
theorem z5.leaves {Q:Unit->aq->Prop} (B:sJ c base outer) (t:z5 c base outer m s e VA) (hQ: ∀s',uM base outer m c.g s e s'->Q () s'):aC M c.A (leaving c.env e) Q E VA:=by
 obtain ⟨x,t⟩:=t
 rcases t with ⟨h,a,tk,rfl,f,hm⟩|⟨h,f,u,a,t,tk,rfl,fl,ta⟩
 ·refine wpAny_leaves_madeW B.stack B.frame (B.stay f) (B.funs f) hm.of λh' t h1 h2 h3 h4=>hQ _ ⟨?_,?_,a,t,tk,rfl,h1,h2⟩
  ·refine rR x ?_;clear x;intro Ua Ve T0;obtain rfl:=T0
   exact ⟨_,_,rfl⟩
  ·exact ((cP f.1).trans (cP hm.keeps)).trans h4
 ·refine wpAny_leaves_onW B.stack B.frame fl λh' h1 h2=>hQ _ ⟨?_,?_,a,t,tk,rfl,h1,ta.of_slots h2⟩
  ·refine rR x ?_;clear x;intro Ua Ve T0;obtain rfl:=T0
   exact ⟨_,_,rfl⟩
  ·exact ((cP f.1).trans u).trans h2
structure wk (prog:aH) (w:av) (c:Sc) (I:aW->Prop) (base:aW) (outer:List Env) (m:Str) (b:List ef):Prop where
 run: ∀s:aq,I s.heap->aC (aI prog w) c.A (iA b c.env) (λz z=>False) (z5 c base outer m s) s
theorem z5.ext (x:nA VA s) (t:z5 c base outer m s e s'):z5 c base outer m VA e s':=⟨x.trans t.1,t.2⟩
theorem Do {st:ef} {I I':aW->Prop} (h:mS prog w c.env c.A I [st] (λfl h=>fl= .next/\I' h)) (k:wk prog w c I' base outer m b):wk prog w c I base outer m (st::b):=.mk λs i=>by
 have h1:=h.run s i
 rw [ch] at h1 ⊢
 intro Γ p hΓ
 have h2:=h1 Γ p hΓ
 rw [dh] at h2 ⊢
 refine cf _ Γ _ (λfl UN T2 q=> ?_) (λz z z e=>e.elim) _ _ h2
 cases fl with
 |next=>
  have q':nA s T2/\I' T2.heap:=by simpa [execs_nil] using q
  exact cf _ Γ _ (λz z z e=>e) (λz z z t=>t.ext q'.1) _ _ (k.run T2 q'.2 Γ UN hΓ)
 |brk=>exfalso;simpa using q
 |cont=>exfalso;simpa using q
 |ret v=>exfalso;simpa using q
theorem zR (d:Bool) (ht:Tr prog w (fs c σ Λ) t d)
  (hb:d=ai->wk prog w c (In c σ Λ) base outer m (b++rest)) (ho:d=false->wk prog w c (In c σ Λ) base outer m (o++rest)):
  wk prog w c (In c σ Λ) base outer m (.If t b o pos::rest):=.mk λs i Γ p hΓ=>by
 rw [ch,dh,exec_If]
 simp only [dh,i9]
 refine cf _ Γ _ (λe UN T2 ⟨k,q⟩=> ?_) (λz z z e=>e.elim) _ _ (ht.run s i Γ _ hΓ)
 subst q
 cases e with
 |true=>exact uF b UN T2 (cf _ Γ _ (λfl z T9 f=>f.elim) (λz z z e=>e.ext (nA.of k)) _ _ ((hb rfl).run T2 (i.mono (mz k)) Γ UN hΓ))
 |false=>exact uF o UN T2 (cf _ Γ _ (λfl z T9 f=>f.elim) (λz z z e=>e.ext (nA.of k)) _ _ ((ho rfl).run T2 (i.mono (mz k)) Γ UN hΓ))
theorem Gh (he:Ev prog w (fs c σ Λ) e p) (hb:wk prog w c (In c ((x,p)::σ) Λ) base outer m b)
  (hx:autoParam (sB c x) XJ) (hk:autoParam (c.env.scope.kind= .function) XZ) (hs:autoParam (cJ e (aa (.Name x px)) pos.line c.env=bG false) XZ):
  wk prog w c (In c σ Λ) base outer m (.Assign [.Name x px] e pos::b):=
 Do (mK he (sD λh i=>⟨rfl,i⟩) hx hk hs) hb
theorem Bv (hx:Ev prog w (fs c σ Λ) (.Name x np) (.raw (.type "ValueError"))) (he:Ev prog w (fs c σ Λ) e₀ (.str m)) (hh:c.A.handled=az)
  (hs:autoParam (aE [e₀] c.env=(false,bJ e₀ c.env)::aE [] c.env) XZ):wk prog w c (In c σ Λ) base outer m (.Raise (aa (.Call (.Name x np) [e₀] [] cpos)) az pos::b):=.mk λs i=>by
 rw [ch]
 refine ae (Raise_madeB F.excCall_ValueError F.excRaise_ValueError hh (ab (hx.run s i) (λv TZ uu=>eA uu λT1 T4=> ?_) λz z e=>e.elim) hs (by rfl))
 subst T4
 refine ⟨rfl,?_⟩
 have T8:=i.mono (mz T1)
 refine ab ((my (pos:=cpos) he mH hs).run TZ T8) (λvs T2 uu=>eA uu λT3 Ug=> ?_) λz z e=>e.elim
 refine mQ (qI Ug) λv T0 rv=> ?_;obtain rfl:=T0
 refine eE (nq rv) λtk T0=> ?_;obtain rfl:=T0
 refine ⟨by show 1<=bn;decide,λh' e hm=> ?_⟩
 have k:=mG T1 T3
 refine oU k ?_;clear k;intro Ut Vn T0 k';obtain rfl:=T0
 exact ⟨⟨_,_,rfl⟩,.inl ⟨_,e,tk,rfl,wQ.of (i.mono k'),hm⟩⟩
structure KI (prog:aH) (w:av) (c:Sc) (σ:mW) (Λ:List (aF×List PV)) (base:aW) (outer:List Env) (m:Str) (e:Expr):Prop where
 run: ∀s:aq,In c σ Λ s.heap->aC (aI prog w) c.A (bJ e c.env) (λz z=>False) (z5 c base outer m s) s
def PQ (prog:aH) (w:av) (A:aX) (X:List aF) (I:aW->Prop) (base:aW) (outer:List Env) (f:ay) (ps:List PV) (ks:List (Str×PV)) (m:Str):Prop:=
 ∀(s:aq) (vs us:List ay),I s.heap->n6 X s.heap->mJ X s.heap ps vs->mJ X s.heap (ks.map (·.2)) us->j6 A base outer s.heap->aC (aI prog w) A (ft f vs ((ks.map (·.1)).zip us)) (λz z=>False) (uM base outer m s.heap s) s
theorem sJ.below (b:sJ c base outer) (f:wQ c h):j6 c.A base (c.env::outer) h:=⟨b.stack,b.stay f,b.funs f⟩
theorem uM.thr (x:nA s T2) (f:wQ c T2.heap) (t:uM base (c.env::outer) m T2.heap T2 e s'):z5 c base outer m s e s':=
 ⟨x.trans t.1,.inr ⟨_,f,t.2.1,t.2.2⟩⟩
theorem Lo {id:Str} (B:sJ c base outer) (hf:Ev prog w (fs c σ Λ) (.Name id np) (.raw f)) (ha:tH prog w (fs c σ Λ) pos (e::es) ps)
  (hk: ∀s:aq,In c σ Λ s.heap->tj c.A prog w f s) (hc:PQ prog w c.A c.X (In c σ Λ) base (c.env::outer) f ps [] m)
  (he:autoParam (aE (e::es) c.env=(false,bJ e c.env)::aE es c.env) XZ):KI prog w c σ Λ base outer m (.Call (.Name id np) (e::es) [] pos):=.mk λs i=>by
 refine cj (ab (hf.run s i) (λv TZ uu=>eA uu λT1 T4=> ?_) λz z e=>e.elim)
 subst T4
 refine nH (qo (ab (ha.run TZ (i.mono (mz T1))) (λvs T2 uu=>eA uu λT3 Ug=> ?_) λz z e=>e.elim) he)
 have T7:=i.mono (mz (mG T1 T3))
 exact ⟨hk _ T7,ab (hc T2 vs [] T7 T7.liveAll Ug mJ.nil (B.below (wQ.of T7))) (λz z f=>f.elim) λz z e=>e.thr (nA.of (mG T1 T3)) (wQ.of T7)⟩
theorem EN (he:KI prog w c σ Λ base outer m e) (hs:autoParam (cJ e (aa (.Name x px)) pos.line c.env=bG false) XZ):
  wk prog w c (In c σ Λ) base outer m (.Assign [.Name x px] e pos::b):=.mk λs i=>by
 rw [ch]
 exact ae (cN (ab (he.run s i) (λz z f=>f.elim) λz z e=>e) hs)
theorem y4 {ns:List Str} {K:aq->Prop}
  (d:yv s.heap a fd body) (UG:A.depth<dC) (lx:n6 X s.heap)
  (Uk:aC (aI prog w) A.in1 (ew fd ⟨vs,kw⟩) (λUq TZ=>bB s TZ/\K TZ/\ ∃us,Uq=ns.zip us/\mJ X TZ.heap qs us) (λz z=>False) s)
  (F:A6 fd ns) (Bw:j6 A base outer s.heap)
  (h: ∀(TZ:aq) L,mT s.heap TZ.heap->K TZ->n6 X TZ.heap->sJ (mU fd a A X [] TZ.heap L) base outer->wk prog w (mU fd a A X [] TZ.heap L) (In (mU fd a A X [] TZ.heap L) (pZ ns qs) []) base outer m body):
  aC (aI prog w) A (ft (.ref a) vs kw) (λz z=>False) (uM base outer m s.heap s) s:=by
 refine ei (wE (M:=[]) (X:=X) (K:=K) (ns:=ns) (qs:=qs) (Λ:=[]) d UG lx (λz h=>nomatch h) (λz h=>nomatch h) (ab Uk (λz z h=>h) λz z f=>f.elim) (λz h=>nomatch h) F λL TZ T2 T1 hK T3 z hL T7=> ?_)
 have Vi:In (mU fd a A X [] TZ.heap L) (pZ ns qs) [] T2.heap:=T7
 have B:sJ (mU fd a A X [] TZ.heap L) base outer:={
  stack:=fG Bw.stack
  stays:=λx o e=>mz T1 x o (Bw.stays x o e)
  frames:=Bw.frames.of_keeps λx o e z=>⟨o,mz T1 x o e,rfl⟩
  frame:=rfl
  fn:=F.kind
  fresh:=by
   show base.get? L=az
   cases hq:base.get? L with
   |none=>rfl
   |some o=>rw [mz T1 _ _ (Bw.stays _ _ hq)] at hL;cases hL}
 refine ab ((h TZ L (mz T1) hK (lx.keep (mz T1)) B).run T2 Vi) (λz z f=>f.elim) λe s' t=> ?_
 refine z5.leaves B t λVo f=> ?_
 exact ⟨((nA.of T1).trans (nA.of T3)).trans f.1,(cP (mz T1)).trans f.2.1,f.2.2⟩
end
section
variable {w:av} {base:aW} {outer:List Env}
noncomputable def ym:Str:=aS "maxlinelen must be at least 4"
noncomputable def wU:Str:=aS "Control characters not allowed in headers"
theorem Gk (hr:pn 2 A) (hI:oi w.params s.heap) (hO:sM w.params X) (lx:n6 X s.heap) (rv:mO X s.heap (.str (S T)) v) (ru:mO X s.heap (.int 3) u) (Bw:j6 A base outer s.heap):
  aC (aI ms w) A (ft (.ref 89) [v,u]) (λz z=>False) (uM base outer ym s.heap s) s:=by
 refine y4 (K:=λz=>True) (ns:=["body","maxlinelen","eol"]) (qs:=[.str (S T),.int 3,.str (S [10])]) (hI.defAt (CA _)) hr.lim lx ?_ (vV (by kernel_rfl)) Bw (λTZ L k z lx1 B=> ?_)
 ·have hb:l0 s ww ⟨[v,u],[]⟩ ((["body","maxlinelen","eol"]:List Str).zip [v,u,.str (S [10]) 291]):=.of_defaults rfl (hI.frag 82 JV (by kernel_rfl)) rfl (by with_unfolding_all rfl) (by with_unfolding_all rfl)
  exact hb _ _ _ _ ⟨mN _,trivial,_,rfl,mJ.cons rv (mJ.cons ru (mJ.cons og mJ.nil))⟩
 ·have G:Gd w 1 (mU ww 89 A X [] TZ.heap L):=⟨hI.keep k,hO,hr.deeper _,rfl,rfl,rfl⟩
  refine zR (decide ((3:Int)<4)) (mX (p:=.int 3) (q:=.int 4) ?_ ?_ rA) (λz=> ?_) (λc=>absurd c (by decide))
  ·walk_at "ev"
  ·walk_at "ev"
  ·exact Bv (rS G (v:=.type "ValueError") (by kernel_rfl) (by kernel_rfl)) (m5 (by rfl)) G.room.1
theorem zh:fu (.type "re.Match") "__bool__"=bG az:=by rw [cz,bA];kernel_rfl
theorem Al:fu (.type "re.Match") "__len__"=bG az:=by rw [cz,bA];kernel_rfl
theorem Eo {Q:Bool->aq->Prop} (hT:s.TypeIs (.ref a) "re.Match") (h:Q ai s):aC (aI ms w) A (truthy (.ref a)) Q E s:=by
 first
  |refine ae (lL (name:=aS "__bool__") hT zh ?_)
  |refine ae (aj (ae (lL (name:=aS "__bool__") hT zh ?_)))
 first
  |refine ae (fh (name:=aS "__len__") hT Al ?_)
  |refine ae (aj (ae (fh (name:=aS "__len__") hT Al ?_)))
 first
  |exact aj h
  |exact ae (aj (aj h))
theorem Ol {T:List Nat} (h: ∃c∈T,uZ c=ai): ∃k,k<T.length/\(∀i,i<k->uZ (T.getD i 0)=false)/\uZ (T.getD k 0)=ai:=by
 induction T with
 |nil=>refine mQ h λc hc z=> ?_;cases hc
 |cons d T ih=>
  cases hd:uZ d with
  |true=>exact ⟨0,by simp,λi hi=>absurd hi (jN _),hd⟩
  |false=>
   refine mQ h λc hc hv=> ?_
   rcases ao.mp hc with rfl|hc
   ·rw [hd] at hv;exact o8 hv
   ·refine tE (ih ⟨c,hc,hv⟩) λk h1 h2 h3=> ?_
    refine ⟨k+1,by simpa using h1,λi hi=> ?_,h3⟩
    cases i with
    |zero=>exact hd
    |succ i=>exact h2 i (by exact (mu (.i (.b (.a xA xI) (.a xB xI)) (.b xA xB)) [_,_]) hi)
theorem H0 (hr:pn 2 A) (hI:oi w.params s.heap) (hO:sM w.params X) (lx:n6 X s.heap) (rx: ∃a,x= .ref a) (rv:mO X s.heap (.str (S T)) v) (ru:mJ X s.heap [.bool false] us) (hT:T.length<=1000) (hV: ∃c∈T,uZ c=ai) (Bw:j6 A base outer s.heap):
  aC (aI ms w) A (ft (.ref 194) [x,v] ((["name"]:List Str).zip us)) (λz z=>False) (uM base outer wU s.heap s) s:=by
 refine eE rx ?_;clear rx;intro a T0;obtain rfl:=T0
 refine mQ (qI ru) λu T0 rb=> ?_;obtain rfl:=T0
 refine y4 (K:=λz=>True) (ns:=["self","value","name"]) (qs:=[.raw (.ref a),.str (S T),.bool false]) (hI.defAt (zv _)) hr.lim lx ?_ (vV (by kernel_rfl)) Bw (λTZ L k z lx1 B=> ?_)
 ·have hb:l0 s Bz ⟨[.ref a,v],(["name"]:List Str).zip [u]⟩ ((["self","value","name"]:List Str).zip [.ref a,v,u]):=.of_eq (by kernel_rfl!)
  exact hb _ _ _ _ ⟨mN _,trivial,_,rfl,mJ.cons o7 (mJ.cons rv (mJ.cons rb mJ.nil))⟩
 ·have G:Gd w 1 (mU Bz 194 A X [] TZ.heap L):=⟨hI.keep k,hO,hr.deeper _,rfl,rfl,rfl⟩
  refine zR ai (mX (p:=.raw (.type "str")) (q:=.raw (.type "str")) (n9 G (ps:=[.str (S T)]) (by kernel_rfl) (by kernel_rfl) (my ?_ mH) yM (.inr ⟨_,rfl⟩)) (rS G (v:=.type "str") (by kernel_rfl) (by kernel_rfl)) (CT rfl)) (λz=> ?_) (λe=>by exact rj e)
  ·walk_at "ev"
  refine Gh (p:=.raw (.ref 164)) (DR (c:=false) (rm (p:=.bool false) ?_ qt) (λe=>by exact o8 e) (λe=>ur G (by kernel_rfl))) ?_
  ·walk_at "ev"
  refine tE (Ol hV) λkk VC Xy hk3=> ?_
  have V3:uf (bk o6 T.toArray 0 0 T.toArray.size false) kk (kk+1):=by
   refine Pc (by simpa using VC) (λi hi=> ?_) ?_
   ·rw [pO];exact Xy i hi
   ·rw [pO];exact hk3
  refine zR ai (.mk λs i=>jB ?_) (λz=> ?_) (λe=>by exact rj e)
  ·have ob:=(G.inBase _ i).frag 164 Cj (by kernel_rfl)
   have hreg: ∀p,Ev ms w (fs (mU Bz 194 A X [] TZ.heap L) [("regex",.raw (.ref 164)),("name",.bool false),("value",.str (S T)),("self",.raw (.ref a))] []) (.Name "regex" p) (.raw (.ref 164)):=λp=>by walk_at "ev"
   have harg: ∀p p',tH ms w (fs (mU Bz 194 A X [] TZ.heap L) [("regex",.raw (.ref 164)),("name",.bool false),("value",.str (S T)),("self",.raw (.ref a))] []) p [.Name "value" p'] [.str (S T)]:=λp p'=>my (by walk_at "ev") mH
   refine dN (T:="re.Pattern") (by rfl) (by rfl) (by rfl) Pat.plainAttrs Pat.slot_search Pat.type_search (ab ((hreg _).run s i) (λov T2 uu=>eA uu λT1 T4=> ?_) λz z e=>e)
   subst T4
   have T8:=i.mono (mz T1)
   have ob:=(G.inBase _ T8).frag 164 Cj (by kernel_rfl)
   refine ⟨⟨_,ob,rfl⟩,λb e=>by cases e;exact ⟨_,ob,rfl⟩,nH (qo (ab ((harg _ _).run T2 T8) (λvs T9 uu=>eA uu λT3 Ug=> ?_) λz z e=>e) (by rfl))⟩
   have T7:=T8.mono (mz T3)
   refine mQ (qI Ug) λv' T0 rv'=> ?_;obtain rfl:=T0
   refine eE (nq rv') λtk T0=> ?_;obtain rfl:=T0
   refine ⟨rg,Ew (y7 (G.inBase _ T7)).1 (by simp;exact (mu (.i (.l xA xQ) (.l xA (.c 100000))) [_]) hT) (y7 (G.inBase _ T7)).2 V3 λUl cc o Ub e1 e2=> ?_⟩
   exact Eo ⟨_,e1,e2⟩ ⟨mG T1 (mG T3 Ub),rfl⟩
  ·exact Bv (rS G (v:=.type "ValueError") (by kernel_rfl) (by kernel_rfl)) (m5 (by rfl)) G.room.1
end
section
variable {w:av} {base:aW} {outer:List Env} {m:Str} {c:Sc} {σ:mW} {Λ:List (aF×List PV)}
theorem Jg (G:Gd w n c) (B:sJ c base outer)
  (ho:tG ms w (fs c σ Λ) o H) (hH: ∀h a,H h a-> ∃d D,oI h a d D) (hm: ∀h h' a,H h a->mT h h'->H h' a)
  (hf:iU (KB w.params) (.ref 293) name=aa (aa (.ref f))) (Wb:(KB w.params).lookup f=aa ⟨oc,od,.func fd,sl⟩) (hn:(name==("_headers":Str))=false) (Vt:lX (KB w.params) (.ref f)=aa (.type "function"))
  (ha:tH ms w (fs c σ Λ) pos (e::es) ps) (hk:Ex ms w (fs c σ Λ) pos Vc ks) (hc: ∀a,PQ ms w c.A c.X (λh=>In c σ Λ h/\H h a) base (c.env::outer) (.ref f) (.raw (.ref a)::ps) ks m)
  (VX:autoParam (bJ (.Call (.Attribute o name apos) (e::es) Vc pos) c.env=(do
   let ov <-bJ o c.env
   iu apos.atName
   let (f,first) <-gV [ov] (ia ov name pl)
   gI pos f first (fa pos (aE (e::es) c.env)) (cM pos (bR Vc c.env)))) XZ)
  (he:autoParam (aE (e::es) c.env=(false,bJ e c.env)::aE es c.env) XZ):
  KI ms w c σ Λ base outer m (.Call (.Attribute o name apos) (e::es) Vc pos):=.mk λs i=>by
 refine ju (ab (ho.run s i) (λv TZ uu=>oV uu λT1 a ea Ua=> ?_) λz z e=>e.elim) VX
 subst ea
 have T8:=i.mono (mz T1)
 refine rR (hH _ _ Ua) λd D t=> ?_
 refine tE (vM t) λWZ I e1 e2=> ?_
 refine lJ (G.inBase _ T8).frag I (BV _) (DZ _) hf Vt (by show (gp name WZ).map _=_;rw [e2 _ hn];rfl) ?_
 refine nH (evalArgs_kw2 hk.1 (ab (ha.run TZ T8) (λvs T2 uu=>eA uu λT3 Ug=>ab (hk.2.2 T2 (T8.mono (mz T3))) (λus T9 uu=>eA uu λUb Ui=> ?_) λz z e=>e.elim) λz z e=>e.elim) he)
 have k13:=mG T3 Ub
 have Uh:=T8.mono (mz k13)
 refine ⟨rB ((G.inBase _ Uh).frag _ _ Wb) rfl,?_⟩
 show aC _ _ (ft (.ref f) ([.ref a]++vs) ((ik (λx=>x.fst) (cM pos (bR Vc c.env))).zip us)) _ _ _
 rw [show ik (λx=>x.fst) (cM pos (bR Vc c.env))=ks.map (·.1) from hk.2.1]
 exact ab (hc a T9 (.ref a::vs) us ⟨Uh,hm _ _ _ Ua (mz k13)⟩ Uh.liveAll (mJ.cons o7 (Ug.keep (mz Ub))) Ui (B.below (wQ.of Uh))) (λz z f=>f.elim) λz z f=>f.thr (nA.of (mG T1 k13)) (wQ.of Uh)
theorem sJ.addOwn (B:sJ c base outer):sJ (c.addOwn D) base outer:=⟨B.stack,B.stays,B.frames,B.frame,B.fn,B.fresh⟩
theorem Kn (r3:pn 3 A) (B0:oi w.params s.heap) (lx:n6 X s.heap) (hO:sM w.params X) (t:oI s.heap a d D)
  (ru:mO X s.heap (.str (S nm)) u) (rz:mO X s.heap (.str (S T)) z) (hT:T.length<=1000) (hV: ∃c∈T,uZ c=ai) (Bw:j6 A base outer s.heap):
  aC (aI ms w) A (ft (.ref 290) [.ref a,u,z]) (λz z=>False) (uM base outer wU s.heap s) s:=by
 refine y4 (K:=λz=>True) (ns:=["self","_name","_value","_params"]) (qs:=[.raw (.ref a),.str (S nm),.str (S T),.raw (.ref s.heap.objs.size)]) (B0.defAt (DU _)) r3.lim lx ?_ (vV (by kernel_rfl)) Bw (λTZ L k z lx1 B=> ?_)
 ·rw [Gy]
  have k:=mY s {cls:=.type "dict",data:=.dict #[]} s.toks
  exact ae (wpAny_alloc (aj ⟨k,trivial,_,rfl,mJ.cons o7 (mJ.cons (ru.keep (mz k)) (mJ.cons (rz.keep (mz k)) (mJ.cons o7 mJ.nil)))⟩))
 ·have G:Gd w 2 (mU rh 290 A X [] TZ.heap L):=⟨B0.keep k,hO,r3.deeper _,rfl,rfl,rfl⟩
  refine Do (I':=λh=> ∃D,In ((mU rh 290 A X [] TZ.heap L).addOwn D) (("parts",.raw (.ref D))::pZ ["self","_name","_value","_params"] [.raw (.ref a),.str (S nm),.str (S T),.raw (.ref s.heap.objs.size)]) [(D,[])] h) (yR λP gP nP=>sD λh i=>⟨rfl,P,i⟩) (.mk λT2 uu=>eE uu λP T7=> ?_)
  have GP:=G.addOwn P
  have BP:=B.addOwn (D:=P)
  have t':oI ((mU rh 290 A X [] TZ.heap L).addOwn P).g a d D:=t.keep k
  refine wk.run (c:=(mU rh 290 A X [] TZ.heap L).addOwn P) (I:=In ((mU rh 290 A X [] TZ.heap L).addOwn P) (("parts",.raw (.ref P))::pZ ["self","_name","_value","_params"] [.raw (.ref a),.str (S nm),.str (S T),.raw (.ref s.heap.objs.size)]) [(P,[])]) ?_ T2 T7
  refine zR ai (mX (p:=.str (S T)) (q:=.none) ?_ xi (vh FP)) (λz=> ?_) (λe=>by exact rj e)
  ·walk_at "ev"
  refine EN (Jg (ps:=[.str (S T)]) (ks:=[("name",.bool false)]) GP BP (C7 (by walk_at "ev") t') (λz z t=>t) (λz z z uu k=>rR uu λd D t=>⟨d,D,t.keep k⟩) (by kernel_rfl) (zv _).e (by kernel_rfl) (by kernel_rfl) (my ?_ mH) (yt sF) ?_)
  ·walk_at "ev"
  ·intro a' T9 vs us Uh lx₃ Ui ru₃ Bw₃
   refine ng (sP Ui) λx v T0 rx rv=> ?_;obtain rfl:=T0
   subst rx
   exact H0 GP.room (GP.inBase _ Uh.1) (GP.offX Uh.1) lx₃ ⟨_,rfl⟩ rv ru₃ hT hV Bw₃
end
section
variable {w:av} {base:aW} {outer:List Env} {m:Str} {c:Sc} {σ:mW} {Λ:List (aF×List PV)}
theorem Kh {s:aq}
  (UG:A.depth<dC) (hlim:s.heap.NoLimit) (lx:n6 X s.heap) (ho:s.heap.get? f=aa (jb name qual params body scope clos pm c' Wi)) (hcd:s.heap.CodeRec (.ref c') qual)
  (Uk:ew (kla_fn name qual params body scope clos pm (.ref c') Wi) ⟨[],[]⟩=bG []) (Wk: ∀x∈scope.names,x.2≠ .cell)
  (hσ: ∀x p,σ.lookup x=aa p->scope.names.lookup x=aa .free/\(x==("__classdict__":Str))=false/\ ∃b v,clos.lookup x=aa b/\s.heap.IsCell b (aa v)/\mO X s.heap p v)
  (hcob: ∀x b,clos.lookup x=aa b-> ∃v,s.heap.IsCell b v) (Bw:j6 A base outer s.heap)
  (h: ∀L,sJ ⟨envX qual scope L f (.ref c') clos,A.deeper (envX qual scope L f (.ref c') clos),s.heap,[L],X⟩ base outer->KI ms w ⟨envX qual scope L f (.ref c') clos,A.deeper (envX qual scope L f (.ref c') clos),s.heap,[L],X⟩ σ [] base outer m body)
  (hco:autoParam (scope.isCoroutine=false) XZ) (W5:autoParam (scope.isGenerator=false) XZ) (hk:autoParam (scope.kind= .function) XZ):
  aC (aI ms w) A (ft (.ref f) []) (λz z=>False) (uM base outer m s.heap s) s:=by
 refine ei (kla_callFunE UG ho rfl hco W5 rfl hcd ?_)
 rw [Uk]
 refine aj (wpAny_newFunctionEnv Wk (λz h=>nomatch h) (λUa hns XH=>⟨hlim.fresh _ XH,?_⟩) hk)
 show gx _ _ (.expr body (envX qual scope s.heap.objs.size f (.ref c') clos)) _ _
 have Vu:mT s.heap Ua:=λb o e=>XH.extBut b o (di (aR e)) (aO _ e)
 have hL:s.heap.get? s.heap.objs.size=az:=nE _
 have B:sJ ⟨envX qual scope s.heap.objs.size f (.ref c') clos,A.deeper (envX qual scope s.heap.objs.size f (.ref c') clos),s.heap,[s.heap.objs.size],X⟩ base outer:={
  stack:=fG Bw.stack
  stays:=Bw.stays
  frames:=Bw.frames
  frame:=rfl
  fn:=hk
  fresh:=by
   show base.get? s.heap.objs.size=az
   cases hq:base.get? s.heap.objs.size with
   |none=>rfl
   |some o=>have:=Bw.stays _ _ hq;rw [hL] at this;cases this}
 have i:In ⟨envX qual scope s.heap.objs.size f (.ref c') clos,A.deeper (envX qual scope s.heap.objs.size f (.ref c') clos),s.heap,[s.heap.objs.size],X⟩ σ [] Ua:={
  keep:=Vu
  fresh:=λa ha=>by rw [ak.mp ha];exact hL
  live:=λa ha=>by rw [ak.mp ha];refine wN hns λo z z e z=> ?_;exact ⟨o,e⟩
  liveX:=lx.keep Vu
  locOwn:=.head _
  loc:=⟨_,hns,λx p hx e=>by
   have:=(hσ x p e).1
   have hx:scope.names.lookup x=aa .local:=hx
   rw [this] at hx;cases hx⟩
  cel:=λx p z e=>by
   refine NT (hσ x p e) λz z b v e1 e2 e3=> ?_
   refine ⟨b,v,e1,e2.keeps Vu,mO.keep Vu (e3.sub λd hd uu=>eE uu λo e=> ?_)⟩
   rcases ar.mp hd with q|q
   ·rw [ak.mp q,hL] at e;exact nB e
   ·exact q
  cob:=λx b e=>let ⟨v,q⟩:=hcob x b e;⟨v,q.keeps Vu⟩
  kinds:=λx p e=>.inr (.inr ⟨(hσ x p e).1,(hσ x p e).2.1⟩)
  lists:=λz h=>nomatch h}
 refine kla_codeExpr (ab ((h _ B).run _ i) (λz z f=>f.elim) λe s' t=> ?_)
 refine z5.leaves B t λVo fl=> ?_
 obtain ⟨⟨Ut,Vn,rfl⟩,u,r⟩:=fl
 exact ⟨⟨_,_,rfl⟩,u,r⟩
theorem RC:jT (.type "ValueError") (.type "ValueError")=bG ai:=by rw [dZ];kernel_rfl
theorem R5:jT (.type "ValueError") (.type "BaseException")=bG ai:=by rw [dZ];kernel_rfl
theorem R1:jT (.type ((lP "ValueError").elim "type" λx=>x.metatype)) (.type "tuple")=bG false:=by
 have:((lP "ValueError").elim "type" λx=>x.metatype)="type":=by kernel_rfl
 rw [this,dZ];kernel_rfl
theorem KV (x:je base l e (.type "ValueError") a0 h):h.ExcAt e "ValueError" a0:=by
 refine nh x.first λoe vs h1 h2 h3 h4=> ?_
 exact ⟨oe,vs,h1,h2,h3,h4⟩
theorem Er {s:aq} (hr:pn 1 A) (hB:oi w.params s.heap) (hB0:oi w.params base) (lx:n6 X s.heap) (Bw:j6 A base outer s.heap) (Wb: ∃o fd,s.heap.get? f=aa o/\o.data= .func fd)
  (Wg: ∀(env:Env) (s':aq),mT s.heap s'.heap->j6 (A.deeper env) base (env::outer) s'.heap->aC (aI ms w) (A.deeper env) (ft (.ref f) []) (λz z=>False) (uM base (env::outer) m s'.heap s') s'):
  aC (aI ms w) A (ft (.ref 328) [.ref f]) (λv s'=>nA s s'/\base.StaysIn s'.heap/\s.heap.UpToSlots s'.heap/\ ∃tk,v= .str m tk) (λz z=>False) s:=by
 have hz:=aw
 refine ei (wE (M:=[]) (X:=X) (K:=λz=>True) (ns:=["attempt"]) (qs:=[.raw (.ref f)]) (Λ:=[]) (hB.defAt (RR _)) hr.lim lx (λz h=>nomatch h) (λz h=>nomatch h) ?_ (λz h=>nomatch h) (vV (by kernel_rfl)) λL TZ T2 T1 z T3 z hL T7=> ?_)
 ·have hb:ew qz ⟨[.ref f],[]⟩=bG ((["attempt"]:List Str).zip [.ref f]):=by kernel_rfl!
  rw [hb]
  exact aj ⟨mN _,trivial,_,rfl,mJ.cons o7 mJ.nil⟩
 have Vi:In (mU qz 328 A X [] TZ.heap L) (pZ ["attempt"] [.raw (.ref f)]) [] T2.heap:=T7
 clear T7
 have hbL:base.get? L=az:=by
  cases hq:base.get? L with
  |none=>rfl
  |some o=>rw [mz T1 _ _ (Bw.stays _ _ hq)] at hL;exact tC hL
 have hsL:s.heap.get? L=az:=by
  cases hq:s.heap.get? L with
  |none=>rfl
  |some o=>rw [mz T1 _ _ hq] at hL;exact tC hL
 have B:sJ (mU qz 328 A X [] TZ.heap L) base outer:={
  stack:=fG Bw.stack
  stays:=λx o e=>mz T1 x o (Bw.stays x o e)
  frames:=Bw.frames.of_keeps λx o e z=>⟨o,mz T1 x o e,rfl⟩
  frame:=rfl
  fn:=rfl
  fresh:=hbL}
 have hu:(A.deeper (bf qz L 328)).units+2<fv:=by have:=(hr.deeper (bf qz L 328)).2.2;exact (mu (.i (.b (.a (.a xA (.m 10 xJ)) xP) xB) (.b (.a xA xM) xB)) [_,_]) this
 have G:Gd w 0 (mU qz 328 A X [] TZ.heap L)->True:=λz=>trivial
 show aC (aI ms w) (A.deeper (bf qz L 328)) (iA (nU (nK 49)) (bf qz L 328)) _ _ T2
 refine ae (wpAny_Try_except ?_)
 have hat: ∀p,Ev ms w (fs (mU qz 328 A X [] TZ.heap L) (pZ ["attempt"] [.raw (.ref f)]) []) (.Name "attempt" p) (.raw (.ref f)):=λp=>by walk_at "ev"
 refine ae (fM (cj (ab ((hat _).run T2 Vi) (λv T9 uu=>eA uu λUb Ui=> ?_) λz z e=>e.elim)) (by rfl) (by rfl))
 subst Ui
 have Uh:=Vi.mono (mz Ub)
 have k03:=mG T1 (mG T3 Ub)
 refine oU Wb λo fd ho hd=> ?_
 refine nH (v4 ⟨rB (mz k03 _ _ ho) hd,ab (Wg (bf qz L 328) T9 (mz k03) (B.below (wQ.of Uh))) (λz z f=>f.elim) λe Ul fl=> ?_⟩)
 refine MI fl ?_;clear fl;intro Vq u₄ a t tk T0 fl ta;obtain rfl:=T0
 have us:s.heap.UpToSlots Ul.heap:=(cP (mz k03)).trans u₄
 refine mQ Uh.loc λm₃ n₃ z=> ?_
 refine wpAny_looks_onW B.stack B.frame fl λVh hd₅ Xq=> ?_
 refine wpAny_landsW hd₅ λh₆ fl6 Xu=> ?_
 have ta₆:=(ta.of_slots Xq).of_slots Xu
 have n₆:h₆.Ns L m₃:=((u₄.trans Xq).trans Xu).ns n₃
 have us₆:=(us.trans Xq).trans Xu
 have VO: ∀h,base.StaysIn h->(∃m,h.Ns L m)->In ⟨bf qz L 328,(A.deeper (bf qz L 328)).mark (aa (.ref a)),base,[L],[]⟩ [] [] h:=λh k uu=>eE uu λm' n=>{
  keep:=k
  fresh:=λb hb=>by rw [ak.mp hb];exact hbL
  live:=λb hb=>by rw [ak.mp hb];refine wN n λo z z e z=> ?_;exact ⟨o,e⟩
  liveX:=λz h=>nomatch h
  locOwn:=.head _
  loc:=⟨m',n,λx p hx e=>by exact nB e⟩
  cel:=λx p z e=>by exact nB e
  cob:=λx b e=>by exact nB e
  kinds:=λx p e=>by exact nB e
  lists:=λz h=>nomatch h}
 have Wm:=VO h₆ fl6.1 ⟨_,n₆⟩
 have bt: ∀{σ:mW} (p:Pos) (x:Str) (T:String),lU (KB w.params) bm x=aa az->iw x=aa (.type T)->x∈wd->(bf qz L 328).kindOf x=aa .globalImplicit->(x==("__debug__":Str))=false->
   Ev ms w (fs ⟨bf qz L 328,(A.deeper (bf qz L 328)).mark (aa (.ref a)),base,[L],[]⟩ σ []) (.Name x p) (.raw (.type T)):=
  λp x T e hb hm hx hd=>Kk rfl hx rfl rfl (λh i=>(hB0.keep i.keep).bltIs e hm hb) hd
 refine wpAny_handleBy_builtin_as (X:="ValueError") (T:="ValueError") (b:=ai) R5 R1 RC ?_
 refine ab ((bt (σ:=[]) _ "ValueError" "ValueError" (by kernel_rfl) (by kernel_rfl) (by decide+kernel) rfl (by decide+kernel)).run _ Wm) (λv WB uu=>eA uu λUK Xk=> ?_) λz z e=>e.elim
 subst Xk
 refine oU UK ?_;clear UK;intro h₇ t₇ T0 UK;obtain rfl:=T0
 refine mQ fl6.there λoe he WQ=> ?_
 refine ⟨rfl,⟨oe,UK _ _ he,WQ⟩,?_⟩
 rw [if_pos rfl]
 have fl₇:je base (bf qz L 328::outer) a (.type "ValueError") (.ref t) h₇:=by
  refine zT fl6 λf1 f2 f3 oe vs T oT ts e1 e2 e3 e4 e5 e6 e7 e8 e9=> ?_
  exact ⟨λb o e=>UK _ _ (f1 b o e),f2,f3.of_keeps λb o e z=>⟨o,UK _ _ e,rfl⟩,oe,vs,T,oT,ts,UK _ _ e1,e2,e3,e4,e5,e6,UK _ _ e7,e8,e9⟩
 refine lands_againW fl₇ λh₈ fl8 Xp=> ?_
 have ta8:=(ta₆.keeps UK).of_slots Xp
 have Xh:h₈.Ns L m₃:=Xp.ns (n₆.keeps UK)
 have us₈:=(us₆.trans (cP UK)).trans Xp
 have ea8:=KV fl8
 have haL:a≠L:=λq=>by
  obtain ⟨o,vs,e1,_,e2,_⟩:=ea8
  obtain ⟨o',es,ep,e3,e4,_⟩:=Xh
  rw [q,e3] at e1;obtain rfl:=am e1;rw [e4] at e2;cases e2
 have htL:t≠L:=λq=>by
  obtain ⟨o,n,e1,_,e2⟩:=ta8
  obtain ⟨o',es,ep,e3,e4,_⟩:=Xh
  rw [q,e3] at e1;obtain rfl:=am e1;rw [e4] at e2;cases e2
 refine iO rfl Xh (λWa n₉ sb9=> ?_) (by rfl)
 have st9:base.StaysIn Wa:=λb o e=>by
  rw [sb9.2 b (λq=>by rw [q] at e;have:=e.symm.trans hbL;exact tC this)]
  exact fl8.1 b o e
 have us₉:s.heap.UpToSlots Wa:=λb o e nv=>by
  obtain ⟨sl,e'⟩:=us₈ b o e nv
  refine ⟨sl,?_⟩
  rw [sb9.2 b (λq=>by rw [q] at e;have:=e.symm.trans hsL;exact tC this)]
  exact e'
 have ea₉:Wa.ExcAt a "ValueError" (.ref t):=let ⟨o,vs,e1,r⟩:=ea8;⟨o,vs,(sb9.2 a haL).trans e1,r⟩
 have ta₉:Wa.TupAt t [.str m tk]:=let ⟨o,n,e1,r⟩:=ta8;⟨o,n,(sb9.2 t htL).trans e1,r⟩
 have i₉:=VO Wa st9 ⟨_,n₉⟩
 refine ae (jL (cj (ab ((bt (σ:=[]) _ "str" "str" (by kernel_rfl) (by kernel_rfl) (by decide+kernel) rfl (by decide+kernel)).run _ i₉) (λv s₁₀ uu=>eA uu λUA r10=> ?_) λz z e=>e.elim)))
 subst r10
 refine oU UA ?_;clear UA;intro h₁₀ t₁₀ T0 UA;obtain rfl:=T0
 have n10:=n₉.keeps UA
 refine nH (qo (cB (jy (wpAny_loadName_local rfl rfl n10 (v:=.ref a) (by rfl) (cF ?_)) (by decide+kernel)) (by rfl)) (by rfl))
 refine ⟨ub,?_⟩
 refine P.str_of_exc_one F.excStr_ValueError (by show (A.deeper (bf qz L 328)).units+2<fv;exact hu) (let ⟨o,vs,e1,r⟩:=ea₉;⟨o,vs,UA _ _ e1,r⟩) (ta₉.keeps UA) ?_
 refine aj ?_
 refine wpAny_nameGoes rfl n10 (by rfl) λVR m₁₁ n₁₁ sb11=> ?_
 refine aj ?_
 refine ⟨?_,?_,?_,tk,rfl⟩
 ·refine oU k03 ?_;clear k03;intro Ua Ve T0 _;obtain rfl:=T0
  refine rR Vq ?_;clear Vq;intro U9 t₄ T0;obtain rfl:=T0
  exact ⟨_,_,rfl⟩
 ·intro b o e
  show VR.get? b=aa o
  rw [sb11.2 b (λq=>by rw [q] at e;have:=e.symm.trans hbL;exact tC this)]
  exact UA _ _ (st9 b o e)
 ·intro b o e nv
  refine eE (us₉ b o e nv) λsl e'=> ?_
  refine ⟨sl,?_⟩
  show VR.get? b=_
  rw [sb11.2 b (λq=>by rw [q] at e;have:=e.symm.trans hsL;exact tC this)]
  exact UA _ _ e'
end
open Builtin.Str in
theorem Jh (l:List Nat) (i:Nat):(S l).cps.getD i 0=l.getD i 0:=by simp [S,Array.getD,List.getD];split<;>simp_all
open Builtin.Str in
theorem Kt (l:List Nat) (i:Nat):(S l).cps[i]? =l[i]? :=by simp [S]
noncomputable def jn (Vf:List Nat):List (List Nat)->List Nat
 |[]=>[]
 |[x]=>x
 |x::y::r=>x++Vf++jn Vf (y::r)
theorem yj (Vf:List Nat): ∀ls:List (List Nat),(Txt.join (S Vf) (ls.map S)).cps.toList=jn Vf ls:=by
 intro ls
 show (kd (S Vf) (ls.map S)).cps.toList=_
 rw [ka]
 induction ls with
 |nil=>rfl
 |cons x r ih=>
  cases r with
  |nil=>simp [jl,jn,S]
  |cons y r=>
   have:jl (S Vf) ((x::y::r).map S)=S x++S Vf++jl (S Vf) ((y::r).map S):=rfl
   rw [this,Str.cps_append,lh,ih,Str.cps_append]
   simp [S,jn]
theorem zD (Vf:List Nat): ∀ls:List (List Nat),jn Vf (ls++[[]])=ls.flatMap (· ++Vf)
 |[]=>rfl
 |[x]=>by simp [jn]
 |x::y::r=>by
  have:=zD Vf (y::r)
  rw [bx,bx,jn,<-bx,this]
  simp
def FG (l:List Nat):Prop:= ∀c∈l,cG c=false
def tc (b:List Nat):Prop:=b=[10]\/b=[13,10]\/b=[13]
noncomputable def yw (b:Nat):Nat->List (List Nat)->List (Nat×Nat×Nat)
 |_,[]=>[]
 |p,l::r=>(p,p+l.length,p+l.length+b)::yw b (p+l.length+b) r
open StrLaws in
theorem zu (s:Str): ∀(n a:Nat) (st:LsSt),(∀i,a<=i->i<a+n->i<st.2\/cG (s.cps.getD i 0)=false)->(iB (m:=Id) (fb a n) st (lsBody s)).run=st
 |0,a,st,_=>rfl
 |n+1,a,(u,v),h=>by
  rw [List.range'_succ,cD]
  have:(decide (v<=a)&&cG (s.cps.getD a 0))=false:=by
   rcases h a (aN _) (by exact mu (.b xA (.a xA (.a xB xI))) [_,_]) with h|h
   ·have h':a<v:=h
    rw [decide_eq_false (by exact (mu (.i (.b xB xA) (.n (.l xA xB))) [_,_]) h)];rfl
   ·rw [h,io]
  unfold lsBody
  simp only [this,a9,if_false]
  exact zu s n (a+1) (u,v) λi h1 h2=>h i (by exact (mu (.i (.l (.a xA xI) xB) (.l xA xB)) [_,_]) h1) (by exact (mu (.i (.b xA (.a (.a xB xI) xC)) (.b xA (.a xB (.a xC xI)))) [_,_,_]) h2)
open StrLaws in
theorem Pv (s:Str) (a:Nat) (u:Array (Nat×Nat×Nat)) (v:Nat) (h:v<=a) (hb:cG (s.cps.getD a 0)=ai):(iB (m:=Id) (fb a 1) ((u,v):LsSt) (lsBody s)).run=(u.push (v,a,lsNext s a),lsNext s a):=by
 rw [show fb a 1=[a] from rfl,cD]
 unfold lsBody
 simp only [decide_eq_true h,hb,Bool.and_self,if_true]
 rfl
theorem t9 {α β:Type} (l r:List α) (st:β) (f:α->β->Id (ForInStep β)) (hf: ∀a b,∃c,f a b=bG (.yield c)):(iB (m:=Id) (l++r) st f).run=(iB (m:=Id) r (iB (m:=Id) l st f).run f).run:=by
 induction l generalizing st with
 |nil=>rfl
 |cons a l ih=>
  refine eE (hf a st) λc e=> ?_
  rw [bx,cD,cD,e]
  exact ih c
open StrLaws in
theorem Av (s:Str) (a:Nat) (b:LsSt): ∃c,lsBody s a b=bG (.yield c):=by
 unfold lsBody;split<;>exact ⟨_,rfl⟩
theorem wj (P R:List Nat) (i:Nat) (h:P.length<=i):(P++R).getD i 0=R.getD (i - P.length) 0:=by
 rw [aZ,aZ,jS h]
theorem yu {l:List Nat} (h:i<l.length):l.getD i 0∈l:=by
 rw [aZ,aA h];exact dm h
theorem yQ (P R:List Nat) (i:Nat) (h:i<P.length):(P++R).getD i 0=P.getD i 0:=by
 rw [aZ,aZ,List.getElem?_append_left h]
open StrLaws in
theorem M8 {b:List Nat} (hb:tc b): ∀(ls:List (List Nat)) (P:List Nat) (u:Array (Nat×Nat×Nat)),(∀l∈ls,FG l)->
  (iB (m:=Id) (fb P.length (ls.flatMap (· ++b)).length) ((u,P.length):LsSt) (lsBody (S (P++ls.flatMap (· ++b))))).run=(u++(yw b.length P.length ls).toArray,P.length+(ls.flatMap (· ++b)).length)
 |[],P,u,_=>by simp [yw]
 |l::r,P,u,h=>by
  have VP:1<=b.length/\b.length<=2:=by rcases hb with rfl|rfl|rfl<;>decide
  have hl:=h l (.head _)
  have ih:=M8 hb r (P++l++b) (u.push (P.length,P.length+l.length,P.length+l.length+b.length)) λx hx=>h x (.tail _ hx)
  have eP:P++(l::r).flatMap (· ++b)=P++l++b++r.flatMap (· ++b):=by simp
  rw [eP]
  have eL:((l::r).flatMap (· ++b)).length=l.length+(1+((b.length - 1)+(r.flatMap (· ++b)).length)):=by simp;exact (mu (.i (.l xI xA) (.e (.a xA xB) (.a xI (.a (.s xA xI) xB)))) [_,_]) VP.1
  rw [eL,<-dG,<-dG,<-dG,t9 _ _ _ _ (Av _),t9 _ _ _ _ (Av _),t9 _ _ _ _ (Av _)]
  have eT:(P++l++b).length=P.length+l.length+b.length:=by simp;exact mu (.e (.a xA (.a xB xC)) (.a (.a xA xB) xC)) [_,_,_]
  generalize hT:r.flatMap (· ++b)=T at*
  have c0: ∀i,(S (P++l++b++T)).cps.getD i 0=(P++l++b++T).getD i 0:=Jh _
  have cl: ∀i,P.length<=i->i<P.length+l.length->(P++l++b++T).getD i 0∈l:=λi h1 h2=>by
   rw [aJ,aJ,wj _ _ _ h1,yQ _ _ _ (by exact (mu (.i (.l xB xA) (.i (.b xA (.a xB xC)) (.b (.s xA xB) xC))) [_,_,_]) h1 h2)]
   exact yu (by exact (mu (.i (.l xB xA) (.i (.b xA (.a xB xC)) (.b (.s xA xB) xC))) [_,_,_]) h1 h2)
  have cb: ∀k,k<b.length->(P++l++b++T).getD (P.length+l.length+k) 0=b.getD k 0:=λk hk=>by
   rw [aJ,wj _ _ _ (by simp),yQ _ _ _ (by simp;omega)]
   congr 1;simp
  rw [zu _ l.length P.length (u,P.length) λi h1 h2=>.inr (by rw [c0];exact hl _ (cl i h1 h2))]
  have nx:lsNext (S (P++l++b++T)) (P.length+l.length)=P.length+l.length+b.length:=by
   unfold lsNext
   rw [c0,Kt,show (P++l++b++T).getD (P.length+l.length) 0=b.getD 0 0 from cb 0 (by exact (mu (.i (.l xI xA) (.b xJ xA)) [_]) VP.1)]
   have g1:(P++l++b++T)[P.length+l.length+1]? =(b++T)[1]? :=by
    rw [aJ,jS (by simp)]
    congr 1;simp
   rw [g1]
   rcases hb with rfl|rfl|rfl
   ·rfl
   ·rfl
   ·have:T[0]? ≠aa 10:=by
     rw [<-hT]
     cases r with
     |nil=>simp
     |cons y r=>
      cases y with
      |nil=>simp
      |cons c y=>
       have:=h (c::y) (.tail _ (.head _)) c (.head _)
       simp only [bg,bx,List.getElem?_cons_zero,ne_eq,ke]
       rintro rfl
       exact absurd this (by decide)
    have e:([13]++T)[1]? =T[0]? :=rfl
    rw [e]
    have:(T[0]? ==aa 10)=false:=by simpa using this
    rw [this];rfl
  rw [Pv _ _ _ _ (by exact mu (.l xA (.a xA xB)) [_,_]) (by
   rw [c0,show (P++l++b++T).getD (P.length+l.length) 0=b.getD 0 0 from cb 0 (by exact (mu (.i (.l xI xA) (.b xJ xA)) [_]) VP.1)]
   rcases hb with rfl|rfl|rfl<;>decide),nx]
  rw [zu _ (b.length - 1) (P.length+l.length+1) (u.push (P.length,P.length+l.length,P.length+l.length+b.length),P.length+l.length+b.length) λi h1 h2=>.inl (by exact (mu (.i (.l xI xD) (.i (.b xA (.a (.a (.a xB xC) xI) (.s xD xI))) (.b xA (.a (.a xB xC) xD)))) [_,_,_,_]) VP.1 h2)]
  rw [eT] at ih
  rw [show P.length+l.length+1+(b.length - 1)=P.length+l.length+b.length by exact (mu (.i (.l xI xC) (.e (.a (.a (.a xA xB) xI) (.s xC xI)) (.a (.a xA xB) xC))) [_,_,_]) VP.1,ih]
  simp only [yw]
  refine eS ?_ ?_
  ·simp
  ·exact (mu (.i (.l xI xC) (.e (.a (.a (.a xA xB) xC) xD) (.a xA (.a xB (.a xI (.a (.s xC xI) xD)))))) [_,_,_,_]) VP.1
theorem C5: ∀(ls:List (List Nat)) (P:List Nat),((yw b.length P.length ls).map λp=>strSub (S (P++ls.flatMap (· ++b))) p.1 p.2.1)=ls.map S
 |[],_=>rfl
 |l::r,P=>by
  have ih:=C5 (b:=b) r (P++l++b)
  have eP:P++(l::r).flatMap (· ++b)=P++l++b++r.flatMap (· ++b):=by simp
  have eT:(P++l++b).length=P.length+l.length+b.length:=by simp;exact mu (.e (.a xA (.a xB xC)) (.a (.a xA xB) xC)) [_,_,_]
  rw [eP,yw,ba,ba]
  rw [eT] at ih
  rw [ih]
  congr 1
  apply iv
  apply dO.mp
  rw [dn]
  simp [S]
theorem C9 (hb:tc b) {ls:List (List Nat)} (h: ∀l∈ls,FG l):Txt.lines (S (ls.flatMap (· ++b)))=ls.map S:=by
 have hs:jH (S (ls.flatMap (· ++b)))=yw b.length 0 ls:=by
  rw [StrLaws.ls_eq]
  have:=M8 hb ls [] #[] h
  simp only [bQ,dD] at this
  rw [mV,this]
  unfold jM
  rw [if_neg (by simp [mV])]
  simp
 have hc:=C5 (b:=b) ls []
 simp only [bQ,dD] at hc
 have hl:kr (S (ls.flatMap (· ++b)))=ls.map S:=by
  rw [<-hc]
  unfold kr lineCuts
  rw [hs,aB]
  apply aV
  intro ⟨i,j,k⟩ _
  rfl
 unfold Txt.lines
 split
 ·rename_i e
  have e:=gC e
  rw [<-hl]
  unfold kr
  rw [e]
  simp only [ba,gW]
  congr 1
  apply iv
  apply dO.mp
  rw [dn,mV,g4,eD]
  have:(S (ls.flatMap (· ++b))).cps.toList=ls.flatMap (· ++b):=by simp [S]
  rw [this]
  exact eI.symm
 ·exact hl
open StrLaws in
theorem yS (s x:Str) (n m a:Nat) (b:Array Nat×Nat): ∃c,occBody s x n m a b=bG (.yield c):=by
 unfold occBody;split<;>exact ⟨_,rfl⟩
open StrLaws in
theorem yk (s x:Str) (hi lim:Nat): ∀(n a:Nat) (st:Array Nat×Nat),(∀i,a<=i->i<a+n->i<st.2\/hi<i+x.length\/eQ s x i=false)->(iB (m:=Id) (fb a n) st (occBody s x hi lim)).run=st
 |0,a,st,_=>rfl
 |n+1,a,(u,v),h=>by
  rw [List.range'_succ,cD]
  have: ¬(((u.size<lim/\v<=a)/\a+x.length<=hi)/\eQ s x a=ai):=by
   rintro ⟨⟨⟨_,h1⟩,h2⟩,h3⟩
   rcases h a (aN _) (by exact mu (.b xA (.a xA (.a xB xI))) [_,_]) with h|h|h
   ·have h':a<v:=h;exact (mu (.i (.l xA xB) (.n (.b xB xA))) [_,_]) h1 h
   ·exact (mu (.i (.l (.a xA xB) xC) (.n (.b xC (.a xA xB)))) [_,_,_]) h2 h
   ·rw [h] at h3;exact o8 h3
  unfold occBody
  simp only [this,if_false]
  exact yk s x hi lim n (a+1) (u,v) λi h1 h2=>h i (by exact (mu (.i (.l (.a xA xI) xB) (.l xA xB)) [_,_]) h1) (by exact (mu (.i (.b xA (.a (.a xB xI) xC)) (.b xA (.a xB (.a xC xI)))) [_,_,_]) h2)
noncomputable def uS (b:Nat):Nat->List (List Nat)->List Nat
 |_,[]=>[]
 |_,[_]=>[]
 |p,l::y::r=>(p+l.length)::uS b (p+l.length+b) (y::r)
theorem yf (L b:List Nat) (i:Nat):eQ (S L) (S b) i=((L.drop i).take b.length==b):=by
 rw [StrLaws.subAt_eq];simp [mV,S]
theorem D9 (e:b=h::t) (hi:i<L.length) (hn:L.getD i 0≠h):eQ (S L) (S b) i=false:=by
 rw [yf,e,gw hi,aU,eM]
 rw [aZ,aA hi] at hn
 have hn:L[i]≠h:=hn
 rw [beq_eq_false_iff_ne]
 intro q
 exact hn (List.cons.inj q).1
open StrLaws in
theorem Ji {b:List Nat} {c:Nat} {t:List Nat} (e:b=c::t) (lim:Nat): ∀(ls:List (List Nat)) (P:List Nat) (u:Array Nat) (y:List Nat),(∀l∈y::ls,c∉l)->u.size+ls.length<=lim->
  (iB (m:=Id) (fb P.length ((jn b (y::ls)).length+1)) ((u,P.length):Array Nat×Nat) (occBody (S (P++jn b (y::ls))) (S b) (P++jn b (y::ls)).length lim)).run.1=u++(uS b.length P.length (y::ls)).toArray
 |[],P,u,y,h,hz=>by
  have VP:1<=b.length:=by rw [e];simp
  rw [yk _ _ _ _ _ _ _ ?h]
  case h=>
   intro i h1 h2
   have h2':i<P.length+(y.length+1):=by simpa [jn] using h2
   rcases dI i (P.length+y.length) with q|q
   ·refine .inr (.inr (D9 e (by simp [jn];omega) ?_))
    rw [wj _ _ _ h1]
    intro q'
    apply h y (.head _)
    rw [<-q']
    exact yu (by exact (mu (.i (.l xB xA) (.i (.b xA (.a xB xC)) (.b (.s xA xB) xC))) [_,_,_]) h1 q)
   ·refine .inr (.inl ?_)
    rw [mV];simp [jn];exact (mu (.i (.l xI xD) (.i (.l (.a xA xB) xC) (.b (.a xA xB) (.a xC xD)))) [_,_,_,_]) VP q
  simp [uS]
 |z::ls,P,u,y,h,hz=>by
  have VP:1<=b.length:=by rw [e];simp
  have ih:=Ji e lim ls (P++y++b) (u.push (P.length+y.length)) z (λl hl=>h l (.tail _ hl)) (by simp at hz ⊢;exact (mu (.i (.l (.a xA (.a xB xI)) xC) (.l (.a (.a xA xI) xB) xC)) [_,_,_]) hz)
  have eP:P++jn b (y::z::ls)=P++y++b++jn b (z::ls):=by simp [jn]
  rw [eP]
  have eL:(jn b (y::z::ls)).length+1=y.length+(1+((b.length - 1)+((jn b (z::ls)).length+1))):=by simp [jn];exact (mu (.i (.l xI xB) (.e (.a (.a xA (.a xB xC)) xI) (.a xA (.a xI (.a (.s xB xI) (.a xC xI)))))) [_,_,_]) VP
  rw [eL,<-dG,<-dG,<-dG,t9 _ _ _ _ (yS _ _ _ _),t9 _ _ _ _ (yS _ _ _ _),t9 _ _ _ _ (yS _ _ _ _)]
  have eT:(P++y++b).length=P.length+y.length+b.length:=by simp;exact mu (.e (.a xA (.a xB xC)) (.a (.a xA xB) xC)) [_,_,_]
  generalize hT:jn b (z::ls)=T at*
  rw [yk _ _ _ _ y.length P.length (u,P.length) ?h1]
  ·have WE:(iB (m:=Id) (fb (P.length+y.length) 1) ((u,P.length):Array Nat×Nat) (occBody (S (P++y++b++T)) (S b) (P++y++b++T).length lim)).run=(u.push (P.length+y.length),P.length+y.length+b.length):=by
    rw [show fb (P.length+y.length) 1=[P.length+y.length] from rfl,cD]
    have c1:((u.size<lim/\P.length<=P.length+y.length)/\P.length+y.length+(S b).length<=(P++y++b++T).length)/\eQ (S (P++y++b++T)) (S b) (P.length+y.length)=ai:=by
     refine ⟨⟨⟨by simp at hz;exact (mu (.i (.l (.a xA (.a xC xI)) xB) (.b xA xB)) [_,_,_]) hz,by exact mu (.l xA (.a xA xB)) [_,_]⟩,by rw [mV];simp;exact mu (.l (.a (.a xA xB) xC) (.a xA (.a xB (.a xC xD)))) [_,_,_,_]⟩,?_⟩
     rw [yf,aJ,List.drop_append_of_le_length (by simp),fj (by simp),dD,List.take_append_of_le_length (aN _),eI]
     exact beq_self_eq_true b
    unfold occBody
    simp only [c1,and_self,if_true]
    rw [mV]
    rfl
   rw [eT] at ih
   rw [WE,yk _ _ _ _ (b.length - 1) (P.length+y.length+1) (u.push (P.length+y.length),P.length+y.length+b.length) (λi h1 h2=>.inl (by exact (mu (.i (.l xI xD) (.i (.b xA (.a (.a (.a xB xC) xI) (.s xD xI))) (.b xA (.a (.a xB xC) xD)))) [_,_,_,_]) VP h2)),show P.length+y.length+1+(b.length - 1)=P.length+y.length+b.length by exact (mu (.i (.l xI xC) (.e (.a (.a (.a xA xB) xI) (.s xC xI)) (.a (.a xA xB) xC))) [_,_,_]) VP,ih]
   simp [uS]
  case h1=>
   intro i h1 h2
   refine .inr (.inr (D9 e (by simp;exact (mu (.i (.b xA (.a xB xC)) (.b xA (.a xB (.a xC (.a xD xE))))) [_,_,_,_,_]) h2) ?_))
   rw [aJ,aJ,wj _ _ _ h1,yQ _ _ _ (by exact (mu (.i (.l xB xA) (.i (.b xA (.a xB xC)) (.b (.s xA xB) xC))) [_,_,_]) h1 h2)]
   intro q'
   apply h y (.head _)
   rw [<-q']
   exact yu (by exact (mu (.i (.l xB xA) (.i (.b xA (.a xB xC)) (.b (.s xA xB) xC))) [_,_,_]) h1 h2)
theorem Dd: ∀(ls:List (List Nat)) (P y:List Nat),iQ (S (P++jn b (y::ls))) b.length P.length (uS b.length P.length (y::ls))=(y::ls).map S
 |[],P,y=>by
  simp only [uS,iQ,ba,gW]
  congr 1
  apply iv
  apply dO.mp
  rw [dn,mV]
  simp [S,jn]
 |z::ls,P,y=>by
  have ih:=Dd (b:=b) ls (P++y++b) z
  have eP:P++jn b (y::z::ls)=P++y++b++jn b (z::ls):=by simp [jn]
  have eT:(P++y++b).length=P.length+y.length+b.length:=by simp;exact mu (.e (.a xA (.a xB xC)) (.a (.a xA xB) xC)) [_,_,_]
  rw [eT] at ih
  rw [eP,uS,iQ,ih,ba]
  congr 1
  apply iv
  apply dO.mp
  rw [dn]
  simp [S]
theorem JE (h:(uS b p (y::ls)).isEmpty=ai):ls=[]:=by
 cases ls with
 |nil=>rfl
 |cons z ls=>simp [uS] at h
theorem CL (b:List Nat): ∀(ls:List (List Nat)) (y:List Nat),ls.length<=(jn b (y::ls)).length\/b=[]
 |[],y=>.inl (cx _)
 |z::ls,y=>by
  rcases CL b ls z with h|h
  ·cases b with
   |nil=>exact .inr rfl
   |cons c t=>left;simp [jn] at h ⊢;exact (mu (.i (.l xA xD) (.l (.a xA xI) (.a xB (.a (.a xC xD) xI)))) [_,_,_,_]) h
  ·exact .inr h
theorem Gj (x:Str):1<=dB x:=by unfold dB;split;decide;split<;>decide
theorem zm (e:b=c::t) (hk: ∀d∈b,d<256) (h: ∀l∈y::ls,c∉l):Txt.split (S (jn b (y::ls))) (S b)=(y::ls).map S:=by
 have k1:dB (S b)=1:=by
  unfold dB
  rw [if_pos]
  simpa [S] using hk
 have k2:decide (dB (S (jn b (y::ls)))<dB (S b))=false:=by
  rw [k1];exact decide_eq_false (by have:=Gj (S (jn b (y::ls)));exact (mu (.i (.l xI xA) (.n (.b xA xI))) [_]) this)
 unfold Txt.split
 rw [k2,mV,mV,iM]
 have hn:ls.length<=(jn b (y::ls)).length:=(CL b ls y).resolve_right (by rw [e];exact fD _ _)
 have ho: ∀x,S (jn b (y::ls))=x->gk x (S b) 0 (jn b (y::ls)).length ((jn b (y::ls)).length+1)=uS b.length 0 (y::ls):=by
  rintro x rfl
  rw [mh]
  have:=Ji e ((jn b (y::ls)).length+1) ls [] #[] y h (by simp;exact (mu (.i (.l xA xB) (.l xA (.a xB xI))) [_,_]) hn)
  simp only [bQ,dD] at this
  rw [g4,this];simp
 rw [ho _ rfl]
 split
 ·rename_i q
  have q:=of_decide_eq_true q
  cases ls with
  |nil=>rfl
  |cons z ls=>simp [jn] at q;exact ((mu (.n (.b (.a xA (.a xB xC)) xB)) [_,_,_]) q).elim
 ·split
  ·rename_i q
   have:=JE q
   subst this;rfl
  ·rw [StrLaws.partsBetween_eq]
   have:=Dd (b:=b) ls [] y
   simpa using this
theorem xl (h:c9 c=false):Txt.rstrip (S (l++[c]))=S (l++[c]):=by
 have hs:lH c9 false ai (S (l++[c]))=ai:=by
  unfold lH stripLo stripHi
  simp [S,h,fJ]
 unfold Txt.rstrip Txt.stripBy
 rw [hs];rfl
noncomputable def zd:List Nat:=[46,65,66,67,68,97,98,99,100]
noncomputable def xj:List Nat:=[48,49,50,51,52,53,54,55,56,57,65,66,67,68,69,70]
def wD:List Nat:=61::58::32::(zd++xj)
def toks (v:List Nat):List Nat:=v.flatMap ph
def vv (v:List Nat):Prop:= ∀c∈v,128<=c/\c<256
theorem xf: ∀c∈wD,cG c=false/\c≠10/\c≠13:=by decide+kernel
theorem D7: ∀c∈61::xj,c9 c=false/\c≠32/\c≠9:=by decide+kernel
theorem Az: ∀c<256,pw (c/16)∈xj/\pw (c % 16)∈xj:=by decide+kernel
theorem Mn: ∀c<256,hx (pw (c/16))=ai/\hx (pw (c % 16))=ai/\16*oj (pw (c/16))+oj (pw (c % 16))=c:=by decide+kernel
theorem JG: ∀c∈xj,c≠61:=by decide+kernel
theorem y9: ∀c∈zd,nR c=[c]/\c≠61/\c≠58/\c<256:=by decide+kernel
theorem My: ∀c<256,128<=c->nR c=ph c:=by decide+kernel
theorem tf: ∀v:List Nat,(toks v).length=3*v.length
 |[]=>rfl
 |c::v=>by
  have:=tf v
  unfold toks at this ⊢
  rw [bg,af,this]
  simp [ph];exact mu (.e (.a xO (.m 3 xA)) (.m 3 (.a xA xI))) [_]
theorem sZ (c:Nat) (v:List Nat):toks (c::v)=61::pw (c/16)::pw (c % 16)::toks v:=rfl
theorem EL: ∀(v:List Nat) (i:Nat),vv v->i<3*v.length->((toks v).getD i 0=61↔i % 3=0)
 |[],i,_,h=>by simp at h
 |c::v,i,ho,h=>by
  have hc:=Az c (ho c (.head _)).2
  rw [sZ]
  match i with
  |0=>simp
  |1=>simp only [iI,lE];exact ⟨λe=>absurd e (JG _ hc.1),λe=>absurd e (by decide)⟩
  |2=>simp only [iI,lE];exact ⟨λe=>absurd e (JG _ hc.2),λe=>absurd e (by decide)⟩
  |i+3=>
   simp only [iI]
   rw [EL v i (λx hx=>ho x (.tail _ hx)) (by simp at h;exact (mu (.i (.b (.a xA xO) (.m 3 (.a xB xI))) (.b xA (.m 3 xB))) [_,_]) h)]
   rw [Nat.add_mod_right]
theorem zn: ∀(j:Nat) (v:List Nat),(toks v).take (3*j)=toks (v.take j)/\(toks v).drop (3*j)=toks (v.drop j)
 |0,v=>by simp [toks]
 |j+1,[]=>by simp [toks]
 |j+1,c::v=>by
  have:=zn j v
  rw [sZ,show 3*(j+1)=3*j+3 by exact mu (.e (.m 3 (.a xA xI)) (.a (.m 3 xA) xO)) [_]]
  simp only [eM,List.drop_succ_cons,sZ,this,and_self]
theorem RN (h1: ¬(w - 3 - p) % 3=0) (h2: ¬(w - 2 - p) % 3=0) (h:p+3<=w):(w - 1 - p) % 3=0:=by
 have e: ∃n,w=p+3+n:=⟨w - (p+3),by exact (mu (.i (.l (.a (.v 1) (.c 3)) (.v 0)) (.e (.v 0) (.a (.a (.v 1) (.c 3)) (.s (.v 0) (.a (.v 1) (.c 3)))))) [_,_]) h⟩
 refine eE e λn e=> ?_
 rw [show w - 3 - p=n by exact (mu (.i (.e (.v 0) (.a (.a (.v 1) (.c 3)) (.v 2))) (.e (.s (.s (.v 0) (.c 3)) (.v 1)) (.v 2))) [_,_,_]) e] at h1
 rw [show w - 2 - p=n+1 by exact (mu (.i (.e (.v 0) (.a (.a (.v 1) (.c 3)) (.v 2))) (.e (.s (.s (.v 0) (.c 2)) (.v 1)) (.a (.v 2) (.c 1)))) [_,_,_]) e] at h2
 rw [show w - 1 - p=n+2 by exact (mu (.i (.e (.v 0) (.a (.a (.v 1) (.c 3)) (.v 2))) (.e (.s (.s (.v 0) (.c 1)) (.v 1)) (.a (.v 2) (.c 2)))) [_,_,_]) e]
 exact (mu (.i (.n (.e (.e (.a (.v 0) (.c 1)) 3) (.c 0))) (.i (.n (.e (.e (.v 0) 3) (.c 0))) (.e (.e (.a (.v 0) (.c 2)) 3) (.c 0)))) [_]) h2 h1
theorem Qy (hw:12<=w) (hp:Uw.length<=9) (ho:vv v) (h:w+1<=(Uw++toks v).length): ∃j,j<v.length/\qY w (Uw++toks v)=Uw.length+3*j:=by
 have hl:=tf v
 rw [af,hl] at h
 have g: ∀i,Uw.length<=i->i<w+1->((Uw++toks v).getD i 0=61↔(i - Uw.length) % 3=0):=λi h1 h2=>by
  rw [wj _ _ _ h1,EL v _ ho (by exact (mu (.i (.l (.a xD xI) (.a xB (.m 3 xC))) (.i (.l xB xA) (.i (.b xA (.a xD xI)) (.b (.s xA xB) (.m 3 xC))))) [_,_,_,_]) h h1 h2)]
 unfold qY
 have g1:=g (w - 3) (by exact (mu (.i (.l (.c 12) xB) (.i (.l xA (.c 9)) (.l xA (.s xB xO)))) [_,_]) hw hp) (by exact mu (.b (.s xA xO) (.a xA xI)) [_])
 have g2:=g (w - 2) (by exact (mu (.i (.l (.c 12) xB) (.i (.l xA (.c 9)) (.l xA (.s xB xM)))) [_,_]) hw hp) (by exact mu (.b (.s xA xM) (.a xA xI)) [_])
 split
 ·rename_i e
  have:=g1.mp e
  exact ⟨(w - 3 - Uw.length)/3,by exact (mu (.i (.l (.c 12) xA) (.i (.l xB (.c 9)) (.i (.l (.a xA xI) (.a xB (.m 3 xC))) (.b (.d (.s (.s xA xO) xB) 3) xC)))) [_,_,_]) hw hp h,by exact (mu (.i (.l (.c 12) xA) (.i (.l xB (.c 9)) (.i (.e (.e (.s (.s xA xO) xB) 3) xJ) (.e (.s xA xO) (.a xB (.m 3 (.d (.s (.s xA xO) xB) 3))))))) [_,_]) hw hp this⟩
 ·rename_i e
  have e1: ¬(w - 3 - Uw.length) % 3=0:=λq=>e (g1.mpr q)
  split
  ·rename_i e
   have:=g2.mp e
   exact ⟨(w - 2 - Uw.length)/3,by exact (mu (.i (.l (.c 12) xA) (.i (.l xB (.c 9)) (.i (.l (.a xA xI) (.a xB (.m 3 xC))) (.b (.d (.s (.s xA xM) xB) 3) xC)))) [_,_,_]) hw hp h,by exact (mu (.i (.l (.c 12) xA) (.i (.l xB (.c 9)) (.i (.e (.e (.s (.s xA xM) xB) 3) xJ) (.e (.s xA xM) (.a xB (.m 3 (.d (.s (.s xA xM) xB) 3))))))) [_,_]) hw hp this⟩
  ·rename_i e
   have e2: ¬(w - 2 - Uw.length) % 3=0:=λq=>e (g2.mpr q)
   exact ⟨(w - 1 - Uw.length)/3,by exact (mu (.i (.l (.c 12) xA) (.i (.l xB (.c 9)) (.i (.l (.a xA xI) (.a xB (.m 3 xC))) (.b (.d (.s (.s xA xI) xB) 3) xC)))) [_,_,_]) hw hp h,by have e3:=RN e1 e2 (by exact (mu (.i (.l (.c 12) (.v 1)) (.i (.l (.v 0) (.c 9)) (.l (.a (.v 0) (.c 3)) (.v 1)))) [_,_]) hw hp);exact (mu (.i (.l (.c 12) (.v 0)) (.i (.l (.v 1) (.c 9)) (.i (.e (.e (.s (.s (.v 0) (.c 1)) (.v 1)) 3) (.c 0)) (.e (.s (.v 0) (.c 1)) (.a (.v 1) (.m 3 (.d (.s (.s (.v 0) (.c 1)) (.v 1)) 3))))))) [_,_]) hw hp e3⟩
theorem wF (e t:List Nat): ∀v:List Nat,vv v->nG e (toks v++t)=v++nG e t
 |[],_=>rfl
 |c::v,h=>by
  have hc:=Mn c (h c (.head _)).2
  rw [sZ,bx,bx,bx,D6 hc.1 hc.2.1,hc.2.2,wF e t v λx hx=>h x (.tail _ hx)]
  rfl
theorem xo (e t:List Nat): ∀p:List Nat,(∀c∈p,c≠61)->nG e (p++t)=p++nG e t
 |[],_=>rfl
 |c::p,h=>by
  rw [bx,xx (h c (.head _)),xo e t p λx hx=>h x (.tail _ hx)]
  rfl
theorem xq (h:vv v): ∀c∈toks v,c∈61::xj:=by
 intro c hc
 refine mQ (cT.mp hc) λx h1 h2=> ?_
 have:=Az x (h x h1).2
 simp only [ph,ao,fB,or_false] at h2
 rcases h2 with rfl|rfl|rfl
 ·exact .head _
 ·exact .tail _ this.1
 ·exact .tail _ this.2
theorem Dv (h:vv v) (hn:v≠[]): ∃q c,toks v=q++[c]/\c∈61::xj:=by
 have Uj:toks v≠[]:=by
  cases v with
  |nil=>exact absurd rfl hn
  |cons c v=>rw [sZ];exact fD _ _
 exact ⟨(toks v).dropLast,(toks v).getLast Uj,(jJ Uj).symm,xq h _ (List.getLast_mem Uj)⟩
structure Sm (w:Nat) (r:List Nat) (ps:List (List Nat)) (out:List Nat):Prop where
 dec: ∀e,ps.flatMap (nG e)=out++e
 len: ∀p∈ps,p.length<=w
 last: ∀p∈ps,∃q c,p=q++[c]/\c∈61::xj
 chars: ∀p∈ps,∀c∈p,c∈wD
 head: ∃p qs,ps=p::qs/\p.head? =r.head?/\ ∀q∈qs,q.head? =aa 61
theorem Fu (hw:12<=w): ∀(f:Nat) (Uw v:List Nat),Uw.length<=9->(∀c∈Uw,c≠61/\c∈wD)->vv v->v≠[]->(Uw++toks v).length<=f->Sm w (Uw++toks v) (rF w f (Uw++toks v)) (Uw++v)
 |0,Uw,v,_,_,_,hn,hf=>by
  have:=tf v
  have:0<v.length:=dP.mpr hn
  rw [af] at hf
  exact ((mu (.i (.l xA (.c 9)) (.i (.l (.a xA xB) xJ) (.i (.e xB (.m 3 xC)) (.n (.b xJ xC))))) [_,_,_]) (by assumption) hf (by assumption) this).elim
 |f+1,Uw,v,hp,hc,ho,hn,hf=>by
  have hl:=tf v
  have gT: ∀u:List Nat,vv u-> ∀c∈Uw++toks u,c∈wD:=λu hu c h=>by
   rcases ar.mp h with h|h
   ·exact (hc c h).2
   ·have:=xq hu c h
    rcases ao.mp this with rfl|h
    ·exact .head _
    ·exact .tail _ (.tail _ (.tail _ (aM _ h)))
  rw [rF]
  split
  ·rename_i VM
   refine mQ (Qy hw hp ho VM) λj hj hk=> ?_
   have ck:=Ca w (Uw++toks v) (by exact (mu (.i (.l (.c 12) xA) (.l xK xA)) [_]) hw)
   have e1:(Uw++toks v).take (qY w (Uw++toks v))=Uw++toks (v.take j):=by
    rw [hk,List.take_append,bF (by exact mu (.l xA (.a xA (.m 3 xB))) [_,_]),show Uw.length+3*j - Uw.length=3*j by exact mu (.e (.s (.a xA (.m 3 xB)) xA) (.m 3 xB)) [_,_],(zn j v).1]
   have e2:(Uw++toks v).drop (qY w (Uw++toks v))=toks (v.drop j):=by
    rw [hk,List.drop_append,fj (by exact mu (.l xA (.a xA (.m 3 xB))) [_,_]),show Uw.length+3*j - Uw.length=3*j by exact mu (.e (.s (.a xA (.m 3 xB)) xA) (.m 3 xB)) [_,_],(zn j v).2,dD]
   have o1:vv (v.take j):=λc h=>ho c (List.mem_of_mem_take h)
   have o2:vv (v.drop j):=λc h=>ho c (List.mem_of_mem_drop h)
   have n2:v.drop j≠[]:=λq=>by
    have:=congrArg bj q
    rw [bH,bQ] at this;exact (mu (.i (.b xA xB) (.n (.e (.s xB xA) xJ))) [_,_]) hj this
   have ih:=Fu hw f [] (v.drop j) (by simp) (λc h=>nomatch h) o2 n2 (by
    have h3:((Uw++toks v).drop (qY w (Uw++toks v))).length<=f:=by exact bH▸((mu (.i (.l xA (.a xC xI)) (.i (.l xI xB) (.l (.s xA xB) xC))) [_,_,_]) hf ck.1)
    rw [e2] at h3;exact h3)
   rw [dD] at ih
   rw [e1,e2]
   have hl1:(Uw++toks (v.take j)).length+1<=w:=by
    have:=congrArg bj e1
    rw [dk] at this;exact (mu (.i (.l xI xC) (.i (.l xC (.s xB xI)) (.i (.e (.n xC xD) xA) (.l (.a xA xI) xB)))) [_,_,_,_]) ck.1 ck.2 this
   constructor
   ·intro e
    rw [bg,ih.dec,aJ,xo _ _ _ λc h=>(hc c h).1,wF _ _ _ o1,Dh]
    simp only [dD,bK,aJ]
    rw [<-aJ (v.take j),kQ]
   ·intro p h
    rcases ao.mp h with rfl|h
    ·exact af▸hl1
    ·exact ih.len p h
   ·intro p h
    rcases ao.mp h with rfl|h
    ·exact ⟨_,61,rfl,.head _⟩
    ·exact ih.last p h
   ·intro p h
    rcases ao.mp h with rfl|h
    ·intro c hcm
     rcases ar.mp hcm with h|h
     ·exact gT _ o1 c h
     ·exact (ak.mp h)▸(.head _)
    ·exact ih.chars p h
   ·refine ng ih.head λp qs h1 h2 h3=> ?_
    refine ⟨_,_,rfl,?_,?_⟩
    ·cases Uw with
     |cons c Uw=>rfl
     |nil=>
      have hj0:0<j:=by
       rw [bQ] at hk;exact (mu (.i (.e xB (.a xJ (.m 3 xA))) (.i (.l xI xB) (.b xJ xA))) [_,_]) hk ck.1
      cases v with
      |nil=>exact absurd rfl hn
      |cons c v=>
       obtain ⟨k,rfl⟩: ∃k,j=k+1:=⟨j - 1,by exact (mu (.i (.b xJ xA) (.e xA (.a (.s xA xI) xI))) [_]) hj0⟩
       simp [sZ]
    ·intro q hq
     rw [h1] at hq
     rcases ao.mp hq with rfl|hq
     ·rw [h2]
      cases hd:v.drop j with
      |nil=>exact absurd hd n2
      |cons c u=>rfl
     ·exact h3 q hq
  ·rename_i hs
   constructor
   ·intro e
    have:=wF e [] v ho
    rw [bK] at this
    rw [bg,jv,bK,xo _ _ _ λc h=>(hc c h).1,this]
    simp [nG]
   ·intro p h
    exact (ak.mp h)▸((mu (.i (.n (.l (.a xB xI) xA)) (.l xA xB)) [_,_]) hs)
   ·intro p h
    rw [ak.mp h]
    refine oU (Dv ho hn) λq c h1 h2=> ?_
    exact ⟨Uw++q,c,by rw [h1,aJ],h2⟩
   ·intro p h
    exact (ak.mp h)▸(gT _ ho)
   ·exact ⟨_,[],rfl,rfl,λq h=>nomatch h⟩
noncomputable def dd (p:List Nat):List Nat:=if p.head? =aa 46 then 46::p else p
structure oS (q:List Nat×List Nat):Prop where
 n1:q.1.length<=7
 n2:q.1≠[]
 n3: ∀c∈q.1,c∈zd
 v1:q.2.length<=4
 v2:q.2≠[]
 v3:vv q.2
def vY (q:List Nat×List Nat):List Nat:=(q.1++[58,32])++toks q.2
def rk (q:List Nat×List Nat):List Nat:=dd q.1++58::32::q.2
def JF (w:Nat) (q:List Nat×List Nat):List (List Nat):=rF w (vY q).length (vY q)
theorem J3 (hw:12<=w) (h:oS q):Sm w (vY q) (JF w q) (q.1++[58,32]++q.2):=by
 refine Fu hw _ _ _ ?_ ?_ h.v3 h.v2 (aN _)
 ·have:=h.n1;simp;omega
 ·intro c hc
  rcases ar.mp hc with hc|hc
  ·exact ⟨(y9 c (h.n3 c hc)).2.1,.tail _ (.tail _ (.tail _ (ax _ (h.n3 c hc))))⟩
  ·exact (by decide+kernel: ∀c∈[58,32],c≠61/\c∈wD) c hc
theorem Rq (hw:12<=w) (h:oS q) (e:List Nat):((JF w q).map dd).flatMap (nG e)=rk q++e:=by
 have hp:=J3 hw h
 refine ng hp.head λp qs h1 h2 h3=> ?_
 have hd:=hp.dec e
 rw [h1] at hd ⊢
 have hq:qs.map dd=qs:=by
  conv=>rhs;rw [<-kU qs]
  apply aV
  intro x hx
  unfold dd
  rw [h3 x hx];rfl
 rw [ba,hq]
 have hh:p.head? =q.1.head?:=by
  rw [h2];unfold vY
  cases hq1:q.1 with
  |nil=>exact absurd hq1 h.n2
  |cons c r=>rfl
 unfold rk dd
 rw [hh]
 rw [bg] at hd ⊢
 split
 ·rw [xx (by decide),bx,hd]
  simp
 ·rw [hd];simp
theorem ya (Vf:List Nat) (ls:List (List Nat)):jn Vf (ls++[[],[]])=ls.flatMap (· ++Vf)++Vf:=by
 have:=zD Vf (ls++[[]])
 rw [aJ] at this
 exact this.trans (by simp)
theorem vJ (l:HP):oy l=(l.map (λq:List Nat×List Nat=>q.1++58::32::q.2)++[[]]).flatMap (· ++[13,10]):=by
 unfold oy
 rw [yj]
 unfold yr
 rw [ya];simp
theorem JX {n:List Nat} (h: ∀c∈n,c∈zd):n.flatMap nR=n:=by
 induction n with
 |nil=>rfl
 |cons c n ih=>rw [bg,(y9 c (h c (.head _))).1,ih λx hx=>h x (.tail _ hx)];rfl
theorem KN (h:vv v):v.flatMap nR=toks v:=by
 induction v with
 |nil=>rfl
 |cons c v ih=>
  have hc:=h c (.head _)
  rw [bg,My c hc.2 hc.1,ih λx hx=>h x (.tail _ hx)];rfl
theorem pM {α:Type} (f:α->List Nat) (b c:List α):(b++c).flatMap f=b.flatMap f++c.flatMap f:=by simp
theorem Kv (h:oS q):(q.1++58::32::q.2).flatMap nR=vY q:=by
 rw [pM,JX h.n3]
 show q.1++(nR 58++(nR 32++q.2.flatMap nR))=_
 rw [KN h.v3,show nR 58=[58] by decide+kernel,show nR 32=[32] by decide+kernel]
 simp [vY]
theorem yO (h: ∀q∈l,oS q):(oy l).flatMap nR=(l.map vY++[[]]).flatMap (· ++[13,10]):=by
 have e0:([13,10]:List Nat).flatMap nR=[13,10]:=by decide+kernel
 rw [vJ]
 induction l with
 |nil=>exact e0
 |cons q l ih=>
  have ih:=ih λx hx=>h x (.tail _ hx)
  rw [ba,bx,bg,pM,ih,pM,Kv (h q (.head _)),e0]
  rfl
theorem NU (h:oS q): ∀c∈vY q,c∈wD:=by
 intro c hc
 rcases ar.mp hc with hc|hc
 ·rcases ar.mp hc with hc|hc
  ·exact .tail _ (.tail _ (.tail _ (ax _ (h.n3 c hc))))
  ·exact (by decide+kernel: ∀c∈[58,32],c∈wD) c hc
 ·have:=xq h.v3 c hc
  rcases ao.mp this with rfl|h
  ·exact .head _
  ·exact .tail _ (.tail _ (.tail _ (aM _ h)))
theorem Bl (h: ∀q∈l,oS q):Txt.lines (S ((oy l).flatMap nR))=(l.map vY++[[]]).map S:=by
 rw [yO h]
 refine C9 (.inr (.inl rfl)) λx hx c hc=> ?_
 rcases ar.mp hx with hx|hx
 ·obtain ⟨q,h1,rfl⟩:=aK.mp hx
  exact (xf c (NU (h q h1) c hc)).1
 ·rw [ak.mp hx] at hc;cases hc
theorem KF (h: ∀q∈l,oS q):Qm ((oy l).flatMap nR):=by
 intro x hx
 rw [Bl h] at hx
 refine mQ (aK.mp hx) λy hy T0=> ?_;obtain rfl:=T0
 have e:(S y).cps.toList=y:=by simp [S]
 rw [e]
 rcases ar.mp hy with hy|hy
 ·refine mQ (aK.mp hy) λq h1 T0=> ?_;obtain rfl:=T0
  refine oU (Dv (h q h1).v3 (h q h1).v2) λa c h2 h3=> ?_
  have e2:(vY q).getLastD 0=c:=by unfold vY;rw [h2,<-aJ,fW]
  rw [e2]
  have:=D7 c h3
  simp [this.2.1,this.2.2]
 ·rw [ak.mp hy];rfl
def pH (w:Nat) (l:HP):List (List Nat):=l.flatMap (JF w)++[[]]
theorem CH (h: ∀q∈l,oS q) (w:Nat):pU w ((oy l).flatMap nR)=pH w l:=by
 unfold pU
 rw [Bl h]
 have e0:rF w 0 []=[[]]:=rfl
 rw [bh,bV]
 have e1:((l.map vY).map S).flatMap (λx=>rF w x.length x.cps.toList)=l.flatMap (JF w):=by
  rw [aB,List.flatMap_map]
  congr 1
 rw [e1]
 rfl
theorem JM (h: ∀q∈l,oS q):((oy l).flatMap nR).getLastD 0=10:=by
 rw [yO h,pM];simp
theorem A7 (h: ∀q∈l,oS q) (w:Nat) (Uc:List Nat):qO w ((oy l).flatMap nR) Uc=(pH w l).flatMap (· ++Uc):=by
 unfold qO wf
 rw [yj,JM h,CH h,if_pos (by decide)]
 exact zD _ _
theorem vD (hw:12<=w) (h: ∀q∈l,oS q): ∀p∈pH w l,(∀c∈p,c∈wD)/\p.length<=w/\(p=[]\/ ∃(q:List Nat) (c:Nat),p=q++[c]/\c∈61::xj):=by
 intro p hp
 rcases ar.mp hp with hp|hp
 ·refine mQ (cT.mp hp) λq h1 h2=> ?_
  have:=J3 hw (h q h1)
  exact ⟨this.chars p h2,this.len p h2,.inr (this.last p h2)⟩
 ·rw [ak.mp hp];exact ⟨(λc h=>nomatch h),cx _,.inl rfl⟩
theorem tW (hb:tc b): ∃c t,b=c::t/\(c=10\/c=13)/\(∀d∈b,d<256)/\b.length<=2:=by
 rcases hb with rfl|rfl|rfl
 ·exact ⟨10,[],rfl,.inl rfl,by decide,by decide⟩
 ·exact ⟨13,[10],rfl,.inr rfl,by decide,by decide⟩
 ·exact ⟨13,[],rfl,.inr rfl,by decide,by decide⟩
theorem I9 (hw:12<=w) (h: ∀q∈l,oS q) (he:tc Uc):Txt.split (S (qO w ((oy l).flatMap nR) Uc)) (S Uc)=(pH w l++[[]]).map S:=by
 refine nh (tW he) λc t e hc hd z=> ?_
 rw [A7 h,<-zD]
 cases hm:pH w l++[[]] with
 |nil=>simp at hm
 |cons y ls=>
  refine zm e hd λx hx=> ?_
  rw [<-hm] at hx
  rcases ar.mp hx with hx|hx
  ·intro q
   have:=xf c ((vD hw h x hx).1 c q)
   rcases hc with rfl|rfl
   ·exact this.2.1 rfl
   ·exact this.2.2 rfl
  ·rw [ak.mp hx];exact λq=>nomatch q
theorem EX (he:tc Uc): ∀ps:List (List Nat),(∀p∈ps,∀c∈p,c∈wD)->pb (ps.flatMap (· ++Uc))=ps.flatMap (· ++[13,10])
 |[],_=>rfl
 |p::ps,h=>by
  have ih:=EX he ps λx hx=>h x (.tail _ hx)
  have hi: ∀c∈wD,wx c=false:=by decide+kernel
  rw [bg,bg,aJ,xu _ _ λc hc=>hi c (h p (.head _) c hc),aJ,<-ih]
  congr 1
  rcases he with rfl|rfl|rfl
  ·exact Hm _
  ·exact CU _
  ·refine Hc ?_
   cases ps with
   |nil=>simp
   |cons q ps=>
    cases q with
    |nil=>simp
    |cons c q=>
     have:=xf c (h (c::q) (.tail _ (.head _)) c (.head _))
     intro q'
     exact this.2.1 (am q')
theorem Cv (r:List Nat): ∀p:List Nat,(∀c∈p,c≠10)->dots false (p++13::10::r)=p++13::10::dots ai r
 |[],_=>rfl
 |c::p,h=>by
  have hc:(c==10)=false:=by rw [beq_eq_false_iff_ne];exact h c (.head _)
  rw [bx,dots,if_neg (by simp),hc,Cv r p λx hx=>h x (.tail _ hx)]
  rfl
theorem Mg (r p:List Nat) (h: ∀c∈p,c≠10):dots ai (p++13::10::r)=dd p++13::10::dots ai r:=by
 cases p with
 |nil=>rfl
 |cons c p=>
  have hc:(c==10)=false:=by rw [beq_eq_false_iff_ne];exact h c (.head _)
  unfold dd
  rw [bx,dots]
  by_cases h46:c=46
  ·subst h46
   rw [if_pos ⟨rfl,rfl⟩,Cv r p λx hx=>h x (.tail _ hx)];rfl
  ·rw [if_neg λq=>h46 q.2,hc,Cv r p λx hx=>h x (.tail _ hx),if_neg (by simpa using h46)];rfl
theorem FA: ∀ps:List (List Nat),(∀p∈ps,∀c∈p,c∈wD)->dots ai (ps.flatMap (· ++[13,10]))=(ps.map dd).flatMap (· ++[13,10])
 |[],_=>rfl
 |p::ps,h=>by
  have ih:=FA ps λx hx=>h x (.tail _ hx)
  have:=Mg (ps.flatMap (· ++[13,10])) p λc hc=>(xf c (h p (.head _) c hc)).2.1
  rw [bg,aJ]
  rw [ih] at this
  rw [show [13,10]++ps.flatMap (· ++[13,10])=13::10::ps.flatMap (· ++[13,10]) from rfl,this]
  simp
theorem z9 (hw:12<=w) (h: ∀q∈l,oS q) (he:tc Uc):um (qO w ((oy l).flatMap nR) Uc)=((pH w l).map dd).flatMap (· ++[13,10]):=by
 unfold um
 rw [A7 h,EX he _ λp hp=>(vD hw h p hp).1,FA _ λp hp=>(vD hw h p hp).1]
theorem JC (h: ∀c∈p,c∈wD): ∀c∈dd p,c∈wD:=by
 intro c hc
 unfold dd at hc
 split at hc
 ·rcases ao.mp hc with rfl|hc
  ·decide
  ·exact h c hc
 ·exact h c hc
theorem OS (h:p=[]\/ ∃q c,p=q++[c]/\c∈61::xj):Txt.rstrip (S (dd p))=S (dd p):=by
 rcases h with rfl|⟨q,c,rfl,hc⟩
 ·decide+kernel
 ·unfold dd
  split
  ·exact xl (l:=46::q) (D7 c hc).1
  ·exact xl (D7 c hc).1
theorem F6 {α:Type} {f:α->α} {l:List α} (h: ∀a∈l,f a=a):l.map f=l:=by
 conv=>rhs;rw [<-kU l]
 exact aV h
theorem Ez (hw:12<=w) (mark:List Nat): ∀{l:HP},(∀q∈l,oS q)->((l.flatMap (JF w)).map dd).flatMap (nG mark)=(l.map rk).flatMap (· ++mark)
 |[],_=>rfl
 |q::l,h=>by rw [bg,bh,bV,Ez hw mark λx hx=>h x (.tail _ hx),Rq hw (h q (.head _)),ba,bg]
theorem KD (hw:12<=w) (mark:List Nat) (h: ∀q∈l,oS q):((pH w l).map dd).flatMap (nG mark)=jn mark (l.map rk++[[],[]]):=by
 have e0:(([[]]:List (List Nat)).map dd).flatMap (nG mark)=mark:=by
  rw [ba,gW,bg,jv,show dd []=[] from rfl,bK,nG]
 rw [ya,pH,bh,bV,e0,Ez hw mark h]
theorem Pn {Q mark r:List Nat} (h:Q.getLastD 0=10) (ha:qP Q mark=r):vi Q mark=r:=by
 unfold vi
 rw [h,if_neg (λq=>absurd q.1 (by decide)),ha]
theorem KW (L:List (List Nat)):((L++[[]]).flatMap (· ++[13,10])).getLastD 0=10:=by
 have e1:(L++[[]]).flatMap (· ++[13,10])=(L.flatMap (· ++[13,10])++[13])++[10]:=by
  rw [pM,aJ]
  rfl
 rw [e1,fW]
theorem Gs (hw:12<=w) (h: ∀q∈l,oS q) (he:tc Uc) (mark:List Nat):vi (um (qO w ((oy l).flatMap nR) Uc)) mark=jn mark (l.map rk++[[],[]]):=by
 have hq:=z9 hw h he
 have hl:Txt.lines (S (um (qO w ((oy l).flatMap nR) Uc)))=((pH w l).map dd).map S:=by
  rw [hq]
  refine C9 (.inr (.inl rfl)) λx hx c hc=> ?_
  obtain ⟨p,hp,rfl⟩:=aK.mp hx
  exact (xf c (JC (vD hw h p hp).1 c hc)).1
 have hd:oP (um (qO w ((oy l).flatMap nR) Uc))=(pH w l).map dd:=by
  unfold oP
  rw [hl,aB]
  refine F6 (λa ha=> ?_)
  refine mQ (aK.mp ha) λp hp T0=> ?_;obtain rfl:=T0
  show (Txt.rstrip (S (dd p))).cps.toList=dd p
  rw [OS (vD hw h p hp).2.2]
 refine Pn ?_ ?_
 ·rw [hq,pH,bh]
  exact KW _
 ·unfold qP
  rw [hd]
  exact KD hw mark h
theorem MT (h:oS q): ∀c∈rk q,c≠10/\c≠13:=by
 intro c hc
 have hd: ∀c∈dd q.1,c∈wD:=JC λc hc=>.tail _ (.tail _ (.tail _ (ax _ (h.n3 c hc))))
 rcases ar.mp hc with hc|hc
 ·exact (xf c (hd c hc)).2
 ·rcases ao.mp hc with rfl|hc
  ·decide
  ·rcases ao.mp hc with rfl|hc
   ·decide
   ·have:=h.v3 c hc;exact (mu (.i (.l xR xA) (.a (.n (.e xA (.c 10))) (.n (.e xA (.c 13))))) [_]) this.1
theorem IH {l:HP} (h: ∀q∈l,oS q) (hm:tc mark):Txt.split (S (jn mark (l.map rk++[[],[]]))) (S mark)=(l.map rk++[[],[]]).map S:=by
 refine nh (tW hm) λc t e hc hd z=> ?_
 cases hl:l.map rk++[[],[]] with
 |nil=>simp at hl
 |cons y ls=>
  refine zm e hd λx hx=> ?_
  rw [<-hl] at hx
  rcases ar.mp hx with hx|hx
  ·obtain ⟨q,h1,rfl⟩:=aK.mp hx
   intro q'
   have:=MT (h q h1) c q'
   rcases hc with rfl|rfl
   ·exact this.1 rfl
   ·exact this.2 rfl
  ·simp only [ao,fB,or_false,or_self] at hx
   rw [hx];exact λq=>nomatch q
theorem I6 (h:oS q):Txt.split (S (rk q)) (S [58,32])=[S (dd q.1),S q.2]:=by
 have e:rk q=jn [58,32] [dd q.1,q.2]:=by simp [rk,jn]
 rw [e]
 refine zm (c:=58) (t:=[32]) rfl (by decide) λx hx=> ?_
 simp only [ao,fB,or_false] at hx
 rcases hx with rfl|rfl
 ·intro hc
  unfold dd at hc
  split at hc
  ·rcases ao.mp hc with q|hc
   ·cases q
   ·exact (y9 _ (h.n3 _ hc)).2.2.1 rfl
  ·exact (y9 _ (h.n3 _ hc)).2.2.1 rfl
 ·intro hc
  have:=h.v3 _ hc;exact (mu (.n (.l xR (.c 58))) [] []) this.1
end
section
open PySem.Calls PyProof.Rows PySem.Builtin.Str
section
variable {prog:aH} {w:av} {A:aX} {X:List aF} {I:aW->Prop} {φ:Fs}
theorem Hf (i:IntsAre vs ns):mJ X h (ns.map PV.int) vs:=by
 induction i with
 |nil=>exact mJ.nil
 |cons _ _ _ i=>exact mJ.cons tJ i
theorem N0 {ns:List Int} (hh:A.handled=az):pR prog w A X I (.builtin "sum") [.list (ns.map PV.int)] (.int ns.sum):=λs vs z z r=>by
 refine mQ (qI r) λv T0 r1=> ?_;obtain rfl:=T0
 refine nh (pC r1) λa us T0 z hl hr=> ?_;obtain rfl:=T0
 have hi:=uK hr
 refine eE hi.allInts.items λxs e=> ?_
 have en:numsOf us=ns:=hi.numsOf
 refine sum_intListG hh (e▸hl) λh' tk t' hk=>⟨⟨h',tk,rfl,hk⟩,?_⟩
 have:preSum (numAt xs) xs.size=ns.sum:=by
  have e2:=nums_intItems xs
  rw [<-e] at e2
  have e3:numsOf us.toArray.toList=ns:=en
  rw [preSum_eq,bF (by simp)]
  rw [e2] at e3
  rw [e3]
 rw [this]
 exact tJ
theorem Ot {ns:List Int} (hh:A.handled=az) (hM:M∈ns) (Vm: ∀a∈ns,a<=M):pR prog w A X I (.builtin "max") [.list (ns.map PV.int)] (.int M):=λs vs z z r=>by
 refine mQ (qI r) λv T0 r1=> ?_;obtain rfl:=T0
 refine nh (pC r1) λa us T0 z hl hr=> ?_;obtain rfl:=T0
 have hi:=uK hr
 have Uj:0<us.length:=by rw [hr.len,ah];exact List.length_pos_of_mem hM
 obtain ⟨xs,e⟩:=hi.allInts.items
 have en:numsOf us=ns:=hi.numsOf
 have hsz:0<xs.size:=by
  have:=congrArg Array.size e
  simp [intItems] at this
  exact (mu (.i (.b xJ xB) (.i (.e xB xA) (.b xJ xA))) [_,_]) Uj this
 refine max_intList hh (e▸hl) hsz λv h' tk hv hk=>⟨⟨h',tk,rfl,hk⟩,?_⟩
 obtain ⟨t,rfl⟩:=intItems_at hv
 refine eA (argBest_gt (numAt xs) (xs.size - 1)) λh1 h2=> ?_
 have e2:=nums_intItems xs
 rw [<-e] at e2
 have e3:numsOf us.toArray.toList=ns:=en
 rw [e2] at e3
 generalize hk:lZ (λi j=>decide (numAt xs i>numAt xs j)) (xs.size - 1)=k at*
 have m1:numAt xs k∈ns:=by
  rw [numAt_eq,<-e3]
  exact PySem.getD_mem (by rw [ah,lj];exact (mu (.i (.b xJ xB) (.i (.l xA (.s xB xI)) (.b xA xB))) [_,_]) hsz h1)
 have m2:M<=numAt xs k:=by
  rw [<-e3] at hM
  obtain ⟨j,hj,e4⟩:=PySem.mem_getD hM
  rw [ah,lj] at hj
  rw [<-e4,<-numAt_eq]
  exact h2 j (by exact (mu (.i (.b xA xB) (.l xA (.s xB xI))) [_,_]) hj)
 have:=Vm _ m1
 rw [show numAt xs k=M by exact (mu (.i (.L xB xA) (.i (.L xA xB) (.E xA xB))) [] [_,_]) m2 this]
 exact tJ
theorem HL (h64:ns.length<64):pR prog w A X I (.builtin "sorted") [.list (ns.map PV.int)] (.list ((sortI ns).map PV.int)):=λs vs z lx r=>by
 refine mQ (qI r) λv T0 r1=> ?_;obtain rfl:=T0
 refine nh (pC r1) λa us T0 z hl hr=> ?_;obtain rfl:=T0
 have hi:=uK hr
 have Ud:us.length<64:=by rw [hr.len,ah];exact h64
 refine sorted_ints hl hi Ud λout ns' a1 a2 a3=> ?_
 refine eE (sortedAll_at s.heap us out) λe he=> ?_
 have hk:mT s.heap (sortedAll s.heap us out):=λz z=>sortedAll_old
 refine ⟨⟨_,s.toks,rfl,hk⟩,?_⟩
 rw [<-eq_sortI a2 a3]
 refine uG (vs:=out.toList) (λq=> ?_) ⟨_,he,rfl,e,rfl⟩ (Hf a1)
 obtain ⟨o,e'⟩:=lx _ q
 exact absurd (aR e') (i6.mpr (ix _))
theorem Jr (hz:ps.length<=100000):pR prog w A X I (.type "tuple") [.list ps] (.tup ps):=λs vs z lx r=>by
 have XC:=aw
 refine mQ (qI r) λv T0 r1=> ?_;obtain rfl:=T0
 refine nh (pC r1) λa us T0 z hl hr=> ?_;obtain rfl:=T0
 refine call_tuple_list hl (λh' hk=> ?_) (by rw [bo,hr.len];exact (mu (.i (.l xA (.c 100000)) (.i (.e xB xL) (.l xA xB))) [_,_]) hz XC)
 have kk:mT s.heap (h'.push {cls:=.type "tuple",data:=.seq us.toArray}):=λb o e=>aO _ (hk b o e)
 refine ⟨⟨_,s.toks,rfl,kk⟩,EP (λq=> ?_) ⟨_,au _ rfl,rfl,_,rfl⟩ (hr.keep kk)⟩
 obtain ⟨o,e'⟩:=lx _ q
 exact absurd (aR (hk _ _ e')) (cn _)
theorem CN (l:List Nat): ∀k,(aG k l).flatten.length=k*l.length
 |0=>by simp
 |k+1=>by rw [cq,cu,af,CN l k,Nat.succ_mul];exact mu (.e (.a xA xB) (.a xB xA)) [_,_]
theorem De (l:List Nat): ∀(k:Nat) (Us:Array Nat),((aG k l.toArray).foldl (· ++ ·) Us)=Us++(aG k l).flatten.toArray
 |0,Us=>by rfl
 |k+1,Us=>by
  rw [cq,eX,De l k,cq,cu]
  simp
theorem xU {k:Nat} (hl:l.length<=1000) (hk:k<=1000):n0 prog w A X (ca .Mult) (.str (S l)) (.int (k:Int)) (.str (S (aG k l).flatten)):=λs x y _ r q=>by
 have XC:=aw
 obtain ⟨t,rfl⟩:=nq r
 refine eE (ty q) λu T0=> ?_;obtain rfl:=T0
 have Ud:(S l).length=l.length:=mV l
 have hkl:k*l.length<=1000000:=by
  have:=gr hk hl;omega
 refine P.mul_str (by rw [decide_eq_false (by exact mu (.n (.B (.k xA) (.g xS))) [_]),decide_eq_false (by exact (mu (.i (.l xA xQ) (.n (.L xS (.k xA)))) [_]) hk)];rfl) (λh1 h2=> ?_) (λh1 h2=> ?_) ?_
 ·rw [Ud]
  have VC:(1:Int)<=k:=by exact (mu (.i (.n (.B (.k xA) xI)) (.L xI (.k xA))) [_]) h1
  have:(1000:Int)<=(2^63 - 1)/k:=by
   rw [Int.le_ediv_iff_mul_le (by exact (mu (.i (.n (.B (.k xA) xI)) (.B xJ (.k xA))) [_]) h1)]
   exact (mu (.i (.l xA xQ) (.L (.m 1000 (.k xA)) (.s xS xI))) [_]) hk
  exact (mu (.i (.l xA xQ) (.i (.L xQ xA) (.n (.B xA (.k xA))))) [_] [_]) hl this
 ·rw [Ud,bZ]
  unfold gy
  have:l.length*k<=1000000:=by rw [eK];exact hkl
  simp only [decide_eq_false_iff_not]
  exact (mu (.i (.e xA xL) (.i (.l xB (.c 1000000)) (.n (.b xA xB)))) [_,_]) XC this
 ·cases k with
  |zero=>
   rw [if_pos (by exact mu (.B (.k xJ) xI) [] [])]
   refine ⟨by decide,⟨_,_,rfl,λ_ _ e=>e⟩,?_⟩
   exact og
  |succ k=>
   rw [if_neg (by exact mu (.n (.B (.k (.a xA xI)) xI)) [_])]
   split
   ·rename_i c
    refine ⟨⟨_,_,rfl,λ_ _ e=>e⟩,?_⟩
    have:S l=S (aG (k+1) l).flatten:=by
     rw [Bool.or_eq_true,beq_iff_eq,beq_iff_eq] at c
     rcases c with c|c
     ·obtain rfl:k=0:=by exact (mu (.i (.E (.k (.a xA xI)) xI) (.e xA xJ)) [_]) c
      simp
     ·rw [Ud] at c
      rw [aY.mp c]
      congr 1
      symm
      rw [List.flatten_eq_nil_iff]
      intro x hx
      exact (dW.mp hx).2
    rw [<-this]
    exact og
   ·have e:(⟨(aG ((k+1:Nat):Int).toNat (S l).cps).foldl (· ++ ·) #[]⟩:Str)=S (aG (k+1) l).flatten:=by
     rw [bZ]
     apply iv
     rw [De]
     simp [S]
    rw [e]
    refine ⟨by rw [mV,CN];exact (mu (.i (.e xB xL) (.i (.l xA (.c 1000000)) (.l xA xB))) [_,_]) XC hkl,⟨_,_,rfl,λ_ _ e=>e⟩,og⟩
end
section
variable {prog:aH} {w:av} {φ:Fs}
theorem CB {st:Expr} {lo hi0:Option Int} (hv:Ev prog w φ value (.list (ns.map PV.int))) (hl:zf prog w φ lower lo) (hu:zf prog w φ upper hi0) (hs:zf prog w φ (aa st) (aa k)) (hk:k≠0)
  (hsz:ns.length<=bn):Ev prog w φ (.Subscript value (.Slice lower upper (aa st) p) pos) (.list ((i4 ns lo hi0 (aa k)).map PV.int)):=.mk λs i=>by
 refine Subscript_ (ab (hv.run s i) (λv TZ uu=>eA uu λT1 T4=>j7 (ab (hl.run TZ (φ.mono' i T1)) (λvl T2 uu=>oV uu λT3 lt e2 V1=>ab (hu.run T2 (φ.mono' i (mG T1 T3))) (λvu T9 uu=>oV uu λUb ut e3 W4=>
  ab (hs.run T9 (φ.mono' i (mG T1 (mG T3 Ub)))) (λvst Ul uu=>oV uu λUx stt e4 e4'=> ?_) λz z e=>e) λz z e=>e) λz z e=>e)) λz z e=>e)
 subst e2 e3 e4
 refine nh (pC T4) λa vs T0 ha Wd hr=> ?_;obtain rfl:=T0
 have kk:=mG T1 (mG T3 (mG Ub Ux))
 have VJ:=mG (mG T3 (mG Ub Ux)) (mY Ul {cls:=.type "slice",data:=.fields #[cK lt,cK ut,cK stt]} Ul.toks)
 have hl4:=Wd.at λo e=>mz VJ _ _ e
 have hi:=uK hr
 refine vH hl4.typeIs fP.lookup (g5 hl4 (gQ _ _ _ _) (xe V1) (xe W4) (xe e4') (by simpa using hk) ?_ (by rw [bo,hr.len,ah];exact hsz))
 have lx:=φ.live _ (φ.mono' i (mG kk (mY Ul {cls:=.type "slice",data:=.fields #[cK lt,cK ut,cK stt]} Ul.toks)))
 have h2:=IntsAre.pick hi lo hi0 (aa k)
 have:=uB (s:={Ul with heap:=Ul.heap.push {cls:=.type "slice",data:=.fields #[cK lt,cK ut,cK stt]}}) (tk:=Ul.toks) lx (Hf h2)
 exact ⟨mG T1 (mG VJ this.1),this.2⟩
end
section
variable {prog:aH} {w:av} {A:aX} {E:ay->aq->Prop} {s:aq}
theorem zU {Uf} {Q:ay->aq->Prop} (WE:s.heap.IsTupleIter it t i)
  (ht:s.heap.IsTuple t Uf) (hx:Uf[i]? =aa x)
  (hQ: ∀h',h'.IsTupleIter it t (i+1)->cL it s.heap h'->Q x {s with heap:=h'}):
  aC (aI prog w) A (ig (.ref it)) Q E s:=by
 refine tE (id WE) λo ho hc hd=> ?_
 refine HK ht λol We z nl hdl=> ?_
 refine ae (fw (name:=aS "__next__") WE.typeIs F.slot_tuple_iterator_next
  (dA F.slot_tuple_iterator_next WE.typeIs F.entry_tuple_iterator_next ?_ (F.args_tuple_iterator_next_1 _)))
 show aC _ _ (field (.ref it) 0 >>= _) _ _ s
 refine ae (ec ho hd (x:=.ref t) rfl ?_)
 rw [if_neg (show ¬((jm t==iJ)=ai) from dy)]
 refine ae (ec ho hd (x:=.int i 0) rfl ?_)
 refine ae (dY We hdl ?_)
 simp only [bZ,hx]
 refine ae (wpAny_setField ho hd (by simp) (aj ⟨x,rfl,aj (hQ _ ?_ (ed ..))⟩))
 exact ⟨_,cr _ ho (Obj.isFreed_of_fields (mi hd _)),(Obj.cls_mapFields ..).trans hc,by
  rw [mi hd];simp [eO]⟩
theorem AY {Uf} {Q:ay->aq->Prop} (hh:A.handled=az)
  (WE:s.heap.IsTupleIter it t i) (hl:s.heap.IsTuple t Uf) (hx:Uf[i]? =az)
  (hE: ∀h' e,aW.ExtBut it s.heap h'->(∃o,h'.get? e=aa o/\o.cls= .type "StopIteration")->E (.ref e) {s with heap:=h'}):
  aC (aI prog w) A (ig (.ref it)) Q E s:=by
 refine tE (id WE) λo ho hc hd=> ?_
 refine HK hl λol We z nl hdl=> ?_
 refine ae (fw (name:=aS "__next__") WE.typeIs F.slot_tuple_iterator_next
  (dA F.slot_tuple_iterator_next WE.typeIs F.entry_tuple_iterator_next ?_ (F.args_tuple_iterator_next_1 _)))
 show aC _ _ (field (.ref it) 0 >>= _) _ _ s
 refine ae (ec ho hd (x:=.ref t) rfl ?_)
 rw [if_neg (show ¬((jm t==iJ)=ai) from dy)]
 refine ae (ec ho hd (x:=.int i 0) rfl ?_)
 refine ae (dY We hdl ?_)
 simp only [bZ,hx]
 refine ae (gJ (ae (wpAny_setField ho hd (by simp) ?_)))
 refine ae ?_
 refine ae (eH ?_ (by size_fits))
 refine ae (m:=firstArgMember _ _) (bD (a:=iJ) (by first|rfl|(simp only [firstArgMember];rfl)) ?_)
 refine eH ?_ (by size_fits)
 refine ae (wpAny_handled ?_)
 first|rw [show A.in1.handled=az from hh]|rw [hh]
 refine ae (aj (wpAny_throw ?_))
 exact hE _ _ (((ed ..).extBut.push _).push _) ⟨_,au _ rfl,rfl⟩
theorem Gb (hh:A.handled=az) (it l:aF) (Uj:l≠it) (Uf:Array ay):
  Draws prog w A it [it,l] Uf.size (λi v=>Uf[i]? =aa v) (λi h=>h.IsTupleIter it l i/\h.IsTuple l Uf) where
 live:=λi h ⟨⟨o,ho,z⟩,y⟩=>⟨o,ho⟩
 frame:=λi h h' ⟨⟨o,a,r⟩,⟨o',b,r'⟩⟩ hk=>⟨⟨o,hk it (.head _) _ a,r⟩,⟨o',hk l (.tail _ (.head _)) _ b,r'⟩⟩
 item:=λi s Q E hi st hQ=>zU st.1 st.2 (eJ hi) λh' hit' hs=>hQ _ h' s.toks (eJ hi) ⟨hit',st.2.extBut hs.extBut Uj⟩ hs
 done:=λs Q E st hE=>AY hh st.1 st.2 (by simp) λh' e he ho=>hE h' e he ho
set_option tactic.hygienic true in
theorem xy (l:aF) (Uf:Array ay) (n:Nat) (VI:Option aF) (sl:Array (Option ay)):
  Meets (Builtin.«enumerate.__new__» ⟨[.type "enumerate",.ref l],[]⟩) (λ_ R s=>s.heap.get? l=aa {cls:=.type "tuple",dict:=VI,data:=.seq Uf n,slots:=sl}/\
   R (.ok (.ret (.ref (s.heap.push {cls:=.type "tuple_iterator",data:=.fields #[.ref l,.int 0 0]}).objs.size)))
    {s with heap:=(s.heap.push {cls:=.type "tuple_iterator",data:=.fields #[.ref l,.int 0 0]}).push {cls:=.type "enumerate",data:=.fields #[.none,.bool false,.ref s.heap.objs.size,eO 0,.none,.none]}}):=
 .of_wp λprog w A R s h=>by
  obtain ⟨hp,g,d,tk,os⟩:=s;refine eA h λhl h=> ?_
  have hsub:=sub_enumerate
  have hL:aW.IsTuple (aq.heap ⟨hp,g,d,tk,os⟩) l Uf:=⟨_,hl,rfl,n,rfl⟩
  wp_walk using iF hl
  refine wpAny_stack_any λst=>aj ?_
  split
  ·rename_i c _ _ _ _ _
   cases (c==dq "enumerate")
   ·wp_walk using iF hl,eo hL
    exact ⟨_,rfl,h⟩
   ·wp_walk using iF hl,eo hL
    exact ⟨_,rfl,h⟩
  ·wp_walk using iF hl,eo hL
   exact ⟨_,rfl,h⟩
theorem zp {Q:ay->aq->Prop} (hL:s.heap.IsTuple l Uf)
  (h: ∀h',IsEnum h' (s.heap.objs.size+1) s.heap.objs.size 0 .none->h'.IsTupleIter s.heap.objs.size l 0->h'.objs.size=s.heap.objs.size+2->
   (∀b o,s.heap.get? b=aa o->h'.get? b=aa o)->Q (.ref (s.heap.objs.size+1)) {s with heap:=h'}):
  aC (aI prog w) A (ft (.type "enumerate") [.ref l]) Q E s:=by
 obtain ⟨⟨c,VI,dt,sl⟩,hl,hc,n,hd⟩:=hL
 replace hc:c= .type "tuple":=hc
 replace hd:dt= .seq Uf n:=hd
 subst hc hd
 refine callType_new F.called_enumerate (by decide) (F.typeCall_enumerate_1 _) (F.newCall_enumerate_1 _) (λobj=>F.args_object_init_2 obj _) F.entry_enumerate_new
  (xy l Uf n VI sl) ⟨hl,?_⟩
 have hz:(s.heap.push {cls:=.type "tuple_iterator",data:=.fields #[.ref l,.int 0 0]}).objs.size=s.heap.objs.size+1:=cw ..
 rw [hz]
 have he:IsEnum ((s.heap.push {cls:=.type "tuple_iterator",data:=.fields #[.ref l,.int 0 0]}).push
   {cls:=.type "enumerate",data:=.fields #[.none,.bool false,.ref s.heap.objs.size,eO 0,.none,.none]}) (s.heap.objs.size+1) s.heap.objs.size 0 .none:=by
  have:=au (s.heap.push {cls:=.type "tuple_iterator",data:=.fields #[.ref l,.int 0 0]})
   (o:={cls:=.type "enumerate",data:=.fields #[.none,.bool false,.ref s.heap.objs.size,eO 0,.none,.none]}) rfl
  rw [hz] at this;exact this
 refine ⟨⟨_,he,rfl⟩,h _ he ⟨_,aO _ (au _ rfl),rfl,rfl⟩ (by rw [cw,hz]) λb o x=>aO _ (aO _ x)⟩
end
section
variable {prog:aH} {w:av} {c:Sc} {σ:mW} {Λ:List (aF×List PV)}
theorem Ju (he:FM prog w (fs c σ Λ) iter "enumerate" [.tup ps]) (hh:c.A.handled=az) (ho: ∀b∈own,b∈c.X):
  uv prog w c σ Λ own (.Tuple Vg ek epos) iter ((ps.mapIdx λi p=>[.int i,p]).map .tup):=.mk λs i=>by
 refine he.run s i _ λTZ vs T1 r=> ?_
 refine ng r ?_;clear r;intro v us T0 r q;obtain rfl:=T0
 subst q
 refine nh r ?_;clear r;intro a vs T0 ha hl hr;obtain rfl:=T0
 have hr:mJ c.X TZ.heap ps vs:=hr
 have hn:a∉own:=λq=>ha (ho a q)
 refine mQ (id hl) λo e1 e2=> ?_
 have lt: @kD Nat _ a TZ.heap.objs.size:=aR e1
 have ga:(hideAll TZ.heap own).get? a=aa o:=bS _ e1 hn
 refine zp hl λh' hE hI hz hk=> ?_
 refine wpAny_pyIter_enum hE ?_
 have T3:bB TZ {TZ with heap:=h'}:=⟨h',TZ.toks,rfl,hk⟩
 have hla:h'.IsTuple a vs.toArray:=let ⟨o,e,r⟩:=hl;⟨o,hk _ _ e,r⟩
 refine ⟨TZ,_,[TZ.heap.objs.size+1,TZ.heap.objs.size],_,rfl,yo (WalksT.enumerateD (Gb (A:=c.A.in1) hh TZ.heap.objs.size a (o9 (by exact (mu (.i (.b xA xB) (.o (.b xA xB) (.b xB xA))) [_,_]) lt)) vs.toArray) (TZ.heap.objs.size+1) (o9 (by exact mu (.o (.b (.a xA xI) xA) (.b xA (.a xA xI))) [_])) (by simp;exact (o9 (by exact (mu (.i (.b xB xA) (.o (.b (.a xA xI) xB) (.b xB (.a xA xI)))) [_,_]) lt))) (by simp)) (λy h=>h) (λb hb=> ?_) (λb hb=> ?_) (λi h st b hb=> ?_) ?_ (λj p v h Y e1 e2 k hY=> ?_),
  ⟨⟨⟨_,hE⟩,hI,hla⟩,λb o e=>hk _ _ (bU _ e)⟩,T1,T3,λb hb=> ?_⟩
 ·simp at hb
  rcases hb with rfl|rfl|rfl
  ·exact .inl (.head _)
  ·exact .inl (.tail _ (.head _))
  ·exact .inr ⟨o,ga⟩
 ·simp at hb
  rcases hb with rfl|rfl
  ·exact pg (n5 (by exact mu (.l xA (.a xA xI)) [_]))
  ·exact pg (n5 (by exact mu (.l xA xA) [_]))
 ·simp at hb
  rcases hb with rfl|rfl
  ·obtain ⟨⟨old,q⟩,_⟩:=st;exact ⟨_,q,λv z=>nomatch z⟩
  ·obtain ⟨_,⟨o,q1,q2,q3⟩,_⟩:=st;exact ⟨o,q1,λv z=>by rw [q3] at z;cases z⟩
 ·rw [bo,hr.len,lT]
 ·obtain ⟨t,x,q,rfl⟩:=e2
  rw [kZ] at e1
  refine mQ (dT.mp e1) λp' hp T0=> ?_;obtain rfl:=T0
  exact mJ.cons (by exact ⟨t,rfl⟩) (mJ.cons (mO.keep k ((hr.get' hp q |>.keepX (so ho)).sub hY)) mJ.nil)
 ·simp at hb
  rcases hb with rfl|rfl
  ·exact n5 (by exact mu (.l xA (.a xA xI)) [_])
  ·exact n5 (by exact mu (.l xA xA) [_])
end
section
variable {prog:aH} {w:av} {A:aX} {E:ay->aq->Prop} {s:aq}
theorem Gl {Q:Option Obj->aq->Prop} (ho:s.heap.get? a=aa o) (h:Q (aa o) s):aC M A (loadIfAlive a) Q E s:=λΓ p z=>by
 show iV M Γ (.loadIfAlive a .pure) _ _ p s
 rw [Sem.wp_loadIfAlive,ho]
 exact h
abbrev ua (h:aW) (z TI TO T:aF) (b:Bool):Prop:=
 h.get? z=aa {cls:=.type "zip",dict:=az,data:=.fields #[eO T,.bool b,.bool false,.ref TI,.ref TO],slots:= #[]}
theorem Dj {oT:Obj} (hz:ua s.heap z TI TO T b) (hT:s.heap.get? T=aa oT):
  aC (aI prog w) A (Builtin.SmallTypes.ownedTupleIsFree (.ref z)) (λr s'=>r=false/\ ∃Ua,s'={s with heap:=Ua}/\ua Ua z TI TO T ai/\cL z s.heap Ua) E s:=by
 refine ae (ec hz rfl (x:=eO T) rfl ?_)
 show aC _ _ (loadIfAlive (Int.toNat (T:Int)) >>= _) _ _ _
 rw [bZ]
 refine ae (Gl hT ?_)
 simp only [Option.isNone_some,a9,if_false]
 refine ae (ec hz rfl (x:=.bool b) rfl ?_)
 cases b
 ·simp only [show ((jK false !=jK ai)=ai) from rfl,if_true]
  refine ae (wpAny_setField_rec hz (by simp) λUa hz1 UH=> ?_)
  exact aj ⟨rfl,Ua,rfl,hz1,UH⟩
 ·have: ¬((jK ai !=jK ai)=ai):=by decide
  simp only [this,if_false,a9]
  first
   |exact aj ⟨rfl,s.heap,rfl,hz,.refl ..⟩
   |exact ae (aj (aj ⟨rfl,s.heap,rfl,hz,.refl ..⟩))
theorem DF {oT:Obj} {Q:ay->aq->Prop} (D:iZ z TI TO i1 i2 l1 l2)
  (hz:ua s.heap z TI TO T b) (hT:s.heap.get? T=aa oT) (Xm:gY s.heap TI (.ref i1) (.ref i2))
  (h1:s.heap.IsListIter i1 l1 k1) (h2:s.heap.IsListIter i2 l2 k2) (hl1:s.heap.IsList l1 xs) (hl2:s.heap.IsList l2 ys) (hx:xs[k1]? =aa x) (hy:ys[k2]? =aa y)
  (hQ: ∀h',ua h' z TI TO T ai->h'.IsListIter i1 l1 (k1+1)->h'.IsListIter i2 l2 (k2+1)->gY h' s.heap.objs.size x y->h'.objs.size=s.heap.objs.size+1->
   (∀c o,c≠z->c≠i1->c≠i2->s.heap.get? c=aa o->h'.get? c=aa o)->Q (.ref s.heap.objs.size) {s with heap:=h'}):
  aC (aI prog w) A (Builtin.«zip.__next__» ⟨[.ref z],[]⟩) (λqq s'=> ∃v,qq= .done (.ret v)/\Q v s') E s:=by
 show aC _ _ (field (.ref z) 2 >>= _) _ _ _
 refine ae (ec hz rfl (x:=.bool false) rfl ?_)
 refine ae (ec hz rfl (x:=.ref TI) rfl ?_)
 refine ae (dY Xm rfl ?_)
 refine ae (ab (Dj (E:=E) hz hT) (λr TZ uu=>NI uu λe Ua e' hz1 UH=> ?_) λj j e=>e)
 subst e e'
 simp only [a9,if_false]
 rw [<-lG]
 simp only [cD,ii]
 refine ae (ae (ae (bL ?_)))
 refine ae (me (h1.extBut UH.extBut D.i1z) (hl1.extBut UH.extBut D.l1z) hx λUt h1₂ U6=>aj (aj ?_))
 refine ae (ae (bL ?_))
 refine ae (me ((h2.extBut UH.extBut D.i2z).extBut U6.extBut D.i12.symm) ((hl2.extBut UH.extBut D.l2z).extBut U6.extBut D.l2i1) hy λUn h2₃ hs3=>aj (aj ?_))
 refine aj ?_
 refine ae (wpAny_newTuple ?_ (by show 2<=bn;decide))
 have hsz:Un.objs.size=s.heap.objs.size:=by rw [hs3.1,U6.1,UH.1]
 have hz₃:ua Un z TI TO T ai:=hs3.extBut _ _ D.i2z.symm (U6.extBut _ _ D.i1z.symm hz1)
 have h1₃:Un.IsListIter i1 l1 (k1+1):=h1₂.extBut hs3.extBut D.i12
 refine aj ⟨_,rfl,?_⟩
 rw [hsz]
 have pk: ∀c o,Un.get? c=aa o->(Un.push {cls:=.type "tuple",data:=.seq #[x,y]}).get? c=aa o:=λc o e=>aO _ e
 refine hQ _ (pk _ _ hz₃) (h1₃.at λo e=>pk _ o e) (h2₃.at λo e=>pk _ o e) ?_ (by rw [cw,hsz]) λc o c1 c2 c3 e=>pk _ _ (hs3.extBut _ _ c3 (U6.extBut _ _ c2 (UH.extBut _ _ c1 e)))
 rw [<-hsz]
 exact au _ rfl
theorem Ec {oT:Obj} {Q:Fin->aq->Prop} (hh:A.handled=az) (D:iZ z TI TO i1 i2 l1 l2)
  (hz:ua s.heap z TI TO T b) (hT:s.heap.get? T=aa oT) (Xm:gY s.heap TI (.ref i1) (.ref i2))
  (h1:s.heap.IsListIter i1 l1 k1) (hl1:s.heap.IsList l1 xs) (hx:xs[k1]? =az)
  (hE: ∀h' e,(∀c o,c≠z->c≠i1->s.heap.get? c=aa o->h'.get? c=aa o)->(∃o,h'.get? e=aa o/\o.cls= .type "StopIteration")->E (.ref e) {s with heap:=h'}):
  aC (aI prog w) A (Builtin.«zip.__next__» ⟨[.ref z],[]⟩) Q E s:=by
 show aC _ _ (field (.ref z) 2 >>= _) _ _ _
 refine ae (ec hz rfl (x:=.bool false) rfl ?_)
 refine ae (ec hz rfl (x:=.ref TI) rfl ?_)
 refine ae (dY Xm rfl ?_)
 refine ae (ab (Dj (E:=E) hz hT) (λr TZ uu=>NI uu λe Ua e' hz1 UH=> ?_) λz z e=>e)
 subst e e'
 simp only [a9,if_false]
 rw [<-lG]
 simp only [cD,ii]
 refine ae (ae (ae (bL ?_)))
 refine ae (wpAny_nextOf_list_end hh (h1.extBut UH.extBut D.i1z) (hl1.extBut UH.extBut D.l1z) hx λUt e U6 he=> ?_)
 exact hE Ut e (λc o c1 c3 x=>U6 _ _ c3 (UH.extBut _ _ c1 x)) he
structure Df (h:aW) (z TI TO i1 i2 l1 l2 S:aF) (xs ys:Array ay) (i:Nat):Prop where
 ti:gY h TI (.ref i1) (.ref i2)
 to: ∃a b,gY h TO a b
 it1:h.IsListIter i1 l1 i
 it2:h.IsListIter i2 l2 i
 li1:h.IsList l1 xs
 li2:h.IsList l2 ys
 zip:IsZip h z TI TO .none\/ ∃T b o,ua h z TI TO T b/\h.get? T=aa o/\T≠S/\T≠z/\T≠TO/\T≠i1/\T≠i2
theorem Df.keep {h h':aW} {z TI TO i1 i2 l1 l2 S:aF} (t:Df h z TI TO i1 i2 l1 l2 S xs ys i) (k: ∀c o,c≠S->h.get? c=aa o->h'.get? c=aa o) (hS:S≠z/\S≠TI/\S≠TO/\S≠i1/\S≠i2/\S≠l1/\S≠l2):Df h' z TI TO i1 i2 l1 l2 S xs ys i where
 ti:=k _ _ hS.2.1.symm t.ti
 to:=let ⟨a,b,q⟩:=t.to;⟨a,b,k _ _ hS.2.2.1.symm q⟩
 it1:=t.it1.at λo e=>k _ o hS.2.2.2.1.symm e
 it2:=t.it2.at λo e=>k _ o hS.2.2.2.2.1.symm e
 li1:=t.li1.at λo e=>k _ o hS.2.2.2.2.2.1.symm e
 li2:=t.li2.at λo e=>k _ o hS.2.2.2.2.2.2.symm e
 zip:=by
  rcases t.zip with q|⟨T,b,o,q1,q2,q3⟩
  ·exact .inl (k _ _ hS.1.symm q)
  ·exact .inr ⟨T,b,o,k _ _ hS.1.symm q1,k _ _ q3.1 q2,q3⟩
theorem K0 {z TI TO i1 i2 l1 l2 S:aF} {Q:Option ay->aq->Prop} (D:iZ z TI TO i1 i2 l1 l2) (t:Df s.heap z TI TO i1 i2 l1 l2 S xs ys i) (hS:S<s.heap.objs.size)
  (hx:xs[i]? =aa x) (hy:ys[i]? =aa y)
  (hQ: ∀h',Df h' z TI TO i1 i2 l1 l2 S xs ys (i+1)->gY h' s.heap.objs.size x y->h'.objs.size=s.heap.objs.size+1->(∀c o,c≠z->c≠TO->c≠i1->c≠i2->s.heap.get? c=aa o->h'.get? c=aa o)->Q (aa (.ref s.heap.objs.size)) {s with heap:=h'}):
  aC (aI prog w) A (lV (.ref z)) Q E s:=by
 have lt: ∀{c o},s.heap.get? c=aa o->s.heap.objs.size≠c:=λe=>cZ (aR e)
 have n1:s.heap.objs.size≠i1:=by obtain ⟨_,e,_⟩:=t.it1;exact lt e
 have n2:s.heap.objs.size≠i2:=by obtain ⟨_,e,_⟩:=t.it2;exact lt e
 refine rR t.to λa b Vj=> ?_
 have qq: ∀h' b',ua h' z TI TO s.heap.objs.size b'\/(∃T b o,ua h' z TI TO T b/\h'.get? T=aa o/\T≠S/\T≠z/\T≠TO/\T≠i1/\T≠i2)->gY h' s.heap.objs.size x y->(∃a b,gY h' TO a b)->h'.IsListIter i1 l1 (i+1)->h'.IsListIter i2 l2 (i+1)->s.heap.objs.size≠z->s.heap.objs.size≠TO->
   (∀c o,c≠z->c≠TO->c≠i1->c≠i2->s.heap.get? c=aa o->h'.get? c=aa o)->Df h' z TI TO i1 i2 l1 l2 S xs ys (i+1):=λh' b' hz hp hto a1 a2 nz nTO hk=>{
  ti:=hk _ _ D.TIz D.TITO D.TIi1 D.TIi2 t.ti
  to:=hto
  it1:=a1
  it2:=a2
  li1:=t.li1.at λo e=>hk _ o D.l1z D.l1TO D.l1i1 D.l1i2 e
  li2:=t.li2.at λo e=>hk _ o D.l2z D.l2TO D.l2i1 D.l2i2 e
  zip:=by
   rcases hz with q|q
   ·exact .inr ⟨_,b',_,q,hp,cZ hS,nz,nTO,n1,n2⟩
   ·exact .inr q}
 rcases t.zip with hz|⟨T,b',oT,hz,hT,nS,nz,nTO,m1,m2⟩
 ·refine wpAny_pyNext_zip_item D hz t.ti Vj t.it1 t.it2 t.li1 t.li2 hx hy λh' a1 a2 a3 a4 a5 a6 hk=> ?_
  exact hQ h' (qq h' false (.inl a1) a5 ⟨_,_,a2⟩ a3 a4 (lt hz) (lt Vj) hk) a5 a6 hk
 ·have hTy:s.TypeIs (.ref z) "zip":=⟨_,hz,rfl⟩
  refine ae (lk (fw (name:=aS "__next__") hTy F.slot_zip_next
   (dA F.slot_zip_next hTy F.entry_zip_next
    (DF D hz hT t.ti t.it1 t.it2 t.li1 t.li2 hx hy λh' a1 a2 a3 a4 a5 a6=>aj ?_) (F.args_zip_next_1 _))))
  have hk: ∀c o,c≠z->c≠TO->c≠i1->c≠i2->s.heap.get? c=aa o->h'.get? c=aa o:=λc o c1 z c3 c4 e=>a6 c o c1 c3 c4 e
  exact hQ h' (qq h' ai (.inr ⟨T,ai,oT,a1,a6 _ _ nz m1 m2 hT,nS,nz,nTO,m1,m2⟩) a4 ⟨a,b,a6 _ _ D.TOz D.TOi1 D.TOi2 Vj⟩ a2 a3 (lt hz) (lt Vj) hk) a4 a5 hk
theorem Li {z TI TO i1 i2 l1 l2 S:aF} {xs ys:Array ay} {i:Nat} {Q:Option ay->aq->Prop} (hh:A.handled=az) (D:iZ z TI TO i1 i2 l1 l2) (t:Df s.heap z TI TO i1 i2 l1 l2 S xs ys i)
  (hx:xs[i]? =az) (hQ: ∀h',(∀c o,c≠z->c≠TO->c≠i1->c≠i2->s.heap.get? c=aa o->h'.get? c=aa o)->Q az {s with heap:=h'}):
  aC (aI prog w) A (lV (.ref z)) Q E s:=by
 refine rR t.to λa b Vj=> ?_
 rcases t.zip with hz|⟨T,b',oT,hz,hT,nS,nz,nTO,m1,m2⟩
 ·exact wpAny_pyNext_zip_end hh D hz t.ti Vj t.it1 t.it2 t.li1 t.li2 (.inl hx) hQ
 ·have hTy:s.TypeIs (.ref z) "zip":=⟨_,hz,rfl⟩
  refine ae (lk (fw (name:=aS "__next__") hTy F.slot_zip_next
   (dA F.slot_zip_next hTy F.entry_zip_next (Ec (A:=A.in1) hh D hz hT t.ti t.it1 t.li1 hx λh' e hk he=> ?_) (F.args_zip_next_1 _))))
  refine mQ he λo ho hc=> ?_
  refine ae (jW (T:="StopIteration") (b:=ai) ⟨o,ho,hc⟩ isSubtype_stop ?_)
  exact aj (hQ _ λc o c1 z c3 z e=>hk c o c1 c3 e)
def Bk (h:aW) (N:Nat) (xs ys:Array ay) (Us:Array ay) (i:Nat):Prop:=Us.size=i/\ ∀(j:Nat) (v:ay),Us[j]? =aa v-> ∃(T:aF) (x y:ay),v=jm T/\N<=T/\xs[j]? =aa x/\ys[j]? =aa y/\gY h T x y
theorem Bk.push (a:Bk h N xs ys Us i) (hT:N<=T) (hx:xs[i]? =aa x) (hy:ys[i]? =aa y) (hp:gY h T x y):Bk h N xs ys (Us.push (.ref T)) (i+1):=by
 refine ⟨by rw [Array.size_push,a.1],λj v hj=> ?_⟩
 rw [Array.getElem?_push] at hj
 split at hj
 ·rename_i e;rw [a.1] at e;obtain rfl:=am hj;subst e;exact ⟨T,x,y,rfl,hT,hx,hy,hp⟩
 ·exact a.2 j v hj
theorem Bk.keep {h h':aW} (a:Bk h N xs ys Us i) (k: ∀c o,N<=c->h.get? c=aa o->h'.get? c=aa o):Bk h' N xs ys Us i:=
 ⟨a.1,λj v hj=>let ⟨T,x,y,e,hN,h1,h2,hp⟩:=a.2 j v hj;⟨T,x,y,e,hN,h1,h2,k _ _ hN hp⟩⟩
theorem MO {z TI TO i1 i2 l1 l2 S:aF} (hh:A.handled=az) (D:iZ z TI TO i1 i2 l1 l2) (hsz:xs.size=ys.size) (Vm:xs.size<=bn)
  (hS:S≠z/\S≠TI/\S≠TO/\S≠i1/\S≠i2/\S≠l1/\S≠l2) (hN:z<N/\TO<N/\i1<N/\i2<N/\S<N):
  ∀(k i:Nat) (s:aq) (Us:Array ay) (c:Nat),xs.size - i=k->i<=xs.size->N<=s.heap.objs.size->Df s.heap z TI TO i1 i2 l1 l2 S xs ys i->s.heap.get? S=aa {cls:=.type "list",dict:=az,data:=.seq Us c,slots:= #[]}->Bk s.heap N xs ys Us i->
  (∀(h':aW) Vk c',(∀b o,b≠S->b≠z->b≠TO->b≠i1->b≠i2->s.heap.get? b=aa o->h'.get? b=aa o)->h'.get? S=aa {cls:=.type "list",dict:=az,data:=.seq Vk c',slots:= #[]}->Bk h' N xs ys Vk xs.size->R (.ok (.ret res)) {s with heap:=h'})->
  gx (aI prog w) A (.builtin "list.extend.loop" ⟨[.ref S,.ref z,res],[]⟩) R s:=by
 intro k
 induction k with
 |zero=>
  intro i s Us c hk hi hN2 UR hS' Va hR
  have VO:i=xs.size:=by exact (mu (.i (.e (.s xB xA) xJ) (.i (.l xA xB) (.e xA xB))) [_,_]) hk hi
  subst VO
  refine gq F.entry_extend_loop ?_
  rw [fF F.plain_extend_loop _]
  refine ae (Li (A:=A.in1) hh D UR (by simp) λh' hk=> ?_)
  have hz:=hN.1;have Vj:=hN.2.1;have h1:=hN.2.2.1;have h2:=hN.2.2.2.1
  exact aj (hR h' Us c (λb o z b1 b2 b3 b4 e=>hk b o b1 b2 b3 b4 e) (hk _ _ hS.1 hS.2.2.1 hS.2.2.2.1 hS.2.2.2.2.1 hS') (Va.keep λc o hc e=>hk c o (cZ (bi hz hc)) (cZ (bi Vj hc)) (cZ (bi h1 hc)) (cZ (bi h2 hc)) e))
 |succ k ih=>
  intro i s Us c hk hi hN2 UR hS' Va hR
  have Um:i<xs.size:=by exact (mu (.i (.e (.s xB xA) (.a xC xI)) (.b xA xB)) [_,_,_]) hk
  refine gq F.entry_extend_loop ?_
  rw [fF F.plain_extend_loop _]
  have hz:=hN.1;have Vj:=hN.2.1;have h1:=hN.2.2.1;have h2:=hN.2.2.2.1;have hSN:=hN.2.2.2.2
  have hx:=eJ Um
  have hy:=eJ (show i<ys.size by exact (mu (.i (.e xC xB) (.i (.b xA xC) (.b xA xB))) [_,_,_]) hsz Um)
  refine ae (K0 (A:=A.in1) D UR (aR hS') hx hy λh' hst' hp WJ XB=> ?_)
  have hS2:=XB _ _ hS.1 hS.2.2.1 hS.2.2.2.1 hS.2.2.2.2.1 hS'
  refine ae ?_
  have up: ∀b o,b≠S->h'.get? b=aa o->(h'.update S (fK (·.push (.ref s.heap.objs.size)))).get? b=aa o:=λb o hb e=>(df _ _ (Ne.symm hb)).trans e
  have hacc':=(Va.keep λc o hc e=>XB c o (cZ (bi hz hc)) (cZ (bi Vj hc)) (cZ (bi h1 hc)) (cZ (bi h2 hc)) e).push hN2 hx hy hp
  refine fg hS2 rfl (aj ⟨jt F.plain_extend_loop _,ih (i+1) _ (Us.push (.ref s.heap.objs.size)) _ (by exact (mu (.i (.e (.s xA xB) (.a xC xI)) (.e (.s xA (.a xB xI)) xC)) [_,_,_]) hk) Um ?_ (hst'.keep up hS) (cr _ hS2 rfl) (hacc'.keep λc o hc e=>up c o (cZ (bi hSN hc)) e) λWt Vk c' hk'' hS3 Xi=> ?_⟩)
   (by rw [Va.1];exact (mu (.i (.l xC xB) (.i (.b xA xC) (.l xA xB))) [_,_,_]) Vm Um) (by rw [Array.size_push,Va.1];exact (mu (.i (.l xC xB) (.i (.b xA xC) (.l (.a xA xI) (.a xB xI)))) [_,_,_]) Vm Um)
  ·show N<=(h'.update S _).objs.size
   rw [gM,WJ];exact (mu (.i (.l xA xB) (.l xA (.a xB xI))) [_,_]) hN2
  ·exact hR Wt Vk c' (λb o b0 b1 b2 b3 b4 e=>hk'' b o b0 b1 b2 b3 b4 (up b o b0 (XB b o b1 b2 b3 b4 e))) hS3 Xi
theorem IB:fu (.type "zip") "__len__"=bG az:=by rw [cz,bA];kernel_rfl
theorem F7:fu (.type "zip") "__length_hint__"=bG az:=by rw [cz,bA];kernel_rfl
theorem DC {Q:ay->aq->Prop} (hh:A.handled=az) (D:iZ z TI TO i1 i2 l1 l2) (hsz:xs.size=ys.size) (Vm:xs.size<=bn)
  (hz:IsZip s.heap z TI TO .none) (ti:gY s.heap TI (.ref i1) (.ref i2)) (Vj: ∃a b,gY s.heap TO a b) (it1:s.heap.IsListIter i1 l1 0) (it2:s.heap.IsListIter i2 l2 0) (li1:s.heap.IsList l1 xs) (li2:s.heap.IsList l2 ys)
  (hQ: ∀(h':aW) Vk c',(∀b o,b≠z->b≠TO->b≠i1->b≠i2->s.heap.get? b=aa o->h'.get? b=aa o)->h'.get? s.heap.objs.size=aa {cls:=.type "list",dict:=az,data:=.seq Vk c',slots:= #[]}->
   Bk h' (s.heap.objs.size+1) xs ys Vk xs.size->Q (.ref s.heap.objs.size) {s with heap:=h'}):
  aC (aI prog w) A (ft (.type "list") [.ref z]) Q E s:=by
 have lt: ∀{c o},s.heap.get? c=aa o->s.heap.objs.size≠c:=λe=>cZ (aR e)
 have lt': ∀{c o},s.heap.get? c=aa o->c<s.heap.objs.size+1:=λe=>gG (aR e)
 refine rR Vj λa b Vj=> ?_
 refine mQ (id it1) λo1 e1 y=> ?_
 refine mQ (id it2) λo2 e2 y=> ?_
 refine mQ (id li1) λo3 e3 y=> ?_
 refine mQ (id li2) λo4 e4 y=> ?_
 refine callType_codes (Q₁:=λobj TZ=>obj= .ref s.heap.objs.size/\TZ={s with heap:=s.heap.push {cls:=.type "list",data:=.seq #[]}}) F.called_list (F.typeCall_list_1 _) F.entry_list_init
  (code_list_new _ ⟨rfl,rfl⟩) λobj TZ Ua=> ?_
 refine eA Ua ?_;clear Ua;intro T0 q2z;obtain rfl:=T0;obtain rfl:=q2z
 have hS:(s.heap.push {cls:=.type "list",data:=.seq #[]}).get? s.heap.objs.size=aa {cls:=.type "list",data:=.seq #[]}:=au _ rfl
 refine ⟨⟨_,hS,rfl⟩,F.args_list_init_2 _ _,?_⟩
 have pk: ∀c o,s.heap.get? c=aa o->(s.heap.push {cls:=.type "list",data:=.seq #[]}).get? c=aa o:=λc o e=>aO _ e
 have hzT: ∀s':aq,IsZip s'.heap z TI TO .none->s'.TypeIs (.ref z) "zip":=λs' h=>⟨_,h,rfl⟩
 refine ae ?_
 refine ae (dY hS rfl (aj ?_))
 refine ae (fg hS rfl ?_)
 have WO:=cr (fK (λy=>(#[]:Array ay))) hS rfl
 have up2: ∀c o,s.heap.get? c=aa o->((s.heap.push {cls:=.type "list",data:=.seq #[]}).update s.heap.objs.size (fK (λy=>(#[]:Array ay)))).get? c=aa o:=λc o e=>(df _ _ (lt e)).trans (pk c o e)
 refine ae (wpAny_letGo ?_)
 refine ae (wpAny_typeOf (hzT _ (up2 _ _ hz)) ?_)
 have h1:ji (.ref s.heap.objs.size) (.ref z)=false:=by simp [ji,lt hz]
 have h2:(dq "zip"==dq "list")=false:=by decide
 have h3:(dq "zip"==dq "tuple")=false:=by decide
 simp only [h1,h2,h3,iM,a9,if_false]
 refine ae (wpAny_pyIter_zip (up2 _ _ hz) ?_)
 refine ae (bL ?_)
 refine ae (fh (hzT _ (up2 _ _ hz)) IB ?_)
 refine ae (fh (hzT _ (up2 _ _ hz)) F7 ?_)
 refine aj ?_
 show aC _ A.in1.in1 (rule "list.extend.makes-room" >>= λy=>Builtin.List.listTouch (.ref s.heap.objs.size) >>= λy=>
  again (.builtin "list.extend.loop" ⟨[.ref s.heap.objs.size,.ref z,.none],[]⟩)) _ _ _
 refine ae (gJ ?_)
 refine ae ?_
 refine ae (fg WO rfl ?_)
 have WM:=cr (fK (·.push iJ)) WO rfl
 refine fg (hz:=by seq_fits) WM rfl ?_
 have hS₄:=cr (fK (·.pop)) WM rfl
 have up4: ∀c o,s.heap.get? c=aa o->((((s.heap.push {cls:=.type "list",data:=.seq #[]}).update s.heap.objs.size (fK (λz=>(#[]:Array ay)))).update s.heap.objs.size (fK (·.push iJ))).update s.heap.objs.size (fK (·.pop))).get? c=aa o:=λc o e=>
  (df _ _ (lt e)).trans ((df _ _ (lt e)).trans (up2 c o e))
 refine aj ⟨jt F.plain_extend_loop _,MO (A:=A.in1) (N:=s.heap.objs.size+1) hh D hsz Vm ⟨lt hz,lt ti,lt Vj,lt e1,lt e2,lt e3,lt e4⟩ ⟨lt' hz,lt' Vj,lt' e1,lt' e2,du _⟩ (xs.size - 0) 0 _ _ _ rfl (cx _) ?_
  ⟨up4 _ _ ti,⟨a,b,up4 _ _ Vj⟩,it1.at λo e=>up4 _ o e,it2.at λo e=>up4 _ o e,li1.at λo e=>up4 _ o e,li2.at λo e=>up4 _ o e,.inl (up4 _ _ hz)⟩ hS₄ ⟨rfl,λj v h=>by simp at h⟩ λh' Vk c' hk hS5 Va=> ?_⟩
 ·show s.heap.objs.size+1<=_
  rw [gM,gM,gM,cw]
  exact aN _
 ·exact ⟨rfl,hQ h' Vk c' (λb o b1 b2 b3 b4 e=>hk b o (lt e).symm b1 b2 b3 b4 (up4 b o e)) hS5 Va⟩
end
section
variable {prog:aH} {w:av} {c:Sc} {σ:mW} {Λ:List (aF×List PV)}
theorem GG: ∀{ps:List PV} {vs:List ay},vs.length=ps.length->(∀(j:Nat) (p:PV) (v:ay),ps[j]? =aa p->vs[j]? =aa v->mO X h p v)->mJ X h ps vs
 |[],vs,e,_=>by
  have:vs=[]:=aY.mp e
  subst this;exact mJ.nil
 |p::ps,[],e,_=>by cases e
 |p::ps,v::vs,e,k=>mJ.cons (k 0 p v rfl rfl) (GG (by simpa using e) λj q u e1 e2=>k (j+1) q u e1 e2)
theorem FW (hf:Ev prog w (fs c σ Λ) (.Name "list" np) (.raw (.type "list"))) (he:FM prog w (fs c σ Λ) e "zip" [.list ps,.list qs]) (hh:c.A.handled=az) (hsz:ps.length=qs.length) (Vm:ps.length<=100000)
  (UR:autoParam (aE [e] c.env=(false,bJ e c.env)::aE [] c.env) XZ):Ev prog w (fs c σ Λ) (.Call (.Name "list" np) [e] [] pos) (.list (jf (λp q=>.tup [p,q]) ps qs)):=.mk λs i=>by
 have hz0:=aw
 refine cj (ab (hf.run s i) (λv VA uu=>eA uu λUI WD=> ?_) λz z e=>e)
 subst WD
 have U4:=i.mono (mz UI)
 refine nH (qo (cB (he.run VA U4 _ λTZ vs T1 r=> ?_) UR) UR)
 refine ng (sP r) λv u T0 r1 r2=> ?_;obtain rfl:=T0
 refine nh (pC r1) λl1 xs T0 hX1 li1 rs1=> ?_;obtain rfl:=T0
 refine nh (pC r2) λl2 ys T0 hX2 li2 rs2=> ?_;obtain rfl:=T0
 have e1:=li1
 have e2:=li2
 refine mQ e1 λo1 g1 z=> ?_
 refine mQ e2 λo2 g2 z=> ?_
 have lt1: @kD Nat _ l1 TZ.heap.objs.size:=aR g1
 have lt2: @kD Nat _ l2 TZ.heap.objs.size:=aR g2
 refine call_zip_2 li1 li2 λh' hz Xm Vj hI hI' hs5 hk=> ?_
 refine cF ?_
 refine ⟨ub,?_⟩
 have T3:bB TZ {TZ with heap:=h'}:=⟨h',TZ.toks,rfl,hk⟩
 have T8:=U4.mono (mz T1)
 generalize hN:TZ.heap.objs.size=N at*
 have D:iZ (N+4) (N+2) (N+3) N (N+1) l1 l2:=⟨o9 (by exact mu (.o (.b (.a xA xM) (.a xA xK)) (.b (.a xA xK) (.a xA xM))) [_]),o9 (by exact mu (.o (.b (.a xA xO) (.a xA xK)) (.b (.a xA xK) (.a xA xO))) [_]),o9 (by exact mu (.o (.b xA (.a xA xK)) (.b (.a xA xK) xA)) [_]),o9 (by exact mu (.o (.b (.a xA xI) (.a xA xK)) (.b (.a xA xK) (.a xA xI))) [_]),o9 (by exact mu (.o (.b (.a xA xM) (.a xA xO)) (.b (.a xA xO) (.a xA xM))) [_]),o9 (by exact mu (.o (.b (.a xA xM) xA) (.b xA (.a xA xM))) [_]),o9 (by exact mu (.o (.b (.a xA xM) (.a xA xI)) (.b (.a xA xI) (.a xA xM))) [_]),o9 (by exact mu (.o (.b (.a xA xO) xA) (.b xA (.a xA xO))) [_]),o9 (by exact mu (.o (.b (.a xA xO) (.a xA xI)) (.b (.a xA xI) (.a xA xO))) [_]),o9 (by exact mu (.o (.b xA (.a xA xI)) (.b (.a xA xI) xA)) [_]),o9 (by exact (mu (.i (.b xA xB) (.o (.b xA (.a xB xK)) (.b (.a xB xK) xA))) [_,_]) lt1),o9 (by exact (mu (.i (.b xA xB) (.o (.b xA (.a xB xO)) (.b (.a xB xO) xA))) [_,_]) lt1),o9 (by exact (mu (.i (.b xA xB) (.o (.b xA xB) (.b xB xA))) [_,_]) lt1),o9 (by exact (mu (.i (.b xA xB) (.o (.b xA (.a xB xI)) (.b (.a xB xI) xA))) [_,_]) lt1),o9 (by exact (mu (.i (.b xA xB) (.o (.b xA (.a xB xK)) (.b (.a xB xK) xA))) [_,_]) lt2),o9 (by exact (mu (.i (.b xA xB) (.o (.b xA (.a xB xO)) (.b (.a xB xO) xA))) [_,_]) lt2),o9 (by exact (mu (.i (.b xA xB) (.o (.b xA xB) (.b xB xA))) [_,_]) lt2),o9 (by exact (mu (.i (.b xA xB) (.o (.b xA (.a xB xI)) (.b (.a xB xI) xA))) [_,_]) lt2)⟩
 have hx:xs.length=ps.length:=rs1.len
 have hy:ys.length=qs.length:=rs2.len
 refine DC hh D (by simp;exact (mu (.i (.e xC xD) (.i (.e xA xC) (.i (.e xB xD) (.e xA xB)))) [_,_,_,_]) hsz hx hy) (by simp;exact (mu (.i (.l xC (.c 100000)) (.i (.e xB xL) (.i (.e xA xC) (.l xA xB)))) [_,_,_]) Vm hz0 hx) hz Xm ⟨_,_,Vj⟩ hI hI' (li1.at λo e=>hk _ _ e) (li2.at λo e=>hk _ _ e) λWt Us c' Xy hS Va=> ?_
 have kk:mT TZ.heap Wt:=λb o e=>by
  have hb: @kD Nat _ b N:=by exact hN▸(aR e)
  exact Xy b o (o9 (by exact (mu (.i (.b xA xB) (.o (.b xA (.a xB xK)) (.b (.a xB xK) xA))) [_,_]) hb)) (o9 (by exact (mu (.i (.b xA xB) (.o (.b xA (.a xB xO)) (.b (.a xB xO) xA))) [_,_]) hb)) (o9 (by exact (mu (.i (.b xA xB) (.o (.b xA xB) (.b xB xA))) [_,_]) hb)) (o9 (by exact (mu (.i (.b xA xB) (.o (.b xA (.a xB xI)) (.b (.a xB xI) xA))) [_,_]) hb)) (hk b o e)
 refine ⟨mG UI (mG T1 ⟨Wt,TZ.toks,rfl,kk⟩),?_⟩
 have nX: ∀b:Nat,N<=b->b∉c.X:=λb hb q=>by
  obtain ⟨o,e⟩:=T8.liveAll _ q
  have: @kD Nat _ b TZ.heap.objs.size:=aR e
  exact (mu (.i (.e xA xB) (.i (.l xB xC) (.n (.b xC xA)))) [_,_,_]) hN hb this
 have Ud:=Va.1
 refine uG (vs:=Us.toList) (nX _ (by exact (mu (.i (.e xB (.a xA xN)) (.l xA xB)) [_,_]) hs5)) ⟨_,hS,rfl,c',rfl⟩ (GG (by simp;simp at Ud;exact (mu (.i (.e xB xC) (.i (.e xD xB) (.i (.e xA xD) (.e xA (.n xB xC))))) [_,_,_,_]) hsz hx Ud) λj p v e1 e2=> ?_)
 rw [kS] at e1
 refine uI (Va.2 j v (by simpa using e2)) λT x y T0 hT hxj hyj hp=> ?_;obtain rfl:=T0
 cases h1:ps[j]? with
 |none=>rw [h1] at e1;exact nB e1
 |some p1=>
  cases h2:qs[j]? with
  |none=>rw [h1,h2] at e1;exact nB e1
  |some p2=>
   rw [h1,h2] at e1;obtain rfl:=am e1
   have hT':h'.objs.size+1<=T:=hT
   exact EP (vs:=[x,y]) (nX _ (by exact (mu (.i (.e xC (.a xA xN)) (.i (.l (.a xC xI) xB) (.l xA xB))) [_,_,_]) hs5 hT')) ⟨_,hp,rfl,0,rfl⟩ (mJ.cons ((rs1.get' h1 hxj).keep kk) (mJ.cons ((rs2.get' h2 hyj).keep kk) mJ.nil))
end
section
variable {prog:aH} {w:av} {c:Sc} {σ:mW} {Λ:List (aF×List PV)}
theorem JW (hP:h.get? P=aa (eh vs)):Mv X (P::X) h h:=λa o ha e n=>⟨λhb=>(ao.mp hb).elim (λq=>by rw [q,hP] at e;obtain rfl:=am e;exact n _ rfl) ha,e⟩
noncomputable def Sc.hide (c:Sc) (P:aF):Sc:={c with g:=hideAll c.g [P],own:=P::c.own}
theorem sr (nb:b≠P) (e:h.get? b=aa o):(hideAll h [P]).get? b=aa o:=bS _ e λq=>nb (ak.mp q)
theorem In.hideP (i:In c σ Λ h) (hP:h.get? P=aa (eh vs)) (hn:P∉c.own):In (c.hide P) σ Λ h:=
 i.gen (λb o e=>i.keep b o (bU _ e)) (λa ha=>(ao.mp ha).elim (λq=>dK _ (q▸ .head _)) λq=>pg (i.fresh a q))
  (λa ha=>(ao.mp ha).elim (λq=>⟨_,q▸hP⟩) (i.live a)) i.liveX (.tail _ i.locOwn) (λz n=>n) (λz z z e z=>e) (JW hP) (i.li (λz h=>.tail _ h) (λz z z z e=>e) (JW hP))
theorem In.slots (i:In c σ Λ h) (k: ∀b o,b≠c.env.locals->h.get? b=aa o->h'.get? b=aa o) (u:h.UpToSlots h'):In c σ Λ h':=by
 obtain ⟨m,n,hm⟩:=i.loc
 have kX:Mv c.X c.X h h':=λb o nb e z=>⟨nb,k b o (λq=>nb (q▸ax _ i.locOwn)) e⟩
 have lv: ∀a,(∃o,h.get? a=aa o)-> ∃o,h'.get? a=aa o:=λa uu=>eE uu λo e=>(gz (a=c.env.locals)).elim (λq=>by
  subst q;refine wN (u.ns n) λo z z e z=> ?_;exact ⟨o,e⟩) λq=>⟨o,k _ _ q e⟩
 exact i.gen (λb o e=>k b o (λq=>nomatch (i.fresh _ (q▸i.locOwn)).symm.trans e) (i.keep b o e)) i.fresh (λa ha=>lv a (i.live a ha)) (λa ha=>lv a (i.liveX a ha)) i.locOwn (λm n=>u.ns n)
  (λb o q e z=>k b o q e) kX (i.li (λz h=>h) (λb o q z e=>k b o q e) kX)
end
end
section
open PySem.Calls PyProof.Rows PySem.Builtin.Str
section
variable {w:av} {c:Sc} {σ:mW} {Λ:List (aF×List PV)}
theorem Cn (G:Gd w 3 c) (ho:tG ms w (fs c σ Λ) o (rZ l c.X)) (hl:E4 l) (hx:autoParam (c.env.kindOf "str"=aa .globalImplicit) XZ)
  (UR:autoParam (aE [o] c.env=(false,bJ o c.env)::aE [] c.env) XZ):Ev ms w (fs c σ Λ) (.Call (.Name "str" np) [o] [] pos) (.str (S (oy l))):=.mk λs i=>by
 refine cj (ab ((rS G (v:=.type "str") (by kernel_rfl) (by kernel_rfl) (by decide+kernel) hx).run s i) (λv TZ uu=>eA uu λT1 T4=> ?_) λz z e=>e)
 subst T4
 have T8:=i.mono (mz T1)
 refine nH (qo (cB (ab (ho.run TZ T8) (λv T2 uu=>oV uu λT3 a e hH=> ?_) λz z e=>e) UR) UR)
 subst e
 have T7:=T8.mono (mz T3)
 refine cF ⟨ub,?_⟩
 refine rR hH.at' λd D t=> ?_
 refine tE (vM t) λWZ I e1 e2=> ?_
 have r2:pn 2 c.A.in1:=G.room.in1
 have r1:pn 1 c.A.in1.in1:=r2.in1
 refine kso_call (K:=KB w.params) (f:=269) (by have:=r1.2.2;exact (mu (.i (.b (.a (.a xA (.m 10 xI)) xP) xB) (.b xA xB)) [_,_]) this) (G.inBase _ T7).frag I (by kernel_rfl) (by kernel_rfl) ?_
 refine ab (JO hl c.A.in1.in1 c.X (λh=>In c σ Λ h/\rZ l c.X h a) a r1 (λh i=>G.inBase h i.1) (G.offX T7) (λh i=>i.2) T2 [.ref a] [] ⟨T7,hH⟩ T7.liveAll (mJ.cons o7 mJ.nil) mJ.nil) (λv T9 uu=>eA uu λUb Ui=> ?_) λz z e=>e
 refine eE (nq Ui) λtk T0=> ?_;obtain rfl:=T0
 exact ⟨mG T1 (mG T3 Ub),og⟩
end
section
variable {w:av} {c:Sc} {σ:mW} {Λ:List (aF×List PV)}
theorem In.turnP {h h':aW} (i:In c σ Λ h) (ho:P∈c.own) (hP:h.get? P=aa (eh ps)) (hP':h'.get? P=aa (eh ps')) (k: ∀b o,b≠P->h.get? b=aa o->h'.get? b=aa o):In c σ Λ h':=by
 have kX:Mv c.X c.X h h':=λb o nb e z=>⟨nb,k b o (λq=>nb (q▸ax _ ho)) e⟩
 have lv: ∀a,(∃o,h.get? a=aa o)-> ∃o,h'.get? a=aa o:=λa uu=>eE uu λo e=>(gz (a=P)).elim (λq=>⟨_,q▸hP'⟩) λq=>⟨o,k _ _ q e⟩
 have nd: ∀{a:aF} {o:Obj},h.get? a=aa o->(∀vs,o.data≠ .fields vs)->h'.get? a=aa o:=λe n=>k _ _ (λq=>by
  subst q;rw [hP] at e;obtain rfl:=am e;exact n _ rfl) e
 exact i.gen (λb o e=>k b o (λq=>nomatch (i.fresh _ (q▸ho)).symm.trans e) (i.keep b o e)) i.fresh (λa ha=>lv a (i.live a ha)) (λa ha=>lv a (i.liveX a ha)) i.locOwn
  (λm n=>let ⟨o,es,ep,e,d,r⟩:=n;⟨o,es,ep,nd e (λz q=>nomatch d.symm.trans q),d,r⟩) (λb o z e q2=>nd e λz q=>eE q2 λz q2=>nomatch q2.symm.trans q) kX
  (λq hq=>let ⟨a,us,⟨n,e⟩,r⟩:=i.lists q hq;⟨a,us,⟨n,nd e λz q=>nomatch q⟩,r.gen kX⟩)
end
def Bm (h:aW):Prop:= ∃o,h.get? 4=aa o/\o.cls= .type "module"/\o.dict=aa dg/\o.data= .plain
theorem OL (b:oi P h):CodeHd h 332 330:=
 ⟨_,_,_,_,_,_,_,_,_,b.frag 332 (Fp Nw) (by kernel_rfl),rfl,rfl,rfl,rfl,rfl,rfl,rfl,rfl,by decide⟩
section
variable {w:av} {A:aX} {g:aW} {L D:aF} {σ:mW} {Λ:List (aF×List PV)}
abbrev cW (A:aX) (g:aW) (L D:aF):Sc:=((mU pA 333 A [] [] g L).addOwn D).hide 330
noncomputable abbrev ED (scope:Scope) (L f c':aF) (clos:List (Str×aF)) (c:Sc):Env:=envX (c.env.qual++"<lambda>") scope L f (.ref c') clos
theorem EQ (hA:A.frames=aa []) (G:Gd w 5 (cW A g L D)) (W2:Bm (cW A g L D).g)
  (i:In (cW A g L D) σ Λ s.heap) (hP:s.heap.get? 330=aa (eh ps)) (ht:TriplesOk ps.toList) (hnf:codeAmong lpos ps.toList=az)
  (hdef:defaultsOf params (cW A g L D).env=([],[])) (UU:gK scope (cW A g L D).env=bG clos)
  (Uk: ∀pm c' Wi,ew (kla_fn "<lambda>" ((cW A g L D).env.qual++"<lambda>") params body scope clos pm (.ref c') Wi) ⟨[],[]⟩=bG []) (Wk: ∀x∈scope.names,x.2≠ .cell) (Xf:vB (cW A g L D).env.cells clos)
  (hσ: ∀x p,σf.lookup x=aa p->scope.names.lookup x=aa .free/\(x==("__classdict__":Str))=false/\(clos.lookup x).isSome=ai/\σ.lookup x=aa p/\(cW A g L D).env.kindOf x=aa .cell)
  (hbody: ∀(base:aW) (outer:List Env) (A':aX) (g':aW) (L' f c':aF),Gd w 3 ⟨ED scope L' f c' clos (cW A g L D),A',g',[L'],[]⟩->sJ ⟨ED scope L' f c' clos (cW A g L D),A',g',[L'],[]⟩ base outer->KI ms w ⟨ED scope L' f c' clos (cW A g L D),A',g',[L'],[]⟩ σf [] base outer m body)
  (hco:autoParam (scope.isCoroutine=false) XZ) (W5:autoParam (scope.isGenerator=false) XZ) (hk:autoParam (scope.kind= .function) XZ)
  (UR:autoParam (aE [.Lambda params body scope lpos] (cW A g L D).env=(false,bJ (.Lambda params body scope lpos) (cW A g L D).env)::aE [] (cW A g L D).env) XZ):
  aC (aI ms w) (cW A g L D).A (bJ (.Call (.Name "_law_refused" np) [.Lambda params body scope lpos] [] pos) (cW A g L D).env)
   (λv s'=>nA s s'/\In (cW A g L D) σ Λ s'.heap/\(∃tk,v= .str m tk)/\ ∃c2:aF,s'.heap.get? 330=aa (eh (ps++ #[eO lpos.line,eO lpos.col,.ref c2]))) (λz z=>False) s:=by
 refine cj (ab ((ur G (v:=.ref 328) (by kernel_rfl) (by rfl)).run s i) (λv TZ uu=>eA uu λT1 T4=> ?_) λz z e=>e)
 subst T4
 have T8:=i.mono (mz T1)
 have hP1:=mz T1 _ _ hP
 have Wq:=G.inBase _ T8
 obtain ⟨mg,nmg,emg⟩:BU TZ.heap "__builtins__" (.ref 4):=Wq.glob (by kernel_rfl)
 refine RL W2 λob b1 b2 b3 b4=> ?_
 refine nH (qo (cB (kla_eval hdef (kla_makeFunction (c:=332) (P:=330) (mg:=mg) UU rfl nmg rfl (OL Wq) hP1 ht hnf (by decide) ⟨4,ob,emg,by decide,by decide,by decide,T8.keep _ _ b1,b2,b3,b4⟩ λc' Wi h' tk hx hge Um hrec WI=> ?_)) UR) UR)
 refine cF ?_
 have np: ∀b o,b≠330->TZ.heap.get? b=aa o->(h'.push (jb "<lambda>" ((cW A g L D).env.qual++"<lambda>") params body scope clos ((mg "__name__").getD .none) c' Wi)).get? b=aa o:=λb o nb e=>aO _ (hx b o nb e)
 have T7:=T8.turnP (.head _) hP1 (aO (jb "<lambda>" ((cW A g L D).env.qual++"<lambda>") params body scope clos ((mg "__name__").getD .none) c' Wi) WI) np
 have hf:(h'.push (jb "<lambda>" ((cW A g L D).env.qual++"<lambda>") params body scope clos ((mg "__name__").getD .none) c' Wi)).get? h'.objs.size=aa (jb "<lambda>" ((cW A g L D).env.qual++"<lambda>") params body scope clos ((mg "__name__").getD .none) c' Wi):=au _ rfl
 have hcr:(h'.push (jb "<lambda>" ((cW A g L D).env.qual++"<lambda>") params body scope clos ((mg "__name__").getD .none) c' Wi)).CodeRec (.ref c') ((cW A g L D).env.qual++"<lambda>"):=hrec.keeps λb o e=>aO _ e
 have hP2:(h'.push (jb "<lambda>" ((cW A g L D).env.qual++"<lambda>") params body scope clos ((mg "__name__").getD .none) c' Wi)).get? 330=_:=aO _ WI
 generalize h'.push (jb "<lambda>" ((cW A g L D).env.qual++"<lambda>") params body scope clos ((mg "__name__").getD .none) c' Wi)=H at*
 generalize h'.objs.size=f at*
 have W9:=G.inBase H T7
 refine ⟨rB (fd:=qz) (W9.frag 328 (fo qz) (by kernel_rfl)) rfl,?_⟩
 refine mQ T7.loc λmL nL z=> ?_
 have nL:H.Ns L mL:=nL
 have hb0:mT (cW A g L D).g (hideAll H [L]):=λb o e=>sr (λq=>by
  have:=T7.fresh L (.tail _ (.tail _ (.head _)))
  rw [q,this] at e;exact nB e) (T7.keep b o e)
 have Bw:j6 (cW A g L D).A (hideAll H [L]) [(cW A g L D).env] H:=⟨fG hA,λb o e=>bU _ e,.cons (by show pA.scope.kind≠ .module;decide+kernel) rfl nL (dK _ (.head _)) trivial⟩
 have rr:pn 5 (cW A g L D).A:=G.room
 refine ab (Er (base:=hideAll H [L]) (outer:=[(cW A g L D).env]) (m:=m) (X:=[]) (rr.less (by exact mu (.l xI xN) [] [])) W9 (G.base.keep hb0) (λz h=>nomatch h) Bw ⟨_,_,hf,rfl⟩ λenv s' ks bw=> ?_) (λv T9 uu=>B4 uu λVY st3 u₃ hv=> ?_) λz z e=>e
 ·have rd:pn 4 ((cW A g L D).A.deeper env):=rr.deeper env
  have Bs:oi w.params s'.heap:=W9.keep ks
  have VB: ∀x b,clos.lookup x=aa b->(cW A g L D).env.cells.lookup x=aa b:=λx b e=>vB.mem Xf (x,b) (mem_of_lookup e)
  refine Kh (X:=[]) (σ:=σf) rd.lim Bs.lim (λz h=>nomatch h) (ks _ _ hf) (hcr.keeps ks) (Uk _ _ _) Wk (λx p e=> ?_) (λx b e=> ?_) bw (λL' b=> ?_) hco W5 hk
  ·refine NH (hσ x p e) λe1 e2 e3 e4 e5=> ?_
   refine eE (jR.mp e3) λb e6=> ?_
   refine ng (T7.cel x p (.inl e5) e4) λb' v q1 q2 q3=> ?_
   have:b'=b:=by rw [VB x b e6] at q1;exact (am q1).symm
   subst this
   exact ⟨e1,e2,b',v,e6,q2.keeps ks,(q3.sub (Y:=[]) λz h=>nomatch h).keep ks⟩
  ·obtain ⟨v,q⟩:=T7.cob x b (VB x b e)
   exact ⟨v,q.keeps ks⟩
  ·exact hbody _ _ _ _ _ _ _ ⟨Bs,(λz h=>nomatch h),rd.deeper _,hk,rfl,rfl⟩ b
 ·have nl: ∀b o,b≠L->H.get? b=aa o->T9.heap.get? b=aa o:=λb o nb e=>st3 b o (sr nb e)
  have Uh:=T7.slots (h':=T9.heap) nl u₃
  refine oU T1 ?_;clear T1;intro Ua Ve T0 _;obtain rfl:=T0
  refine rR VY ?_;clear VY;intro Un Vy T0;obtain rfl:=T0
  refine ⟨⟨_,_,rfl⟩,Uh,hv,c',nl 330 _ (λq=> ?_) hP2⟩
  obtain ⟨o,es,ep,e1,e2,_⟩:=nL
  rw [<-q,hP2] at e1;obtain rfl:=am e1;cases e2
end
def ny:List ef:=nU (nK 50)
theorem oi.hideP (b:oi P h) (hP:h.get? 330=aa (eh ps)):oi P (hideAll h [330]):=by
 have hn:(KB P).lookup 330=az:=by kernel_rfl
 refine ⟨λd o e=>sr (λq=>by rw [q,hn] at e;exact nB e) (b.frag d o e),b.lim.at λo e=>sr (by decide) e,?_⟩
 refine mQ b.blt λmb n r=> ?_
 exact ⟨mb,n.at' λo e=>sr (by decide) e,r⟩
theorem Ow: ∃c∈oy l,uZ c=ai:=by
 refine ⟨10,?_,by decide+kernel⟩
 rw [vJ]
 simp
theorem Bc {x y:Str} {p q:PV} (e:aD x [(y,p)]=aa q):x=y/\q=p:=by
 by_cases h:x=y
 ·subst h;simp [aD] at e;exact ⟨rfl,e.symm⟩
 ·have:(x==y)=false:=by simpa using h
  simp [aD,this] at e
theorem HJ {x y z:Str} {p q r:PV} (e:aD x [(y,p),(z,r)]=aa q):(x=y/\q=p)\/(x=z/\q=r):=by
 by_cases h:x=y
 ·subst h;simp [aD] at e;exact .inl ⟨rfl,e.symm⟩
 ·have:(x==y)=false:=by simpa using h
  rw [aD,this] at e
  exact .inr (Bc e)
section
variable {w:av} {A:aX} {g:aW} {L D:aF} {σ:mW} {Λ:List (aF×List PV)}
abbrev cV (A:aX) (g:aW) (L D:aF):Sc:=(mU pA 333 A [] [] g L).addOwn D
theorem Tb:((mU pA 333 A [] [] g L).addOwn D).at g'=cV A g' L D:=rfl
theorem In.unhide {c:Sc} (i:In (c.hide P) σ Λ h) (hn:P∉c.own) (hP:h.get? P=aa (eh vs)) (hl:c.env.locals∈c.own):In (c.at (hideAll h c.own)) σ Λ h:=
 have kX:Mv (c.hide P).X c.X h h:=λb o nb e z=>⟨λq=>nb (.tail _ q),e⟩
 i.gen (λb o e=>bU _ e) (λa ha=>dK _ ha) (λa ha=>i.live a (.tail _ ha)) i.liveX hl (λz n=>n) (λz z z e z=>e) kX
  λq hq=>let ⟨a,us,b,r⟩:=i.lists q hq;⟨(ao.mp a).elim (λe=>by
   obtain ⟨_,e2⟩:=b
   rw [e,hP] at e2;cases e2) id,us,b,r.gen kX⟩
theorem Gd.hideP (G:Gd w n c) (hP:c.g.get? 330=aa (eh ps)):Gd w n (c.hide 330):=⟨G.base.hideP hP,G.off,G.room,G.fn,G.gl,G.bl⟩
set_option maxHeartbeats 1000000 in
theorem JY (hA:A.frames=aa []) (G:Gd w 5 ((mU pA 333 A [] [] g L).addOwn D)) (W2:Bm g) (hT:g.get? 330=aa (eh #[])) (hD:D≠330)
  (hb:aD ("book":Str) σ=aa (PV.hdr (hp l))) (hl:E4 l) (Ud:(oy l).length<=1000) (hs:aD ("struck":Str) σ=aa (PV.inst D))
  (hrest: ∀g',mT (hideAll g [330]) g'->(∃ps,g'.get? 330=aa (eh ps))->Gd w 5 (cV A g' L D)->mS ms w (cV A g' L D).env (cV A g' L D).A (In (cV A g' L D) (("words",.list [.str ym,.str wU])::σ) Λ) rest J):
  mS ms w ((mU pA 333 A [] [] g L).addOwn D).env ((mU pA 333 A [] [] g L).addOwn D).A (In ((mU pA 333 A [] [] g L).addOwn D) σ Λ) (ni ny 11::rest) J:=.mk λs i=>by
 have GW:Gd w 5 (cW A g L D):=G.hideP (c:=(mU pA 333 A [] [] g L).addOwn D) hT
 have hbm':Bm (cW A g L D).g:=let ⟨o,e,r⟩:=W2;⟨o,sr (by decide) e,r⟩
 have hn:(330:aF)∉((mU pA 333 A [] [] g L).addOwn D).own:=λq=>by
  rcases ao.mp q with q|q
  ·exact hD q.symm
  ·have h0:=i.fresh 330 (.tail _ q)
   have h0:g.get? 330=az:=h0
   rw [hT] at h0;exact tC h0
 have iW:In (cW A g L D) σ Λ s.heap:=i.hideP (i.keep _ _ hT) hn
 have hP:=i.keep _ _ hT
 clear i
 rw [ch]
 refine ae (cN (jz (cB ?_ (by rfl))) (by rfl))
 refine ab (EQ (m:=ym) (ps:= #[]) (clos:=[("book",L+10)]) (σf:=[("book",.hdr (hp l))]) hA GW hbm' iW hP trivial ?h1 ?h2 ?h3 ?h4 ?h5 ?h6 ?h7 ?h8 ?h9 ?h10 ?h11 ?h12) (λv₁ TZ uu=>M5 uu λx₁ T8 hv1 c2 hP1=> ?_) λz z e=>e
 case h1=>rfl
 case h2=>rfl
 case h3=>rfl
 case h4=>exact λz z z=>rfl
 case h5=>decide
 case h6=>exact ⟨by rfl,trivial⟩
 case h7=>
  intro x p e
  rcases Bc e with ⟨rfl,rfl⟩
  exact ⟨rfl,by decide+kernel,rfl,hb,rfl⟩
 case h8=>
  intro base outer A' g' L' f c' G' B'
  refine Lo B' (ps:=[.str (S (oy l)),.int 3]) (ur G' (v:=.ref 89) (by kernel_rfl)) (my (Cn G' (tw (nu (by walk_at "lk"))) hl) (my mM mH)) (λs i=>rB ((G'.inBase _ i).frag _ _ (CA _).e) rfl) ?_
  intro s vs us i lx r _ bw
  refine ng (sP r) λv u T0 rv ru=> ?_;obtain rfl:=T0
  exact Gk (G'.room.less (by exact mu (.l xM xO) [] [])) (G'.inBase _ i) (G'.offX i) lx rv ru bw
 case h9=>rfl
 case h10=>rfl
 case h11=>rfl
 case h12=>rfl
 refine cB ?_ (by rfl)
 refine ab (EQ (m:=wU) (clos:=[("struck",L+11),("book",L+10)]) (σf:=[("struck",.inst D),("book",.hdr (hp l))]) hA GW hbm' T8 hP1 trivial ?k1 ?k2 ?k3 ?k4 ?k5 ?k6 ?k7 ?k8 ?k9 ?k10 ?k11 ?k12) (λv₂ T2 uu=>M5 uu λx₂ T7 hv2 z hP2=> ?_) λz z e=>e
 case k1=>rfl
 case k2=>rfl
 case k3=>rfl
 case k4=>exact λz z z=>rfl
 case k5=>decide
 case k6=>exact ⟨by rfl,by rfl,trivial⟩
 case k7=>
  intro x p e
  rcases HJ e with ⟨rfl,rfl⟩|⟨rfl,rfl⟩
  ·exact ⟨rfl,by decide+kernel,rfl,hs,rfl⟩
  ·exact ⟨rfl,by decide+kernel,rfl,hb,rfl⟩
 case k8=>
  intro base outer A' g' L' f c' G' B'
  refine Jg (ps:=[.str (S [97,108,108]),.str (S (oy l))]) (ks:=[]) (H:=λh a=> ∃d D,oI h a d D) G' B' ?ho (λz z t=>t) (λz z z uu k=>rR uu λd D t=>⟨d,D,t.keep k⟩) (by kernel_rfl) (DU _).e (by kernel_rfl) (by kernel_rfl)
   (my (m5 (by kernel_rfl)) (my (Cn G' (tw (nu (by walk_at "lk"))) hl) mH)) yg ?_
  case ho=>
   refine .mk λs i=>ab ((nu (p:=.inst D) (by walk_at "lk")).run s i) (λv TZ uu=>eA uu λT1 T4=> ?_) λz z e=>e
   refine nh T4 ?_;clear T4;intro a d T0 _ _ t;obtain rfl:=T0
   exact ⟨T1,a,rfl,d,D,t⟩
  ·intro a s vs us i lx r ru bw
   refine rY (zQ r) λx v u T0 rx rv ru'=> ?_;obtain rfl:=T0
   subst rx
   refine rR i.2 λd D' t=> ?_
   have hu:us=[]:=by simpa using ru.len
   subst hu
   exact Kn (G'.room) (G'.inBase _ i.1) lx (G'.offX i.1) t rv ru' Ud Ow bw
 case k9=>rfl
 case k10=>rfl
 case k11=>rfl
 case k12=>rfl
 refine cF ?_
 refine ⟨by show 2<=bn;decide,?_⟩
 refine eE hv1 ?_;clear hv1;intro Ve T0;obtain rfl:=T0
 refine eE hv2 ?_;clear hv2;intro Vn T0;obtain rfl:=T0
 have kp:=mY T2 {cls:=.type "list",data:=.seq ([.str ym Ve,.str wU Vn]:List ay).toArray} T2.toks
 have Uh:=T7.mono (mz kp)
 have hP3:=mz kp _ _ hP2
 have Vi:n6 (cV A g L D).X T2.heap:=λa ha=>T7.liveAll a (.tail _ ha)
 have Wy:=In.unhide (c:=(mU pA 333 A [] [] g L).addOwn D) Uh (λq=>hn q) hP3 (.tail _ (.head _))
 rw [Tb] at Wy
 generalize hH:T2.heap.push {cls:=.type "list",data:=.seq ([.str ym Ve,.str wU Vn]:List ay).toArray}=H at Uh hP3 Wy
 have hk:mT (hideAll g [330]) (hideAll H ((mU pA 333 A [] [] g L).addOwn D).own):=λb o e=>bS _ (Uh.keep b o e) λq=>by
  have q2:=Uh.fresh b (.tail _ q)
  have e2:(cW A g L D).g.get? b=aa o:=e
  rw [q2] at e2;exact nB e2
 have hK2: ∃ps,(hideAll H ((mU pA 333 A [] [] g L).addOwn D).own).get? 330=aa (eh ps):=⟨_,bS _ hP3 λq=>hn q⟩
 generalize hideAll H ((mU pA 333 A [] [] g L).addOwn D).own=G2 at Wy hk hK2
 have GV:Gd w 5 (cV A G2 L D):=⟨GW.base.keep hk,G.off,G.room,G.fn,G.gl,G.bl⟩
 have rl:mO (cV A G2 L D).X H (.list [.str ym,.str wU]) (.ref T2.heap.objs.size):=by
  subst hH
  exact uG (oJ Vi) ⟨_,au _ rfl,rfl,_,rfl⟩ (mJ.cons og (mJ.cons og mJ.nil))
 subst hH
 refine ab (tV (c:=cV A G2 L D) (p:=.list [.str ym,.str wU]) Wy (.inl rfl) rl rfl) (λz Ul uu=>eA uu λVq UV=> ?_) λz z e=>e
 exact ab ((hrest _ hk hK2 GV).run Ul UV) (λfl UF uu=>eA uu λW3 j=>⟨((x₁.trans x₂).trans ((nA.of kp).trans Vq)).trans W3,j⟩) λz z e=>e
end
noncomputable def BC:List (Nat×Int):=[(0,18709805),(1,5),(2,257),(3,16387),(4,12648578)]
noncomputable def Bf (ns:List Int) (q:Nat×Int):Int:=q.2+((i4 ns (aa (q.1:Int)) (aa 60) (aa 5)).map λx=>x.fmod 1000000000000).sum
section
variable {w:av} {A:aX} {g:aW} {L:aF} {σ:mW} {Λ:List (aF×List PV)}
abbrev c1 (A:aX) (g:aW) (L:aF):Sc:=mU pA 333 A [] [] g L
theorem Ar (hk:pA.scope.names.lookup x=aa .cell) (hb:(bu (L+1) pA.scope.names []).lookup x=aa b):sB (c1 A g L) x:=.inr ⟨b,ve rfl hk hb⟩
theorem LI (ns:List Int) (lo hi st:Option Int):(i4 ns lo hi st).length<=ns.length:=by
 have h:=slicePick_size_le ((ns.map λn=>ay.int n 0).toArray) lo hi st
 have i:IntsAre (ns.map λn=>ay.int n 0) ns:=by
  clear h
  induction ns with
  |nil=>exact .nil
  |cons n ns ih=>exact .cons n 0 ih
 have j:=IntsAre.pick i lo hi st
 have:=j.length
 simp at h this
 exact (mu (.i (.e xC xA) (.i (.l xC xB) (.l xA xB))) [_,_,_]) this h
set_option maxHeartbeats 1000000 in
theorem MH (G:Gd w 5 (c1 A g L)) (hn:ns.length<=63) (hs:aD ("script":Str) σ=aa (PV.list (ns.map PV.int)))
  (hb:mS ms w (c1 A g L).env (c1 A g L).A (In (c1 A g L) (("cells",.list ((BC.map (Bf ns)).map PV.int))::σ) Λ) b J):mS ms w (c1 A g L).env (c1 A g L).A (In (c1 A g L) σ Λ) (ni ny 0::b) J:=by
 have hz:=aw
 refine mK (p:=.list ((BC.map (Bf ns)).map PV.int)) (.mk λs i=>Ev.run (mP (pJ (l:=BC) (V:=λq:Nat×Int=>.tup [.int (q.1:Int),.int q.2]) (bs:=λq=>[("start",.int q.2),("k",.int (q.1:Int))]) (cl:=[("script",L+1)]) [("script",.list (ns.map PV.int))] (λz=>ai) (λq=>.int (Bf ns q))
  ?h1 ?h2 ?h3 ?h4 ?h5 ?h6 ?h7 ?h8 ?h9 ?h10 ?h11) ?h12) s i) hb (Ar (by rfl) (by rfl))
 case h1=>exact Ju (s8 (rS G (by kernel_rfl) (by kernel_rfl)) (my (ot (ps:=[.int 18709805,.int 5,.int 257,.int 16387,.int 12648578]) (my mM (my mM (my mM (my mM (my mM mH))))) (by simp;exact (mu (.i (.e xA xL) (.l xN xA)) [_]) hz)) mH)) G.room.1 (λz h=>nomatch h)
 case h2=>exact nZ nJ hs (.inl rfl) (λz=>rfl) (λz=>.inl rfl)
 case h3=>exact λq C g' T5 z=>qS G.room.1
 case h4=>exact λq C g' T5 z z z=>oa
 case h5=>
  intro q C g' T5 hq _ k hf
  have hO:=G.offX i
  have G1:=Gd.comp G hO k hf rfl
  have hl:=LI ns (aa (q.1:Int)) (aa 60) (aa 5)
  refine mI (p:=.int q.2) (q:=.int (((i4 ns (aa (q.1:Int)) (aa 60) (aa 5)).map λx=>x.fmod 1000000000000).sum)) ?_ ?_ nV
  ·walk_at "ev"
  refine n9 G1 (ps:=[.list (((i4 ns (aa (q.1:Int)) (aa 60) (aa 5)).map λx=>x.fmod 1000000000000).map PV.int)]) (by kernel_rfl) (by kernel_rfl) (my ?_ mH) (N0 G.room.1)
  refine mP (pJ (l:=i4 ns (aa (q.1:Int)) (aa 60) (aa 5)) (V:=PV.int) (bs:=λx=>[("x",.int x)]) (cl:=[]) [] (λz=>ai) (λx=>.int (x.fmod 1000000000000)) ?k1 nJ (λz z z z z=>nO) (λz z z z z z z=>oa) ?k5 (by exact (mu (.i (.l xC (.c 63)) (.i (.e xB xL) (.i (.l xA xC) (.l xA xB)))) [_,_,_]) hn hz hl) (λz z=>rfl) (by rfl) trivial (by rfl) (by decide+kernel)) ?k12
  case k1=>
   refine qD (CB (k:=5) ?_ (nW ?_) (nW mM) (nW mM) (by decide) (by exact (mu (.i (.l xA (.c 63)) (.i (.e xB xL) (.l xA xB))) [_,_]) hn hz)) G.room.1 (.inl ⟨_,_,rfl⟩) (λz h=>nomatch h)
   ·walk_at "ev"
   ·walk_at "ev"
  case k5=>
   intro x C2 g2 more2 _ _ _ _
   refine mI (p:=.int x) (q:=.int 1000000000000) ?_ mM (oq (by decide))
   walk_at "ev"
  case k12=>rw [bW.mpr (λz z=>rfl),aB];rfl
 case h6=>decide
 case h7=>exact λz z=>by kernel_rfl
 case h8=>rfl
 case h9=>exact ⟨by rfl,trivial⟩
 case h10=>rfl
 case h11=>decide+kernel
 case h12=>rw [bW.mpr (λz z=>rfl),aB];rfl
end
end
section
end
section
open PySem.Calls PyProof.Rows PySem.Builtin.Str
noncomputable def Ba (c0:Int) (k:Nat):Int:=1+(c0.fdiv ((5:Int)^k)).fmod 5
def E0 (c0:Int):List Int:=sortI ((ag 4).map (Ba c0))
noncomputable def w6 (v:Int) (i:Nat):Int:=(v.fdiv ((128:Int)^i)).fmod 128
def w0 (cs sz:List Int) (n:Nat):List Int:=(ag (sz[n]?.getD 0).toNat).map (w6 (cs[n+1]?.getD 0))
section
variable {w:av} {A:aX} {g:aW} {L:aF} {σ:mW} {Λ:List (aF×List PV)}
theorem vR {α:Type} {l:List α}:l.filter (λz=>ai)=l:=bW.mpr (λz z=>rfl)
theorem Jv {b k:Nat} (hb:b<=128) (hk:k<=8):(et (b:Int):Int)*(k:Int)<=2^27:=by
 have h: ∀b≤128,et ((b:Nat):Int)<=16:=by decide+kernel
 have:=h b hb
 have h2:(et (b:Int):Int)<=16:=by exact_mod_cast this
 have h3:(k:Int)<=8:=by exact (mu (.i (.l xA (.c 8)) (.L (.k xA) (.c 8))) [_]) hk
 have h4:(et (b:Int):Int)*(k:Int)<=16*8:=Int.mul_le_mul h2 h3 (by exact mu (.L xJ (.k xA)) [_]) (by exact mu (.L xJ (.c 16)) [] [])
 omega
theorem pS (G:Gd w 0 c) {n:Nat} (hv:Ev ms w (fs c σ Λ) e (.int n)) (hn:n<=1000) (hx:c.env.kindOf "range"=aa .globalImplicit)
  (he:autoParam (aE [e] c.env=(false,bJ e c.env)::aE [] c.env) XZ):uv ms w c σ Λ own (.Name x px) (.Call (.Name "range" np) [e] [] pos) ((ag n).map λ(i:Nat)=>.int ((0:Int)+i)):=
 y8 (a:=0) (b:=n) (CK (s8 (rS G (by kernel_rfl) (by kernel_rfl) (by decide+kernel) hx) (my hv mH he) he)) (by rw [lq];split<;>(first|exact (mu (.i (.n (.B xJ (.k xA))) (.E xJ (.k xA))) [_]) (by assumption)|exact mu (.E (.s (.k xA) xJ) (.k xA)) [_])) (An (by exact mu (.L xJ xJ) [] []) (by exact mu (.L xJ (.c 1000000)) [] []) (by exact mu (.L xJ (.k xA)) [_]) (by exact (mu (.i (.l xA xQ) (.L (.k xA) (.c 1000000))) [_]) hn)) G.room.1
theorem Gd.zero (G:Gd w n c):Gd w 0 c:=⟨G.base,G.off,G.room.less (cx _),G.fn,G.gl,G.bl⟩
theorem vx {b k:Nat} (hb:b<=128) (hk:k<=8):n0 ms w A X (ca .Pow) (.int b) (.int ((0:Int)+k)) (.int ((b:Int)^k)):=by
 have:=Iy (prog:=ms) (w:=w) (A:=A) (X:=X) (a:=b) (n:=(0:Int)+k) (by exact mu (.L xJ (.a xJ (.k xA))) [_]) (by rw [gi];exact Jv hb hk)
 rw [show ((0:Int)+k).toNat=k by exact mu (.e (.t (.a xJ (.k xA))) xA) [_]] at this
 exact this
theorem BS {b k:Nat} (hb:0<b):((b:Int)^k)≠0:=Int.pow_ne_zero (by exact (mu (.i (.b xJ xA) (.n (.E (.k xA) xJ))) [_]) hb)
theorem SK: ∀k<4,((5:Int)^k).natAbs<1073741824:=by decide+kernel
set_option maxHeartbeats 1000000 in
theorem LL (G:Gd w 5 (c1 A g L)) {cs:List Int} (h0:cs[0]? =aa c0) (hs:aD ("cells":Str) σ=aa (PV.list (cs.map PV.int)))
  (hb:mS ms w (c1 A g L).env (c1 A g L).A (In (c1 A g L) (("sizes",.list ((E0 c0).map PV.int))::σ) Λ) b J):mS ms w (c1 A g L).env (c1 A g L).A (In (c1 A g L) σ Λ) (ni ny 1::b) J:=by
 have hz:=aw
 refine mK (p:=.list ((E0 c0).map PV.int)) (n9 G (ps:=[.list (((ag 4).map (Ba c0)).map PV.int)]) (by kernel_rfl) (by kernel_rfl) (my (.mk λs i=>Ev.run (mP (pJ (l:=ag 4) (V:=λk:Nat=>.int ((0:Int)+k)) (bs:=λk=>[("k",.int ((0:Int)+k))]) (cl:=[("cells",L+2)]) [("cells",.list (cs.map PV.int))] (λz=>ai) (λk=>.int (Ba c0 k))
  ?h1 ?h2 ?h3 ?h4 ?h5 ?h6 ?h7 ?h8 ?h9 ?h10 ?h11) ?h12) s i) mH) (HL (by simp))) hb (Ar (by rfl) (by rfl))
 case h1=>exact pS G.zero (n:=4) mM (by exact mu (.l xK xQ) [] []) (by rfl)
 case h2=>exact nZ nJ hs (.inl rfl) (λz=>rfl) (λz=>.inl rfl)
 case h3=>exact λq C g' T5 z=>nO
 case h4=>exact λq C g' T5 z z z=>oa
 case h5=>
  intro k C g' T5 hk _ _ _
  have hk:=aL.mp hk
  refine mI (p:=.int 1) (q:=.int ((c0.fdiv ((5:Int)^k)).fmod 5)) mM (mI (p:=.int (c0.fdiv ((5:Int)^k))) (q:=.int 5) (mI (p:=.int c0) (q:=.int ((5:Int)^k)) (nj (p:=.list (cs.map PV.int)) (q:=.int 0) ?_ mM (m4 (by exact mu (.L xJ xJ) [] []) (by show (cs.map PV.int)[0]? =_;rw [a7,h0];rfl) (by exact mu (.B xJ xS) []))) (mI (p:=.int (5:Nat)) (q:=.int ((0:Int)+k)) mM ?_ (vx (by exact mu (.l xN xR) [] []) (by exact (mu (.i (.b xA xK) (.l xA (.c 8))) [_]) hk))) (oX (BS (b:=5) (by exact mu (.b xJ xN) [] [])) (SK k hk))) mM (oq (by decide))) nV
  ·walk_at "ev"
  ·walk_at "ev"
 case h6=>decide
 case h7=>exact λz z=>by kernel_rfl
 case h8=>rfl
 case h9=>exact ⟨by rfl,trivial⟩
 case h10=>rfl
 case h11=>decide+kernel
 case h12=>rw [vR,aB];rfl
theorem KC {c:Sc} (hk:(iX scope (bu (C+1) scope.names cl) C c.env).kindOf x=aa .cell) (hb:(bu (C+1) scope.names []).lookup x=aa b) (UU: ∀z∈cl,z.2∈c.X)
  (hX: ∀d∈(nk c scope cl C g' T5).own,d∉c.X):sB (nk c scope cl C g' T5) x:=.inr ⟨b,{
 kind:=hk
 at':=by
  show (bu (C+1) scope.names cl).lookup x=aa b
  rw [pX,dX,hb];rfl
 own:=.tail _ (pB.mpr ⟨x,hb⟩)
 only:=λy e=>by
  have e:(bu (C+1) scope.names cl).lookup y=aa b:=e
  rw [pX] at e
  rcases ar.mp (mem_of_lookup e) with q|q
  ·exact tO _ _ _ _ _ q (mem_of_lookup hb)
  ·exact absurd (UU _ q) (hX b (.tail _ (pB.mpr ⟨x,hb⟩)))}⟩
end
section
variable {w:av} {A:aX} {g:aW} {L:aF} {σ:mW} {Λ:List (aF×List PV)}
theorem QN: ∀k<5,((128:Int)^k).natAbs<1073741824:=by decide+kernel
theorem QL (hb:(bu (L+1) pA.scope.names []).lookup x=aa b):b∈(c1 A g L).X:=ax _ (.tail _ (ax _ (pB.mpr ⟨x,hb⟩)))
set_option maxHeartbeats 2000000 in
theorem Pg (G:Gd w 5 (c1 A g L)) (hc:cs.length=5) (hs4:sz.length=4) (hs5: ∀x∈sz,0<=x/\x<=5) (hs:aD ("cells":Str) σ=aa (PV.list (cs.map PV.int))) (hz:aD ("sizes":Str) σ=aa (PV.list (sz.map PV.int)))
  (hb:mS ms w (c1 A g L).env (c1 A g L).A (In (c1 A g L) (("rows",.list ((ag 4).map λn=>.list ((w0 cs sz n).map PV.int)))::σ) Λ) b J):mS ms w (c1 A g L).env (c1 A g L).A (In (c1 A g L) σ Λ) (ni ny 2::b) J:=by
 have Vv:=aw
 refine mK (p:=.list ((ag 4).map λn=>.list ((w0 cs sz n).map PV.int))) (.mk λs i=>Ev.run (mP (D1 (l:=ag 4) (V:=λk:Nat=>.int ((0:Int)+k)) (bs:=λk=>[("n",.int ((0:Int)+k))]) (cl:=[("sizes",L+3),("cells",L+2)]) [("cells",.list (cs.map PV.int)),("sizes",.list (sz.map PV.int))] (λy=>ai) (λn=>.list ((w0 cs sz n).map PV.int))
  ?h1 ?h2 ?h3 ?h4 ?h5 ?h6 ?h7 ?h8 ?h9 ?h10 ?h11) ?h12) s i) hb (Ar (by rfl) (by rfl))
 case h1=>exact pS G.zero (n:=4) mM (by exact mu (.l xK xQ) [] []) (by rfl)
 case h2=>exact nZ (nZ nJ hz (.inl rfl) (λy=>rfl) (λy=>.inl rfl)) hs (.inl rfl) (λy=>rfl) (λy=>.inl rfl)
 case h3=>
  intro q C g' T5 _ hX
  refine nO (KC (b:=C+1) rfl rfl (λz hz=> ?_) hX)
  simp only [ao,fB,or_false] at hz
  rcases hz with rfl|rfl
  ·exact QL (x:="sizes") (by rfl)
  ·exact QL (x:="cells") (by rfl)
 case h4=>exact λq C g' T5 z z z=>oa
 case h5=>
  intro n C g' T5 hn _ k hf
  have hn:=aL.mp hn
  have hO:=G.offX i
  have G1:=Gd.comp G hO k hf rfl
  have hsn:sz[n]? =aa (sz[n]?.getD 0):=by rw [aA (by exact (mu (.i (.e xB xK) (.i (.b xA xK) (.b xA xB))) [_,_]) hs4 hn)];rfl
  have hcn:cs[n+1]? =aa (cs[n+1]?.getD 0):=by rw [aA (by exact (mu (.i (.e xB xN) (.i (.b xA xK) (.b (.a xA xI) xB))) [_,_]) hc hn)];rfl
  have hr:0<=sz[n]?.getD 0/\sz[n]?.getD 0<=5:=hs5 _ (br hsn)
  generalize hS:sz[n]?.getD 0=S0 at*
  generalize hV:cs[n+1]?.getD 0=V0 at*
  have hrow:w0 cs sz n=(ag S0.toNat).map (w6 V0):=by unfold w0;rw [hS,hV]
  rw [hrow]
  refine .mk λs2 i2=>Ev.run (mP (pJ (l:=ag S0.toNat) (V:=λk:Nat=>.int ((0:Int)+k)) (bs:=λk=>[("i",.int ((0:Int)+k))]) (cl:=[("n",C+1),("cells",L+2)]) [("n",.int ((0:Int)+n)),("cells",.list (cs.map PV.int))] (λz=>ai) (λk=>.int (w6 V0 k))
   ?k1 ?k2 ?k3 ?k4 ?k5 ?k6 ?k7 ?k8 ?k9 ?k10 ?k11) ?k12) s2 i2
  case k1=>
   refine pS G1.zero (n:=S0.toNat) (mP (nj (p:=.list (sz.map PV.int)) (q:=.int ((0:Int)+n)) (r:=.int S0) ?_ ?_ (m4 (by exact mu (.L xJ (.a xJ (.k xA))) [_]) (by rw [a7,show ((0:Int)+n).toNat=n by exact mu (.e (.t (.a xJ (.k xA))) xA) [_],hsn];rfl) (by exact (mu (.i (.b xA xK) (.B (.a xJ (.k xA)) xS)) [_]) hn))) (by rw [eR hr.1])) (by exact (mu (.i (.L xA xN) (.l (.t xA) xQ)) [] [_]) hr.2) (by rfl)
   ·walk_at "ev"
   ·walk_at "ev"
  case k2=>exact nZ (nZ nJ (by walk_at "lk") (.inl rfl) (λz=>rfl) (λz=>.inl rfl)) (by walk_at "lk") (.inl rfl) (λz=>rfl) (λz=>.inl rfl)
  case k3=>exact λz z z z z=>nO
  case k4=>exact λz z z z z z z=>oa
  case k5=>
   intro x C2 g2 more2 hx _ _ _
   have hx:=aL.mp hx
   refine mI (p:=.int (V0.fdiv ((128:Int)^x))) (q:=.int 128) (mI (p:=.int V0) (q:=.int ((128:Int)^x)) (nj (p:=.list (cs.map PV.int)) (q:=.int (((0:Int)+n)+1)) ?_ (mI (p:=.int ((0:Int)+n)) (q:=.int 1) ?_ mM nV) (m4 (by exact mu (.L xJ (.a (.a xJ (.k xA)) xI)) [_]) (by rw [a7,show ((0:Int)+n+1).toNat=n+1 by exact mu (.e (.t (.a (.a xJ (.k xA)) xI)) (.a xA xI)) [_],hcn];rfl) (by exact (mu (.i (.b xA xK) (.B (.a (.a xJ (.k xA)) xI) xS)) [_]) hn)))
    (mI (p:=.int (128:Nat)) (q:=.int ((0:Int)+x)) mM ?_ (vx (by exact mu (.l xR xR) [] []) (by exact (mu (.i (.L xA xN) (.i (.b xA (.t xA)) (.l xA (.c 8)))) [_] [_]) hr.2 hx))) (oX (BS (b:=128) (by exact mu (.b xJ xR) [] [])) (QN x (by exact (mu (.i (.L xA xN) (.i (.b xA (.t xA)) (.b xA xN))) [_] [_]) hr.2 hx)))) mM (oq (by decide))
   ·walk_at "ev"
   ·walk_at "ev"
   ·walk_at "ev"
  case k6=>rw [be];exact (mu (.i (.e xA xL) (.i (.L xA xN) (.l (.t xA) xA))) [_] [_]) Vv hr.2
  case k7=>exact λz z=>by kernel_rfl
  case k8=>rfl
  case k9=>exact ⟨by rfl,by rfl,trivial⟩
  case k10=>rfl
  case k11=>decide+kernel
  case k12=>rw [vR,aB];rfl
 case h6=>decide
 case h7=>exact λz z=>by kernel_rfl
 case h8=>rfl
 case h9=>exact ⟨by rfl,by rfl,trivial⟩
 case h10=>rfl
 case h11=>decide+kernel
 case h12=>rw [vR]
end
section
variable {prog:aH} {w:av} {c:Sc} {σ:mW} {Λ:List (aF×List PV)} {J:hG->aW->Prop}
theorem MP (hl:Ev prog w (fs c σ Λ) l (.int a)) (hr:Ev prog w (fs c σ Λ) r (.int b))
  (hb:pD prog w (In c ((x,.int (a+b))::σ) Λ) c.env c.A rest J) (hx:autoParam (sB c x) XJ) (hk:autoParam (c.env.scope.kind= .function) XZ) (hs:autoParam (cJ (.BinOp l .Add r bp) (aa (.Name x px)) pos.line c.env=bG false) XZ):
  mS prog w c.env c.A (In c σ Λ) (.Assign [.Name x px] (.BinOp l .Add r bp) pos::rest) J:=.mk λs i=>by
 rw [ch]
 refine ae (cN (j8 (ab (hl.run s i) (λv TZ uu=>eA uu λT1 T4=>ab (hr.run TZ (i.mono (mz T1))) (λu T2 uu=>eA uu λT3 Ug=> ?_) λz z e=>e) λz z e=>e)) hs)
 refine eE (ty T4) λt T0=> ?_;obtain rfl:=T0
 refine eE (ty Ug) λt' T0=> ?_;obtain rfl:=T0
 have Ub:bB T2 {T2 with toks:=T2.toks+1}:=pf _ _
 have Uh:=i.mono (mz (mG T1 (mG T3 Ub)))
 refine P.add_int ?_
 refine pV (ab (tV (p:=.int (a+b)) Uh hx tJ hk) (λz Ul uu tk=>eA uu λVq UV=> ?_) λz z e=>e)
 have pos:0<Ul.toks:=bi (Nat.succ_pos _) tk
 exact ab (hb.run Ul UV pos) (λfl UF uu=>eA uu λW3 j=>⟨((nA.of (mG T1 (mG T3 Ub))).trans Vq).trans W3,j⟩) λz z e=>e
theorem KR {st:ef} {I I':aW->Prop} (h:mS prog w env A I [st] (λfl g=>match fl with|.next=>I' g|f=>J f g)) (hc:pD prog w I' env A d J):pD prog w I env A (st::d) J:=ME (b:=[st]) h hc
end
section
variable {w:av} {c:Sc} {σ:mW} {Λ:List (aF×List PV)} {J:hG->aW->Prop}
theorem MJ (G:Gd w 3 c) (ho:Ev ms w (fs c σ ((D,hp l)::Λ)) o (.inst D)) (h1:Ev ms w (fs c σ ((D,hp l)::Λ)) e1 (.str (S nm))) (h2:Ev ms w (fs c σ ((D,hp l)::Λ)) e2 (.str (S vl)))
  (hl:l.length<=1000) (k1:nm.length<=100/\ ∀c∈nm,vr ai c=ai) (k2:vl.length<=100/\ ∀c∈vl,vr false c=ai) (Uj: ∀q∈Λ,q.1≠D)
  (hb:mS ms w c.env c.A (In c σ ((D,hp (l++[(nm,vl)]))::Λ)) rest J)
  (VX:autoParam (bJ (.Call (.Attribute o "add_header" ap) [e1,e2] [] cp) c.env=(do
   let ov <-bJ o c.env
   iu ap.atName
   let (f,first) <-gV [ov] (ia ov "add_header" pl)
   gI cp f first (fa cp (aE [e1,e2] c.env)) (cM cp (bR [] c.env)))) XZ)
  (he:autoParam (aE [e1,e2] c.env=(false,bJ e1 c.env)::aE [e2] c.env) XZ) (he2:autoParam (aE [e2] c.env=(false,bJ e2 c.env)::aE [] c.env) XZ)
  (hi:autoParam (i5 c.env=false) XZ) (hs:autoParam (cJ (.Call (.Attribute o "add_header" ap) [e1,e2] [] cp) az pos.line c.env=bG false) XZ):
  mS ms w c.env c.A (In c σ ((D,hp l)::Λ)) (.Expr (.Call (.Attribute o "add_header" ap) [e1,e2] [] cp) pos::rest) J:=
 qQ (I':=In c σ ((D,hp (l++[(nm,vl)]))::Λ)) (λs i=>fM (ju (ab (ho.run s i) (λv TZ uu=>eA uu λT1 T4=>by
  refine nh T4 ?_;clear T4;intro a d T0 ha hd t;obtain rfl:=T0
  have T8:=i.mono (mz T1)
  refine tE (vM t) λWZ I e1' V1=> ?_
  refine lJ (f:=290) (G.inBase _ T8).frag I (BV _) (DZ _) (by kernel_rfl) (by kernel_rfl) (by show (gp ("add_header":Str) WZ).map _=_;rw [V1 _ (by decide+kernel)];rfl) ?_
  refine nH (qo (ab ((my (pos:=cp) h1 (my h2 mH he2) he).run TZ T8) (λvs T2 uu=>eA uu λT3 Ug=> ?_) λy y e=>e) he)
  refine ng (sP Ug) λu z T0 ru rz=> ?_;obtain rfl:=T0
  have T7:=T8.mono (mz T3)
  refine ⟨rB ((G.inBase _ T7).frag _ _ (DU _).e) rfl,?_⟩
  refine oV (T7.lists (D,hp l) (.head _)) λhDo us VF rs=> ?_
  refine ab (Ml G.room (G.inBase _ T7) T7.liveAll (G.offX T7) (ax _ hDo) (t.keep (mz T3)) VF rs hl k1 k2 ru rz) (λz T9 uu=>HR uu λVY kx Ws Q9 rs2=> ?_) λz z e=>e
  exact ⟨((nA.of T1).trans (nA.of T3)).trans VY,T7.pushX kx ⟨Ws,Q9,rs2⟩ Uj⟩) λz z e=>e) VX) hi hs) hb
theorem CM (B:oi w.params s.heap):tj A ms w (.ref 293) s:=λQ E h=>by
 refine mQ (looks_keep (K:=KB w.params) (M:=aI ms w) (f:=.ref 293) (by kernel_rfl) B.frag) λk z L=> ?_
 exact L.here (h k)
theorem Cf (G:Gd w 3 c) (he:Ev ms w (fs c σ Λ) e (.list (hp l))) (ok:Ey l) (hx:autoParam (c.env.kindOf "Headers"=aa .globalImplicit) XZ)
  (hs:autoParam (aE [e] c.env=(false,bJ e c.env)::aE [] c.env) XZ):Ev ms w (fs c σ Λ) (.Call (.Name "Headers" np) [e] [] cp) (.hdr (hp l)):=.mk λs i=>
 (Cp (ur G (v:=.ref 293) (by kernel_rfl) hx) (my he mH hs) (λs i=>CM (G.inBase _ i)) (Gp G.room G.inBase (G.offX i) ok) hs).run s i
theorem Lv (G:Gd w 3 c) (hb: ∀D,c.g.get? D=az->D∉c.X->mS ms w (c.addOwn D).env (c.addOwn D).A (In (c.addOwn D) ((x,.inst D)::σ) ((D,[])::Λ)) rest J)
  (hp: ∀D,sB (c.addOwn D) x) (hx:autoParam (c.env.kindOf "Headers"=aa .globalImplicit) XZ) (hs:autoParam (cJ (.Call (.Name "Headers" np) [] [] cp) (aa (.Name x px)) pos.line c.env=bG false) XZ):
  mS ms w c.env c.A (In c σ Λ) (.Assign [.Name x px] (.Call (.Name "Headers" np) [] [] cp) pos::rest) J:=.mk λs i=>by
 rw [ch]
 refine ae (cN (cj (ab ((ur G (v:=.ref 293) (by kernel_rfl) hx).run s i) (λv TZ uu=>eA uu λT1 T4=> ?_) λz z e=>e)) hs)
 subst T4
 have T8:=i.mono (mz T1)
 refine nH (v4 ⟨CM (G.inBase _ T8),ab (F8 G.room (G.inBase _ T8) T8.liveAll (G.offX T8)) (λv T2 uu=>H4 uu λT3 a d D e ha hd t hD Wj=> ?_) λz z e=>e⟩)
 subst e
 have j:=T8.addOwn (mz T3) hD ⟨#[],_,Wj⟩
 have T7:In (c.addOwn D) σ ((D,[])::Λ) T2.heap:=by
  refine {j with lists:=λq hq=> ?_}
  rcases ao.mp hq with e|e
  ·subst e;exact ⟨.head _,[],⟨_,Wj⟩,mJ.nil⟩
  ·exact j.lists q e
 have gD:c.g.get? D=az:=T7.fresh _ (.head _)
 have haD:a≠D:=λq=>by rw [<-q,t.obj] at Wj;have:=congrArg Obj.cls (am Wj);cases this
 have hdD:d≠D:=λq=>by
  obtain ⟨od,e2,e3,_⟩:=t.dic
  rw [q,Wj] at e2;obtain rfl:=am e2;exact nB e3
 have nX:D∉c.X:=λq=>by
  obtain ⟨o,e⟩:=T8.liveAll _ q
  rw [hD] at e;exact nB e
 have r:mO (c.addOwn D).X T2.heap (.inst D) (.ref a):=by
  refine ⟨a,d,rfl,λq=> ?_,λq=> ?_,t⟩
  ·rcases ao.mp q with q|q
   ·exact haD q
   ·exact ha q
  ·rcases ao.mp q with q|q
   ·exact hdD q
   ·exact hd q
 refine ab (tV (c:=c.addOwn D) T7 (hp D) r G.fn) (λz T9 uu=>eA uu λVY Uh=> ?_) λz z e=>e
 exact ab ((hb D gD nX).run T9 Uh) (λfl Ul uu=>eA uu λVq jj=>⟨((nA.of T1).trans (nA.of T3)).trans (VY.trans Vq),jj⟩) λz z e=>e
end
end
section
open PySem.Calls PyProof.Rows PySem.Builtin.Str
def Ap (κ:mW) (xs:List Str):Prop:= ∀q∈κ,κ.lookup q.1=aa q.2/\q.1∉xs
theorem Ap.refl (h:Ap κ xs):Has κ κ:=λq hq=>(h q hq).1
theorem Ap.skip (h:Ap κ xs) (hx:xs.elem x=ai) (t:Has σ κ):Has ((x,p)::σ) κ:=λq hq=>by
 have:(q.1==x)=false:=by
  have:q.1≠x:=λe=>(h q hq).2 (by rw [e];exact kf hx)
  simpa using this
 rw [aD,this]
 exact t q hq
noncomputable def LN:List Str:=["sign","signs","ahead","text","left","name","tone","share","value","hand","book","mail","line","n","one","place","own","octets","coded","x"]
theorem Ap.mono (h:Ap κ ys) (k: ∀x∈xs,x∈ys):Ap κ xs:=λq hq=>⟨(h q hq).1,λe=>(h q hq).2 (k _ e)⟩
theorem Ap.cons (h:Ap κ (x::xs)) (hx:x∉xs):Ap ((x,p)::κ) xs:=λq hq=>by
 rcases ao.mp hq with rfl|hq
 ·exact ⟨BD,hx⟩
 ·refine eA (h q hq) λa b=> ?_
  have:q.1≠x:=λe=>b (by rw [e];exact .head _)
  exact ⟨Cw (by simpa using this) a,λe=>b (.tail _ e)⟩
theorem Ap.nil:Ap [] xs:=λq hq=>nomatch hq
noncomputable def LS:List Str:=["sign","signs","ahead","text","value","share","hand"]
end
section
open PySem.Calls PyProof.Rows PySem.Builtin.Str
noncomputable def A0:List (List Nat):=[[10],[13,10],[13]]
def vq (dr d:Int):List Nat:=A0[((dr.fdiv d).fmod 3).toNat]?.getD [10]
noncomputable def uj:List (List Nat):=[[97,98,99,100],[65,66,67,68]]
def AL (dr:Int) (n:Nat):Nat:=(uj[(((dr.fdiv 54).fdiv ((2:Int)^n)).fmod 2).toNat]?.getD [])[n]?.getD 97
noncomputable def D0 (dr:Int) (n:Nat):Nat:=(((dr.fdiv 864).fdiv ((3:Int)^n)).fmod 3).toNat
section
variable {w:av} {A:aX} {g:aW} {L:aF} {σ:mW} {Λ:List (aF×List PV)}
theorem qN {a m:Int} (hm:0<m):0<=a.fmod m/\a.fmod m<m:=by
 rw [bM _ (by exact (mu (.i (.B xJ xA) (.L xJ xA)) [] [_]) hm)]
 exact ⟨Int.emod_nonneg _ (by exact (mu (.i (.B xJ xA) (.n (.E xA xJ))) [] [_]) hm),Int.emod_lt_of_pos _ (by omega)⟩
theorem PT (dr d:Int):A0[((dr.fdiv d).fmod 3).toNat]? =aa (vq dr d):=by
 have h:=qN (a:=dr.fdiv d) (m:=3) (by decide)
 unfold vq
 rw [aA (show ((dr.fdiv d).fmod 3).toNat<A0.length by exact (mu (.i (.B xA xO) (.b (.t xA) xO)) [] [_]) h.2)];rfl
theorem J7 (G:Gd w 5 c) (he:Ev ms w (fs c σ Λ) e (.int ((dr.fdiv d).fmod 3)))
  (h1:autoParam (aE [.Constant (.str (aS "\n")) k1 p1,.Constant (.str (aS "\x0d\n")) k2 p2,.Constant (.str (aS "\x0d")) k3 p3] c.env=(false,bJ (.Constant (.str (aS "\n")) k1 p1) c.env)::aE [.Constant (.str (aS "\x0d\n")) k2 p2,.Constant (.str (aS "\x0d")) k3 p3] c.env) XZ)
  (h2:autoParam (aE [.Constant (.str (aS "\x0d\n")) k2 p2,.Constant (.str (aS "\x0d")) k3 p3] c.env=(false,bJ (.Constant (.str (aS "\x0d\n")) k2 p2) c.env)::aE [.Constant (.str (aS "\x0d")) k3 p3] c.env) XZ)
  (h3:autoParam (aE [.Constant (.str (aS "\x0d")) k3 p3] c.env=(false,bJ (.Constant (.str (aS "\x0d")) k3 p3) c.env)::aE [] c.env) XZ):
  Ev ms w (fs c σ Λ) (.Subscript (.Tuple [.Constant (.str (aS "\n")) k1 p1,.Constant (.str (aS "\x0d\n")) k2 p2,.Constant (.str (aS "\x0d")) k3 p3] k p4) e pos) (.str (S (vq dr d))):=by
 have h:=qN (a:=dr.fdiv d) (m:=3) (by decide)
 refine nj (p:=.tup (A0.map λl=>.str (S l))) (q:=.int ((dr.fdiv d).fmod 3)) (ot (my (m5 (by kernel_rfl)) (my (m5 (by kernel_rfl)) (my (m5 (by kernel_rfl)) mH h3) h2) h1) (by decide)) he (rH h.1 (by rw [a7,PT];rfl) (by exact (mu (.i (.B xA xO) (.B xA xS)) [] [_]) h.2))
theorem Ro: ∀k<4,((2:Int)^k).natAbs<1073741824:=by decide+kernel
theorem Rv: ∀k<4,((3:Int)^k).natAbs<1073741824:=by decide+kernel
set_option maxHeartbeats 1000000 in
theorem Ix (G:Gd w 5 (c1 A g L)) (hd:aD ("dress":Str) σ=aa (PV.int dr))
  (hb:mS ms w (c1 A g L).env (c1 A g L).A (In (c1 A g L) (("letters",.list ((ag 4).map λn=>.str (S [AL dr n])))::σ) Λ) b J):mS ms w (c1 A g L).env (c1 A g L).A (In (c1 A g L) σ Λ) (ni ny 7::b) J:=by
 have hz:=aw
 refine mK (p:=.list ((ag 4).map λn=>.str (S [AL dr n]))) (.mk λs i=>Ev.run (mP (pJ (l:=ag 4) (V:=λk:Nat=>.int ((0:Int)+k)) (bs:=λk=>[("n",.int ((0:Int)+k))]) (cl:=[("dress",L+6)]) [("dress",.int dr)] (λz=>ai) (λn=>.str (S [AL dr n]))
  ?h1 ?h2 ?h3 ?h4 ?h5 ?h6 ?h7 ?h8 ?h9 ?h10 ?h11) ?h12) s i) hb (Ar (by rfl) (by rfl))
 case h1=>exact pS G.zero (n:=4) mM (by exact mu (.l xK xQ) [] []) (by rfl)
 case h2=>exact nZ nJ hd (.inl rfl) (λz=>rfl) (λz=>.inl rfl)
 case h3=>exact λq C g' T5 z=>nO
 case h4=>exact λq C g' T5 z z z=>oa
 case h5=>
  intro n C g' T5 hn _ _ _
  have hn:=aL.mp hn
  have h:=qN (a:=(dr.fdiv 54).fdiv ((2:Int)^n)) (m:=2) (by decide)
  have e1:uj[(((dr.fdiv 54).fdiv ((2:Int)^n)).fmod 2).toNat]? =aa (uj[(((dr.fdiv 54).fdiv ((2:Int)^n)).fmod 2).toNat]?.getD []):=by
   rw [aA (show _<uj.length by exact (mu (.i (.B xA xM) (.b (.t xA) xM)) [] [_]) h.2)];rfl
  have e2:(uj[(((dr.fdiv 54).fdiv ((2:Int)^n)).fmod 2).toNat]?.getD [])[n]? =aa (AL dr n):=by
   have Uz: ∀k<2,∀n<4,(uj[k]?.getD [])[n]? =aa ((uj[k]?.getD [])[n]?.getD 97):=by decide
   exact Uz _ (by exact (mu (.i (.B xA xM) (.b (.t xA) xM)) [] [_]) h.2) n hn
  refine nj (p:=.str (S (uj[(((dr.fdiv 54).fdiv ((2:Int)^n)).fmod 2).toNat]?.getD []))) (q:=.int ((0:Int)+n)) (nj (p:=.tup (uj.map λl=>.str (S l))) (q:=.int (((dr.fdiv 54).fdiv ((2:Int)^n)).fmod 2)) (ot (my (m5 (by kernel_rfl)) (my (m5 (by kernel_rfl)) mH)) (by decide))
   (mI (p:=.int ((dr.fdiv 54).fdiv ((2:Int)^n))) (q:=.int 2) (mI (p:=.int (dr.fdiv 54)) (q:=.int ((2:Int)^n)) (mI (p:=.int dr) (q:=.int 54) ?_ mM (oX (by decide) (by decide))) (mI (p:=.int (2:Nat)) (q:=.int ((0:Int)+n)) mM ?_ (vx (by exact mu (.l xM xR) [] []) (by exact (mu (.i (.b xA xK) (.l xA (.c 8))) [_]) hn))) (oX (BS (b:=2) (by exact mu (.b xJ xM) [] [])) (Ro n hn))) mM (oq (by decide)))
   (rH h.1 (by rw [a7,e1];rfl) (by exact (mu (.i (.B xA xM) (.B xA xS)) [] [_]) h.2))) ?_ (qL (by exact mu (.L xJ (.a xJ (.k xA))) [_]) (by rw [show ((0:Int)+n).toNat=n by exact mu (.e (.t (.a xJ (.k xA))) xA) [_]];exact e2) (by exact (mu (.i (.b xA xK) (.B (.a xJ (.k xA)) xS)) [_]) hn))
  ·walk_at "ev"
  ·walk_at "ev"
  ·walk_at "ev"
 case h6=>decide
 case h7=>exact λz z=>by kernel_rfl
 case h8=>rfl
 case h9=>exact ⟨by rfl,trivial⟩
 case h10=>rfl
 case h11=>decide+kernel
 case h12=>rw [vR]
set_option maxHeartbeats 1000000 in
theorem Oj (G:Gd w 5 (c1 A g L)) (hd:aD ("dress":Str) σ=aa (PV.int dr))
  (hb:mS ms w (c1 A g L).env (c1 A g L).A (In (c1 A g L) (("dots",.list ((ag 4).map λn=>.int (D0 dr n:Nat)))::σ) Λ) b J):mS ms w (c1 A g L).env (c1 A g L).A (In (c1 A g L) σ Λ) (ni ny 8::b) J:=by
 have hz:=aw
 refine mK (p:=.list ((ag 4).map λn=>.int (D0 dr n:Nat))) (.mk λs i=>Ev.run (mP (pJ (l:=ag 4) (V:=λk:Nat=>.int ((0:Int)+k)) (bs:=λk=>[("n",.int ((0:Int)+k))]) (cl:=[("dress",L+6)]) [("dress",.int dr)] (λz=>ai) (λn=>.int (D0 dr n:Nat))
  ?h1 ?h2 ?h3 ?h4 ?h5 ?h6 ?h7 ?h8 ?h9 ?h10 ?h11) ?h12) s i) hb (Ar (by rfl) (by rfl))
 case h1=>exact pS G.zero (n:=4) mM (by exact mu (.l xK xQ) [] []) (by rfl)
 case h2=>exact nZ nJ hd (.inl rfl) (λz=>rfl) (λz=>.inl rfl)
 case h3=>exact λq C g' T5 z=>nO
 case h4=>exact λq C g' T5 z z z=>oa
 case h5=>
  intro n C g' T5 hn _ _ _
  have hn:=aL.mp hn
  have h:=qN (a:=(dr.fdiv 864).fdiv ((3:Int)^n)) (m:=3) (by decide)
  refine mP (mI (p:=.int ((dr.fdiv 864).fdiv ((3:Int)^n))) (q:=.int 3) (mI (p:=.int (dr.fdiv 864)) (q:=.int ((3:Int)^n)) (mI (p:=.int dr) (q:=.int 864) ?_ mM (oX (by decide) (by decide))) (mI (p:=.int (3:Nat)) (q:=.int ((0:Int)+n)) mM ?_ (vx (by exact mu (.l xO xR) [] []) (by exact (mu (.i (.b xA xK) (.l xA (.c 8))) [_]) hn))) (oX (BS (b:=3) (by exact mu (.b xJ xO) [] [])) (Rv n hn))) mM (oq (by decide))) ?_
  ·walk_at "ev"
  ·walk_at "ev"
  ·unfold D0;rw [eR h.1]
 case h6=>decide
 case h7=>exact λz z=>by kernel_rfl
 case h8=>rfl
 case h9=>exact ⟨by rfl,trivial⟩
 case h10=>rfl
 case h11=>decide+kernel
 case h12=>rw [vR]
theorem OK (G:Gd w 5 (c1 A g L)) {cs:List Int} (h0:cs[0]? =aa c0) (hdr:c0.fdiv 625=dr) (hs:aD ("cells":Str) σ=aa (PV.list (cs.map PV.int)))
  (hb:mS ms w (c1 A g L).env (c1 A g L).A (In (c1 A g L) (("mark",.str (S (vq dr 18)))::("eol",.str (S (vq dr 6)))::("width",.int (12+dr.fmod 6))::("dress",.int dr)::σ) Λ) b J):
  mS ms w (c1 A g L).env (c1 A g L).A (In (c1 A g L) σ Λ) (ni ny 3::ni ny 4::ni ny 5::ni ny 6::b) J:=by
 subst hdr
 refine mK (p:=.int (c0.fdiv 625)) (mI (p:=.int c0) (q:=.int 625) (nj (p:=.list (cs.map PV.int)) (q:=.int 0) (nu hs) mM (m4 (by exact mu (.L xJ xJ) []) (by show (cs.map PV.int)[0]? =_;rw [a7,h0];rfl) (by exact mu (.B xJ xS) []))) mM (oX (by decide) (by decide))) ?_ (Ar (by rfl) (by rfl))
 refine mK (p:=.int (12+(c0.fdiv 625).fmod 6)) (mI mM (mI (p:=.int (c0.fdiv 625)) (q:=.int 6) (by walk_at "ev") mM (oq (by decide))) nV) ?_
 refine mK (p:=.str (S (vq (c0.fdiv 625) 6))) (J7 G ?_) ?_
 ·refine mI (p:=.int ((c0.fdiv 625).fdiv 6)) (q:=.int 3) (mI (p:=.int (c0.fdiv 625)) (q:=.int 6) ?_ mM (oX (by decide) (by decide))) mM (oq (by decide))
  walk_at "ev"
 refine mK (p:=.str (S (vq (c0.fdiv 625) 18))) (J7 G ?_) hb
 refine mI (p:=.int ((c0.fdiv 625).fdiv 18)) (q:=.int 3) (mI (p:=.int (c0.fdiv 625)) (q:=.int 18) ?_ mM (oX (by decide) (by decide))) mM (oq (by decide))
 walk_at "ev"
end
noncomputable def m6 (k c:Nat):List Nat:=aG k 46++[c]
noncomputable def mR (r:List Nat):List Nat:=r.map (128+ ·)
def tQ (dt lt:Nat->Nat) (rs:Nat->List Nat):HP:=(ag 4).map λn=>(m6 (dt n) (lt n),mR (rs n))
theorem zt (k:Nat):(aG k [46]).flatten=aG k 46:=by
 induction k with
 |zero=>rfl
 |succ k ih=>rw [cq,cu,ih,cq];rfl
theorem zA: ∀c∈zd,vr ai c=ai:=by decide+kernel
theorem D4: ∀c<256,128<=c->vr false c=ai:=by decide+kernel
theorem AO (hc:c∈zd): ∀d∈m6 k c,d∈zd:=by
 intro d hd
 rcases ar.mp hd with h|h
 ·rw [(dW.mp h).2];decide
 ·rw [ak.mp h];exact hc
theorem tX (h: ∀x∈r,x<128):vv (mR r):=by
 intro c hc
 refine mQ (aK.mp hc) λx hx T0=> ?_;obtain rfl:=T0
 have:=h x hx
 exact (mu (.i (.b xA xR) (.a (.l xR (.a xR xA)) (.b (.a xR xA) (.c 256)))) [_]) this
theorem Jm (r:List Nat):(Txt.join (S []) ((r.map λx=>[x]).map S)).cps.toList=r:=by
 rw [yj]
 induction r with
 |nil=>rfl
 |cons x r ih=>
  cases r with
  |nil=>rfl
  |cons y r=>
   have:jn [] (([x]:List Nat)::(eU (λx=>[x]) (y::r)))=[x]++[]++jn [] (eU (λx=>[x]) (y::r)):=rfl
   rw [ba,this,ih];rfl
theorem Qv (h:x.cps.toList=l):x=S l:=by
 subst h;rfl
section
variable {w:av}
theorem Hy (G:Gd w 1 c) (hi:Ev ms w (fs c σ Λ) iter (.list (r.map λx:Nat=>PV.int x))) (hr: ∀x∈r,x<128) (hl:r.length<=100)
  (hO: ∀h,In c σ Λ h->sM w.params c.X) (UU:gK sc c.env=bG []) (hk:sc.kind= .function) (XA: ∀y∈sc.names,y.2= .local->sc.names.lookup y.1=aa .local)
  (hp: ∀C g T5,sB (nk c sc [] C g T5) "x") (hkc: ∀C g T5,(nk c sc [] C g T5).env.kindOf "chr"=aa .globalImplicit) (hf: ∀C g T5,(nk c sc [] C g T5).env.scope.kind= .function)
  (hs: ∀x,cO iter c.env x=bG x)
  (UR:aE [.ListComp (.Call (.Name "chr" p0) [.BinOp (.Constant (.int 128) k p1) .Add (.Name "x" p2) p3] [] p4) [⟨.Name "x" p5,iter,[],0⟩] sc p6] c.env=(false,bJ (.ListComp (.Call (.Name "chr" p0) [.BinOp (.Constant (.int 128) k p1) .Add (.Name "x" p2) p3] [] p4) [⟨.Name "x" p5,iter,[],0⟩] sc p6) c.env)::aE [] c.env)
  (WQ: ∀C g T5,aE [.BinOp (.Constant (.int 128) k p1) .Add (.Name "x" p2) p3] (nk c sc [] C g T5).env=(false,bJ (.BinOp (.Constant (.int 128) k p1) .Add (.Name "x" p2) p3) (nk c sc [] C g T5).env)::aE [] (nk c sc [] C g T5).env)
  (Up:db (.Constant (.str (aS "")) kk p7) "join" c.env (bJ (.Constant (.str (aS "")) kk p7) c.env)=bJ (.Constant (.str (aS "")) kk p7) c.env)
  (UZ:((fa pos (aE [.ListComp (.Call (.Name "chr" p0) [.BinOp (.Constant (.int 128) k p1) .Add (.Name "x" p2) p3] [] p4) [⟨.Name "x" p5,iter,[],0⟩] sc p6] c.env)).all (λx=> !x.1)&&(cM pos (bR [] c.env)).all (λx=>x.1.isSome)
   &&decide (([.ListComp (.Call (.Name "chr" p0) [.BinOp (.Constant (.int 128) k p1) .Add (.Name "x" p2) p3] [] p4) [⟨.Name "x" p5,iter,[],0⟩] sc p6]:List Expr).length+([]:List eV).length+(if ([]:List eV).isEmpty then 0 else 1)<30))=ai)
  (Uu:(ap.endLine==pos.line)=ai):
  Ev ms w (fs c σ Λ) (.Call (.Attribute (.Constant (.str (aS "")) kk p7) "join" ap) [.ListComp (.Call (.Name "chr" p0) [.BinOp (.Constant (.int 128) k p1) .Add (.Name "x" p2) p3] [] p4) [⟨.Name "x" p5,iter,[],0⟩] sc p6] [] pos) (.str (S (mR r))):=by
 have hz:=aw
 refine re (p:=.str (S [])) (T:="str") (m5 (by kernel_rfl)) oh F.plainAttrs_str F.slot_str_join F.type_str_join (my (p:=.list (((mR r).map λx=>[x]).map S |>.map PV.str)) (.mk λs i=>Ev.run (mP (pJ (l:=r) (V:=λx:Nat=>PV.int x) (bs:=λx=>[("x",.int (x:Nat))]) (cl:=[]) [] (λz=>ai) (λx=>.str (S [128+x]))
  (qD hi G.room.1 (.inl ⟨_,_,rfl⟩) (λz h=>nomatch h)) nJ (λx C g T5 z=>nO (hp C g T5) (hf C g T5)) (λz z z z z z z=>oa) ?h5 (by exact (mu (.i (.l xA xP) (.i (.e xB xL) (.l xA xB))) [_,_]) hl hz) (λz z=>rfl) UU trivial hk XA hs) ?h12) s i) mH UR) (qv (wu (t5 ?hj)) (by rw [Qv (Jm (mR r))])) Up UZ Uu UR
 case h5=>
  intro x C g' T5 hx _ kk hn
  have G1:=Gd.comp G (hO _ i) kk hn (hf C g' T5)
  have hx:=hr x hx
  refine n9 G1 (ps:=[.int ((128+x:Nat):Int)]) (by kernel_rfl) (by kernel_rfl) (my (mP (mI (p:=.int 128) (q:=.int (x:Nat)) mM (nu (by walk_at "lk") (hf C g' T5)) nV) (by congr 1)) mH (WQ C g' T5)) (Ck (by exact (mu (.i (.b xA xR) (.l (.a xR xA) (.c 1114111))) [_]) hx)) (.inl ⟨_,rfl⟩) (by decide+kernel) (hkc C g' T5) (by decide+kernel) (WQ C g' T5)
 case h12=>rw [vR,mR,aB,aB,aB];rfl
 case hj=>
  have h1:(((mR r).map λx=>[x]).flatten)=mR r:=by rw [<-cm];exact List.flatMap_singleton' (mR r)
  rw [h1,ah];show (eU _ r).length+r.length*0<=_;rw [ah];exact (mu (.i (.l xA xP) (.l (.a xA (.r xA 0)) (.c 1000000))) [_]) hl
end
noncomputable def uT (rs:Nat->List Nat):PV:=.list ((ag 4).map λn=>.list ((rs n).map λx:Nat=>PV.int x))
theorem oO {α:Type} {f:Nat->α} (h:k<n):((ag n).map f)[k]? =aa (f k):=by
 rw [a7,List.getElem?_range h];rfl
theorem Gd.sub (G:Gd w n c) (h:m<=n):Gd w m c:=⟨G.base,G.off,G.room.less h,G.fn,G.gl,G.bl⟩
theorem Ay {n:Nat}:((0:Int)+n)=n:=by exact mu (.E (.a xJ (.k xA)) (.k xA)) [_]
section
variable {w:av} {A:aX} {g:aW} {L:aF} {σ:mW} {Λ:List (aF×List PV)}
set_option maxHeartbeats 2000000 in
theorem Pf (G:Gd w 5 (c1 A g L)) (VD: ∀n<4,dt n<3) (Um: ∀n<4,lt n∈zd) (Xx: ∀n<4,(rs n).length<=5/\ ∀x∈rs n,x<128)
  (hr:aD ("rows":Str) σ=aa (uT rs)) (hl:aD ("letters":Str) σ=aa (PV.list ((ag 4).map λn=>PV.str (S [lt n])))) (hd:aD ("dots":Str) σ=aa (PV.list ((ag 4).map λn=>PV.int (dt n:Nat))))
  (hb:mS ms w (c1 A g L).env (c1 A g L).A (In (c1 A g L) (("book",.hdr (hp (tQ dt lt rs)))::σ) Λ) b J):mS ms w (c1 A g L).env (c1 A g L).A (In (c1 A g L) σ Λ) (ni ny 9::b) J:=by
 have Vv:=aw
 refine mK (p:=.hdr (hp (tQ dt lt rs))) (Cf (Gd.sub G (by exact mu (.l xO xN) [] [])) (.mk λs i=>Ev.run (mP (pJ (l:=ag 4) (V:=λk:Nat=>.int ((0:Int)+k)) (bs:=λk=>[("n",.int ((0:Int)+k))]) (cl:=[("rows",L+5),("letters",L+7),("dots",L+8)]) [("rows",uT rs),("letters",.list ((ag 4).map λn=>.str (S [lt n]))),("dots",.list ((ag 4).map λn=>.int (dt n:Nat)))] (λz=>ai) (λn=>.tup [.str (S (m6 (dt n) (lt n))),.str (S (mR (rs n)))])
  ?h1 ?h2 ?h3 ?h4 ?h5 ?h6 ?h7 ?h8 ?h9 ?h10 ?h11) ?h12) s i) ?hok) hb (Ar (by rfl) (by rfl))
 case h1=>exact pS G.zero (n:=4) mM (by exact mu (.l xK xQ) [] []) (by rfl)
 case h2=>exact nZ (nZ (nZ nJ hd (.inl rfl) (λz=>rfl) (λz=>.inl rfl)) hl (.inl rfl) (λz=>rfl) (λz=>.inl rfl)) hr (.inl rfl) (λz=>rfl) (λz=>.inl rfl)
 case h3=>exact λq C g' T5 z=>nO
 case h4=>exact λq C g' T5 z z z=>oa
 case h5=>
  intro n C g' T5 hn _ k hf
  have hn:=aL.mp hn
  have hO:=G.offX i
  have G1:=Gd.comp G hO k hf rfl
  refine ot (my (mP (mI (p:=.str (S (aG (dt n) [46]).flatten)) (q:=.str (S [lt n])) (mI (p:=.str (S [46])) (q:=.int (dt n:Nat)) (m5 (by kernel_rfl)) (nj (p:=.list ((ag 4).map λn=>.int (dt n:Nat))) (q:=.int ((0:Int)+n)) ?a1 ?a2 (m4 (by exact mu (.L xJ (.a xJ (.k xA))) [_]) (by rw [Ay];exact oO hn) (by exact (mu (.i (.b xA xK) (.B (.a xJ (.k xA)) xS)) [_]) hn))) (xU (by decide) (by have:=VD n hn;exact (mu (.i (.b xA xO) (.l xA xQ)) [_]) this)))
   (nj (p:=.list ((ag 4).map λn=>.str (S [lt n]))) (q:=.int ((0:Int)+n)) ?a3 ?a4 (m4 (by exact mu (.L xJ (.a xJ (.k xA))) [_]) (by rw [Ay];exact oO hn) (by exact (mu (.i (.b xA xK) (.B (.a xJ (.k xA)) xS)) [_]) hn))) (ou ?a5)) ?a6)
   (my (p:=.str (S (mR (rs n)))) ?oct mH)) (by simp;exact (mu (.i (.e xA xL) (.l xM xA)) [_]) Vv)
  case a1=>walk_at "ev"
  case a2=>walk_at "ev"
  case a3=>walk_at "ev"
  case a4=>walk_at "ev"
  case a5=>rw [zt,a8];have:=VD n hn;exact (mu (.i (.e xB xL) (.i (.b xA xO) (.l (.a xA xI) xB))) [_,_]) Vv this
  case a6=>rw [zt];rfl
  case oct=>
   refine .mk λs2 i2=>Ev.run (Hy (Gd.sub G1 (by exact mu (.l xI xN) [] [])) ?b1 (Xx n hn).2 (by have:=(Xx n hn).1;exact (mu (.i (.l xA xN) (.l xA xP)) [_]) this) ?b2 ?b3 ?b4 ?b5 ?b6 ?b7 ?b8 ?b9 ?b10 ?b11 ?b12 ?b13 ?b14) s2 i2
   case b1=>
    refine nj (p:=uT rs) (q:=.int ((0:Int)+n)) ?c1 ?c2 (m4 (by exact mu (.L xJ (.a xJ (.k xA))) [_]) (by rw [Ay];exact oO hn) (by exact (mu (.i (.b xA xK) (.B (.a xJ (.k xA)) xS)) [_]) hn))
    case c1=>walk_at "ev"
    case c2=>walk_at "ev"
   case b2=>exact λh i=>G1.offX i
   case b3=>rfl
   case b4=>rfl
   case b5=>decide+kernel
   case b6=>exact λz z z=>.inl (by rfl)
   case b7=>exact λz z z=>by rfl
   case b8=>exact λz z z=>by rfl
   case b9=>exact λz=>by rfl
   case b10=>rfl
   case b11=>exact λz z z=>by rfl
   case b12=>rfl
   case b13=>rfl
   case b14=>rfl
 case h6=>decide
 case h7=>exact λz z=>by kernel_rfl
 case h8=>rfl
 case h9=>exact ⟨by rfl,by rfl,by rfl,trivial⟩
 case h10=>rfl
 case h11=>decide+kernel
 case h12=>rw [vR,tQ,hp,aB];rfl
 case hok=>
  refine ⟨by simp [tQ],λq hq=> ?_⟩
  refine mQ (aK.mp hq) λn hn T0=> ?_;obtain rfl:=T0
  have hn:=aL.mp hn
  have h3:=VD n hn
  refine ⟨⟨?_,λc hc=>zA c (AO (Um n hn) c hc)⟩,⟨?_,λc hc=> ?_⟩⟩
  ·show (m6 _ _).length<=100
   rw [m6,af,a8];exact (mu (.i (.b xA xO) (.l (.a xA xI) xP)) [_]) h3
  ·show (mR _).length<=100
   rw [mR,ah];have:=(Xx n hn).1;exact (mu (.i (.l xA xN) (.l xA xP)) [_]) this
  ·have:=tX (Xx n hn).2 c hc
   exact D4 c this.2 this.1
end
noncomputable def DW (t:Option PV):PV:=match t with|some (.tup [h,_,_])=>h|_=>.none
theorem Qo: ∀k<4,∃hq,oz (.int 4) (.int (k:Nat)) (.int (k:Nat))=aa (.tup [hq,.fx (nt (4 - k)),.int 4]):=by
 intro k hk
 match k,hk with
 |0,_=>exact ⟨DW (oz (.int 4) (.int (0:Nat)) (.int (0:Nat))),by kernel_rfl⟩
 |1,_=>exact ⟨DW (oz (.int 4) (.int (1:Nat)) (.int (1:Nat))),by kernel_rfl⟩
 |2,_=>exact ⟨DW (oz (.int 4) (.int (2:Nat)) (.int (2:Nat))),by kernel_rfl⟩
 |3,_=>exact ⟨DW (oz (.int 4) (.int (3:Nat)) (.int (3:Nat))),by kernel_rfl⟩
noncomputable def FE (body:ef):List ef:=match body with|.For _ _ b _ _=>b|_=>[]
def rE:List ef:=FE (ni ny 13)
section
variable {w:av} {A:aX} {g g':aW} {L D:aF} {is:List aF} {σ:mW} {Λ:List (aF×List PV)}
abbrev cH (A:aX) (g:aW) (L D:aF) (is:List aF) (g':aW):Sc:=((cV A g L D).addX is).at g'
theorem I7 (hk:k<4):zy ms w 1 125 (λz=>True) [.int 4,.int (k:Nat),.int (k:Nat)] (λq=> ∃u hq mq,Fl (nt (4 - k)) u/\q= .tup [hq,.raw u,mq]):=by
 refine eE (Qo k hk) λhq e=> ?_
 have n1:qn (.int 4) (.int (k:Nat)):=trivial
 have n2:qn (.int (k:Nat)) (.int (k:Nat)):=trivial
 have Uz:nw (.int 4) (.int (k:Nat)) (.int (k:Nat))= .int 4/\nQ (nw (.int 4) (.int (k:Nat)) (.int (k:Nat))) (qm (.int 4) (.int (k:Nat)) (.int (k:Nat)))=aa (.int (4 - k))/\rO (qm (.int 4) (.int (k:Nat)) (.int (k:Nat))) (nw (.int 4) (.int (k:Nat)) (.int (k:Nat)))=false:=by
  match k,hk with
  |0,_=>exact ⟨by kernel_rfl,by kernel_rfl,by kernel_rfl⟩
  |1,_=>exact ⟨by kernel_rfl,by kernel_rfl,by kernel_rfl⟩
  |2,_=>exact ⟨by kernel_rfl,by kernel_rfl,by kernel_rfl⟩
  |3,_=>exact ⟨by kernel_rfl,by kernel_rfl,by kernel_rfl⟩
 intro A X I r hI h0 ho
 have:=I4 (w:=w) n1 n2 n1 e Uz.1 Uz.2.1 Uz.2.2 A X I r hI h0 ho
 refine .mk λs vs i t0 lx rs=>ab (this.run s vs i t0 lx rs) (λv s' uu=>oV uu λk p hp r=> ?_) λz z e=>e
 refine ng hp λu sf hf e1 e2=> ?_
 cases e1
 exact ⟨k,p,⟨u,hq,_,hf,e2⟩,r⟩
noncomputable def qu (t:Nat):Nat:=1+t % 4
noncomputable def sw (t:Nat):Nat:=4 - t/2 % 4
theorem FY (t:Nat):(qu t,sw t)∈xd:=by
 have Uz: ∀m<8,(1+m % 4,4 - m/2 % 4)∈xd:=by decide
 have h:=Uz (t % 8) (fL _ (by decide))
 have e1:t % 8 % 4=t % 4:=by exact mu (.e (.e (.e xA 8) 4) (.e xA 4)) [_]
 have e2:t % 8/2 % 4=t/2 % 4:=by exact mu (.e (.e (.d (.e xA 8) 2) 4) (.e (.d xA 2) 4)) [_]
 rw [e1,e2] at h;exact h
set_option maxHeartbeats 1000000 in
theorem Oa (G:Gd w 5 (cH A g L D is g')) {dr h:Nat} (hd:aD ("dress":Str) σ=aa (.int dr)) (hh:aD ("hand":Str) σ=aa (.int ((0:Int)+h)))
  (hb: ∀u,Fl (nt (sw (dr/69984+h))) u->pD ms w (In (cH A g L D is g') (("value",.raw u)::("share",.fx (nt (qu (dr/69984+h))))::("tone",.int (dr/69984+h:Nat))::σ) Λ) (cH A g L D is g').env (cH A g L D is g').A b J):
  mS ms w (cH A g L D is g').env (cH A g L D is g').A (In (cH A g L D is g') σ Λ) (ni rE 0::ni rE 1::ni rE 2::b) J:=by
 refine MP (a:=(dr:Int).fdiv 69984) (b:=(0:Int)+h) (mI (p:=.int dr) (q:=.int 69984) ?a1 mM (oX (by decide) (by decide))) ?a2 ?rest
 case a1=>exact nu hd
 case a2=>exact nu hh
 have e0:(dr:Int).fdiv 69984+((0:Int)+h)=((dr/69984+h:Nat):Int):=by
  rw [bX _ (by decide)];exact mu (.E (.a (.d (.k xA) 69984) (.a xJ (.k xB))) (.k (.a (.d xA 69984) xB))) [_,_]
 case rest=>
 rw [e0]
 generalize ht:dr/69984+h=t
 have h3:t % 4<4:=fL _ (by decide)
 refine eE (Qo (3 - t % 4) (by exact mu (.b (.s xO (.e xA 4)) xK) [_])) λhq eq=> ?_
 have e3:(3:Int) - (t:Int).fmod 4=((3 - t % 4:Nat):Int):=by rw [bM _ (by decide)];exact mu (.E (.s xO (.e (.k xA) 4)) (.k (.s xO (.e xA 4)))) [_]
 refine pN (p:=.fx (nt (qu t))) (nj (p:=.tup [hq,.fx (nt (4 - (3 - t % 4))),.int 4]) (q:=.int 1) (oE (Gd.sub (m:=1) G (by decide)) (ps:=[.int 4,.int ((3 - t % 4:Nat):Int),.int ((3 - t % 4:Nat):Int)]) (by kernel_rfl) (vy _).e (my mM (my ?b1 (my ?b2 mH))) (uV trivial trivial trivial eq)) mM (rH (by exact mu (.L xJ xI) [] []) (by rw [show 4 - (3 - t % 4)=qu t by exact mu (.e (.s xK (.s xO (.e xA 4))) (.a xI (.e xA 4))) [_]];rfl) (by exact mu (.B xI xS) []))) ?_
 case b1=>exact mP (mI (p:=.int 3) (q:=.int ((t:Int).fmod 4)) mM (mI (p:=.int t) (q:=.int 4) (by walk_at "ev") mM (oq (by decide))) nI) (by rw [e3])
 case b2=>exact mP (mI (p:=.int 3) (q:=.int ((t:Int).fmod 4)) mM (mI (p:=.int t) (q:=.int 4) (by walk_at "ev") mM (oq (by decide))) nI) (by rw [e3])
 have e4:((t:Int).fdiv 2).fmod 4=((t/2 % 4:Nat):Int):=by rw [bX _ (by decide),bM _ (by decide)];exact mu (.E (.e (.d (.k xA) 2) 4) (.k (.e (.d xA 2) 4))) [_]
 refine uL (P:=λq=> ∃u,Fl (nt (sw t)) u/\q= .raw u) (Rj (q:=.int 1) (Iv (Gd.sub (m:=1) G (by decide)) (ps:=[.int 4,.int ((t/2 % 4:Nat):Int),.int ((t/2 % 4:Nat):Int)]) (I₀:=λz=>True) (by kernel_rfl) (vy _).e (my mM (my ?c1 (my ?c2 mH))) (I7 (fL _ (by decide))) trivial (λz z z z=>trivial)) mM ?c3) (λq hq=> ?c4)
 case c1=>exact mP (mI (p:=.int ((t:Int).fdiv 2)) (q:=.int 4) (mI (p:=.int t) (q:=.int 2) (by walk_at "ev") mM (oX (by decide) (by decide))) mM (oq (by decide))) (by rw [e4])
 case c2=>exact mP (mI (p:=.int ((t:Int).fdiv 2)) (q:=.int 4) (mI (p:=.int t) (q:=.int 2) (by walk_at "ev") mM (oX (by decide) (by decide))) mM (oq (by decide))) (by rw [e4])
 case c3=>
  rintro p ⟨u,hq,mq,hf,rfl⟩
  exact ⟨.raw u,⟨u,hf,rfl⟩,rH (by exact mu (.L xJ xI) [] []) rfl (by exact mu (.B xI xS) [])⟩
 case c4=>
  refine mQ hq ?_;clear hq;intro u hf T0;obtain rfl:=T0
  rw [ht] at hb
  exact hb u hf
end
abbrev En:=Nat×Nat×List Nat
noncomputable def sO:List Nat:=[97,98,99,100,65,66,67,68]
noncomputable def xt (c:Nat):Nat:=if c<97 then c+32 else c
noncomputable def zi (c:Nat):Nat:=if c<97 then c+32 else c - 32
def n8 (e:En):List Nat×List Nat:=(m6 e.1 e.2.1,mR e.2.2)
def MB (e:En):Prop:=e.1<=6/\e.2.1∈sO/\e.2.2≠[]/\e.2.2.length<=5/\ ∀x∈e.2.2,x<128
def zl (e:En):Nat:=xt e.2.1
def II (es:List En):Prop:=es.length<=4/\(∀e∈es,MB e)/\es.Pairwise λa b=>zl a≠zl b
theorem ry: ∀k<7,∀c∈sO,oG (m6 k c)=m6 k (xt c)/\oG (m6 k (zi c))=m6 k (xt c)/\Txt.swapcase (S (m6 k c))=S (m6 k (zi c))/\gy (Txt.lower (S (m6 k c))).length=false/\gy (Txt.swapcase (S (m6 k c))).length=false/\zi c∈sO/\c∈zd/\
  (∀x∈m6 k (xt c),vr ai x=ai):=by decide+kernel
theorem zL (hk:k<7) (hc:c∈sO):yZ (m6 k c):=by
 refine LQ (ry k hk c hc) λh1 h2 h3 h4 h5 h6 h7 h8=> ?_
 refine ⟨?_,?_,?_,h4⟩
 ·rw [m6,af,a8];exact (mu (.i (.b xA (.c 7)) (.l (.a xA xI) xP)) [_]) hk
 ·exact h1▸h8
 ·rw [h1,m6,af,a8];exact (mu (.i (.b xA (.c 7)) (.l (.a xA xI) xQ)) [_]) hk
theorem y3 (h:m6 k c=m6 k' c'):k=k'/\c=c':=by
 have h2:=congrArg List.getLast? h
 have h1:=congrArg bj h
 rw [m6,m6,kY,kY] at h2
 rw [m6,m6,af,af,a8,a8] at h1
 exact ⟨by simpa using h1,by simpa using h2⟩
theorem EV {α:Type} {f:α->Nat}: ∀{es:List α},es.Pairwise (λa b=>f a≠f b)-> ∀a∈es,∀b∈es,f a=f b->a=b
 |[],_,_,h,_,_,_=>nomatch h
 |e::es,hp,a,ha,b,hb,h=>by
  obtain ⟨h1,h2⟩:=dU.mp hp
  rcases ao.mp ha with q|ha2
  ·rcases ao.mp hb with q2|hb2
   ·rw [q,q2]
   ·exact absurd (q▸h) (h1 b hb2)
  ·rcases ao.mp hb with q2|hb2
   ·exact absurd (q2▸h).symm (h1 a ha2)
   ·exact EV h2 a ha2 b hb2 h
theorem K7 {α:Type} {p:α->Bool} {l:List α} {e:α} (he:e∈l) (hp:p e=ai) (hu: ∀x∈l,p x=ai->x=e):l[l.findIdx p]? =aa e:=by
 have Um:l.findIdx p<l.length:=List.findIdx_lt_length_of_exists ⟨e,he,hp⟩
 rw [aA Um,hu _ (dm Um) (la (w:=Um))]
theorem Mi (h:II es) (he:e∈es):wY (es.map n8) (m6 e.1 (zi e.2.1))= .str (S (mR e.2.2)):=by
 refine rN h λz hok hpw=> ?_
 have o:=hok e he
 have f:=ry e.1 (by have:=o.1;exact (mu (.i (.l xA (.c 6)) (.b xA (.c 7))) [_]) this) e.2.1 o.2.1
 have Uz:(es.map n8)[(es.map n8).findIdx λq=>oG q.1==oG (m6 e.1 (zi e.2.1))]? =aa (n8 e):=by
  refine K7 (List.mem_map_of_mem he) ?_ λx hx hp=> ?_
  ·show (oG (m6 e.1 e.2.1)==_)=ai
   exact f.1▸f.2.1▸(beq_self_eq_true _)
  ·obtain ⟨e',he',rfl⟩:=aK.mp hx
   have o':=hok e' he'
   have f':=ry e'.1 (by have:=o'.1;exact (mu (.i (.l xA (.c 6)) (.b xA (.c 7))) [_]) this) e'.2.1 o'.2.1
   have hp:(oG (m6 e'.1 e'.2.1)==oG (m6 e.1 (zi e.2.1)))=ai:=hp
   rw [f'.1,f.2.1] at hp
   have:=(y3 (gC hp)).2
   rw [EV hpw e' he' e he this]
 unfold wY
 rw [Uz];rfl
noncomputable def oA:Nat->List Nat->List Nat
 |_,[]=>[]
 |a,x::t=>(x+a) % 128::oA ((x+a) % 128) t
noncomputable def pK:Nat->List Nat->Nat
 |a,[]=>a
 |a,x::t=>pK ((x+a) % 128) t
theorem Bn: ∀(t:List Nat) (a x:Nat),oA a (t++[x])=oA a t++[(x+pK a t) % 128]
 |[],_,_=>rfl
 |y::t,a,x=>by show _::oA _ (t++[x])=_;rw [Bn t];rfl
theorem yK: ∀(t:List Nat) (a x:Nat),pK a (t++[x])=(x+pK a t) % 128
 |[],_,_=>rfl
 |y::t,a,x=>yK t _ x
theorem zI: ∀(t:List Nat) {a:Nat},a<128->pK a t<128
 |[],_,h=>h
 |y::t,a,_=>zI t (fL _ (by decide))
theorem sU: ∀(t:List Nat) (a:Nat),(oA a t).length=t.length
 |[],_=>rfl
 |y::t,a=>by show _+1=_+1;rw [sU t]
theorem AR: ∀(t:List Nat) (a:Nat),∀x∈oA a t,x<128
 |[],_,_,h=>nomatch h
 |y::t,a,x,h=>by
  rcases ao.mp h with rfl|h
  ·exact fL _ (by decide)
  ·exact AR t _ x h
theorem CX {l:List Nat} (h:l[i]? =aa x):l.take (i+1)=l.take i++[x]:=by
 refine eE (aT.mp h) λhi e=> ?_
 rw [dH hi,e]
noncomputable def oW:Nat->List En->List En
 |_,[]=>[]
 |a,(k,c,r)::t=>(if r.dropLast=[] then [] else [(k,c,oA a r.dropLast)])++oW (pK a r.dropLast) t
noncomputable def pG:Nat->List En->Nat
 |a,[]=>a
 |a,(_,_,r)::t=>pG (pK a r.dropLast) t
def r5 (e:En):List Nat×List Nat:=(m6 e.1 e.2.1,ph (128+e.2.2.getLast?.getD 0))
theorem ye: ∀(t:List En) (a:Nat) (e:En),oW a (t++[e])=oW a t++(if e.2.2.dropLast=[] then [] else [(e.1,e.2.1,oA (pG a t) e.2.2.dropLast)])
 |[],a,(k,c,r)=>by show _++[]=[]++_;rw [bK];rfl
 |(k,c,r)::t,a,e=>by
  show _++oW _ (t++[e])=_
  rw [ye t,<-aJ];rfl
theorem w5: ∀(t:List En) (a:Nat) (e:En),pG a (t++[e])=pK (pG a t) e.2.2.dropLast
 |[],_,_=>rfl
 |(k,c,r)::t,a,e=>w5 t _ e
theorem zg: ∀(t:List En) {a:Nat},a<128->pG a t<128
 |[],_,h=>h
 |(k,c,r)::t,a,h=>zg t (zI _ h)
end
local macro_rules | `(tactic| walk_at $s:str) => q0q "has=Cy|Ap.refl !|Ap.skip ! ?kr ?has|xv ?lk ?has" s
section
open PySem.Calls PyProof.Rows PySem.Builtin.Str
def Nl:List ef:=FE (ni rE 5)
noncomputable def Pt (s:ef):Expr:=match s with|.For _ i _ _ _=>i|_=>.Constant .none 0 ⟨0,0,0,0⟩
theorem AZ (l:List α):qX l az (aa (-1))=l.dropLast:=by
 rw [show (-1:Int)= -((1:Nat):Int) from rfl,Br l 1 (aN _),List.dropLast_eq_take]
section
variable {w:av} {A:aX} {g g' g2:aW} {L D:aF} {is U1:List aF} {σ:mW} {Λ:List (aF×List PV)}
abbrev cI (A:aX) (g:aW) (L D:aF) (is:List aF) (g':aW) (U1:List aF) (g2:aW):Sc:=((cH A g L D is g').addX U1).at g2
set_option maxHeartbeats 1000000 in
theorem Mq (G:Gd w 5 (cI A g L D is g' U1 g2)) {a t h:Nat} (hr: ∀x∈r,x<128) (hl:r.length<=5) (ha:a<128) (hu:Fl (nt (sw t)) u) (hκ:Ap κ LS)
  (hb:mS ms w (cI A g L D is g' U1 g2).env (cI A g L D is g' U1 g2).A (In (cI A g L D is g' U1 g2) (("signs",.str (S (mR (oA a r.dropLast))))::("ahead",.int (pK a r.dropLast:Nat))::("text",.str (S (mR r)))::("value",.raw u)::("share",.fx (nt (qu t)))::("hand",.int ((0:Int)+h))::κ) Λ) b J):
  mS ms w (cI A g L D is g' U1 g2).env (cI A g L D is g' U1 g2).A (In (cI A g L D is g' U1 g2) (("signs",.str (S (mR [])))::("ahead",.int (a:Nat))::("text",.str (S (mR r)))::("value",.raw u)::("share",.fx (nt (qu t)))::("hand",.int ((0:Int)+h))::κ) Λ) (ni Nl 3::b) J:=by
 have hz:=aw
 have Ud:(mR r).length<=bn:=by have e:(mR r).length=r.length:=ah ..;exact (mu (.i (.l xC xN) (.i (.e xB xL) (.i (.e xA xC) (.l xA xB)))) [_,_,_]) hl hz e
 refine rK G (l:=r.dropLast) (V:=λx=>.str (S [128+x])) (bs:=λx=>[("sign",.str (S [128+x]))])
  (λi=>("signs",.str (S (mR (oA a (r.dropLast.take i)))))::("ahead",.int (pK a (r.dropLast.take i):Nat))::("text",.str (S (mR r)))::("value",.raw u)::("share",.fx (nt (qu t)))::("hand",.int ((0:Int)+h))::κ) (λz=>Λ) ?h1 ?h2 rfl (λz z z=>nO) ?h4 ?h5
 case h1=>
  have e:(S (mR r.dropLast)).cps.toList.map (λk=>PV.str ⟨#[k]⟩)=r.dropLast.map λx=>PV.str (S [128+x]):=by
   rw [mR,aB];rfl
  rw [<-e]
  have hv:Ev ms w (fs (cI A g L D is g' U1 g2) (("signs",.str (S (mR [])))::("ahead",.int (a:Nat))::("text",.str (S (mR r)))::("value",.raw u)::("share",.fx (nt (qu t)))::("hand",.int ((0:Int)+h))::κ) Λ) (Pt (ni Nl 3)) (.str (S (mR r.dropLast))):=by
   have e2:qX (mR r) az (aa (-1))=mR r.dropLast:=by rw [AZ,mR,mR,mr]
   rw [<-e2]
   refine qw (l:=mR r) (lo:=az) (hi:=aa (-1)) (nu (by walk_at "lk")) rJ (nW ?x1) Ud
   case x1=>exact rW mM oB
  exact Pb hv G.room.1
 case h2=>rfl
 case h4=>
  intro i x g3 is3 hx G3
  have Wv:x<128:=hr x (List.dropLast_subset r (br hx))
  have hA:=zI (r.dropLast.take i) ha
  have hT:wG ((x:Nat):Int) ((pK a (r.dropLast.take i):Nat):Int) (((0:Int)+h).fmod 2) (nt (qu t)) (nt (sw t))=aa (((x+pK a (r.dropLast.take i)) % 128:Nat):Int):=NR (q:=(qu t,sw t)) (FY t) Wv hA
  refine mK (p:=.int (pK a (r.dropLast.take (i+1)):Nat)) (mP (oE (Gd.sub (m:=3) G3 (by decide)) (ps:=[.int (x:Nat),.int (pK a (r.dropLast.take i):Nat),.int (((0:Int)+h).fmod 2),.fx (nt (qu t)),.fx (nt (sw t))]) (by kernel_rfl) (NE _).e
   (my ?e1 (my ?e2 (my ?e3 (my ?e4 (my ?e5 mH))))) (FZ (by exact mu (.L xJ (.k xA)) [_]) (by exact (mu (.i (.b xA xR) (.B (.k xA) xR)) [_]) Wv) (by exact mu (.L xJ (.k xA)) [_]) (by exact (mu (.i (.b xA xR) (.B (.k xA) xR)) [_]) hA) hT)) (by rw [CX hx,yK])) ?_
  case e1=>
   refine mP (mI (p:=.int ((128+x:Nat):Int)) (q:=.int 128) (n9 G3 (ps:=[.str (S [128+x])]) (by kernel_rfl) (by kernel_rfl) (my ?_ mH) Hw) mM nI) (by congr 1;exact mu (.E (.s (.k (.a xR xA)) xR) (.k xA)) [_])
   walk_at "ev"
  case e2=>walk_at "ev"
  case e3=>exact mI (p:=.int ((0:Int)+h)) (q:=.int 2) (by walk_at "ev") mM (oq (by decide))
  case e4=>walk_at "ev"
  case e5=>exact qU (v:=u) (by walk_at "ev") (λg=>hu.rep g)
  refine mK (p:=.str (S (mR (oA a (r.dropLast.take (i+1)))))) (mP (mI (p:=.str (S (mR (oA a (r.dropLast.take i))))) (q:=.str (S [128+pK a (r.dropLast.take (i+1))])) ?f1 ?f2 (ou ?f3)) ?f4) ?_
  case f1=>walk_at "ev"
  case f2=>
   have hB:pK a (r.dropLast.take (i+1))<128:=zI _ ha
   refine n9 G3 (ps:=[.int ((128+pK a (r.dropLast.take (i+1)):Nat):Int)]) (by kernel_rfl) (by kernel_rfl) (my (mP (mI (p:=.int 128) (q:=.int (pK a (r.dropLast.take (i+1)):Nat)) mM ?_ nV) (by congr 1)) mH) (Ck (by exact (mu (.i (.b xA xR) (.l (.a xR xA) (.c 1114111))) [_]) hB))
   walk_at "ev"
  case f3=>
   rw [mR,ah,sU]
   have:=iH i r.dropLast
   have:=fV (xs:=r)
   have:(r.dropLast.take i).length<=r.dropLast.length:=iq _ _
   exact (mu (.i (.l xC xN) (.i (.e xB xL) (.i (.e xD (.s xC xI)) (.i (.l xA xD) (.l (.a xA xI) xB))))) [_,_,_,_]) hl hz (by assumption) this
  case f4=>rw [CX hx,Bn,yK,mR,mR,bh];rfl
  exact qK (by walk_at "has")
 case h5=>
  exact (bF (aN _))▸hb
end
end
local macro_rules | `(tactic| walk_at $s:str) => q0q "lk=BD|!|Cw ?kr ?lk" s
section
open PySem.Calls PyProof.Rows PySem.Builtin.Str
theorem O7: ∀n<256,(ph n).length<=100/\ ∀c∈ph n,vr false c=ai:=by decide+kernel
theorem Je (h:r.getLast? =aa y):(mR r).getLast? =aa (128+y):=by
 rw [mR,gB,h];rfl
theorem Dw (es:List En):(es.map n8).length=es.length:=ah ..
theorem wS: ∀(es:List En) (a:Nat),(oW a es).length<=es.length
 |[],_=>aN _
 |(k,c,r)::t,a=>by
  have:=wS t (pK a r.dropLast)
  show (_++_:List En).length<=t.length+1
  rw [af]
  have:(if r.dropLast=[] then [] else [(k,c,oA a r.dropLast)]:List En).length<=1:=by split<;>simp
  exact (mu (.i (.l xB xC) (.i (.l xA xI) (.l (.a xA xB) (.a xC xI)))) [_,_,_]) (by assumption) this
section
variable {w:av} {A:aX} {g g':aW} {L D:aF} {is:List aF} {σ:mW} {Λ:List (aF×List PV)}
theorem CG (hk:pA.scope.names.lookup x=aa .cell) (hb:(bu (L+1) pA.scope.names []).lookup x=aa b):n7 (cV A g L D) x b:=
 have h:n7 (mU pA 333 A [] [] g L) x b:=ve rfl hk hb
 ⟨h.kind,h.at',.tail _ h.own,h.only⟩
theorem n7.loop (h:n7 c x b):n7 ((c.addX is).at g') x b:=⟨h.kind,h.at',h.own,h.only⟩
theorem n7.addX (h:n7 c x b):n7 (c.addX is) x b:=⟨h.kind,h.at',h.own,h.only⟩
set_option maxHeartbeats 2000000 in
theorem Mx (G:Gd w 5 (cH A g L D is g')) {t h:Nat} (he:II es) (Vv:sl.length<=100) (hu:Fl (nt (sw t)) u) (hκ:Ap κ LN) (hs:κ.lookup ("struck":Str)=aa (.inst D))
  (hb:mS ms w (cH A g L D is g').env (cH A g L D is g').A (In (cH A g L D is g') (("left",.list (hp ((oW 0 es).map n8)))::("ahead",.int (pG 0 es:Nat))::("value",.raw u)::("share",.fx (nt (qu t)))::("hand",.int ((0:Int)+h))::("book",.hdr (hp (es.map n8)))::κ) [(D,hp (sl++es.map r5))]) b J):
  mS ms w (cH A g L D is g').env (cH A g L D is g').A (In (cH A g L D is g') (("left",.list [])::("ahead",.int 0)::("value",.raw u)::("share",.fx (nt (qu t)))::("hand",.int ((0:Int)+h))::("book",.hdr (hp (es.map n8)))::κ) [(D,hp sl)]) (ni rE 5::b) J:=by
 have hz:=aw
 have Ud:=he.1
 refine rK G (l:=es) (V:=λe=>.str (S (m6 e.1 e.2.1))) (bs:=λe=>[("name",.str (S (m6 e.1 e.2.1)))])
  (λi=>("left",.list (hp ((oW 0 (es.take i)).map n8)))::("ahead",.int (pG 0 (es.take i):Nat))::("value",.raw u)::("share",.fx (nt (qu t)))::("hand",.int ((0:Int)+h))::("book",.hdr (hp (es.map n8)))::κ)
  (λi=>[(D,hp (sl++(es.take i).map r5))]) ?h1 ?h2 ?h3 ?h4 ?h5 ?h6
 case h1=>
  refine qD (mP (xb (Gd.sub (m:=1) G (by decide)) (tw (l:=es.map n8) (nu (by walk_at "lk"))) (C6 (by rw [Dw];exact (mu (.i (.l xA xK) (.l xA xQ)) [_]) Ud)) (by kernel_rfl) (HM _).e (by kernel_rfl) (by kernel_rfl)) ?x) G.room.1 (.inl ⟨_,_,rfl⟩) (λb hb=>ax _ hb)
  case x=>rw [aB];rfl
 case h2=>rfl
 case h3=>show [(D,hp (sl++[]))]=_;rw [bK]
 case h4=>exact λe is z=>nO (.inr ⟨L+9,n7.addX (n7.loop (CG (by rfl) (by rfl)))⟩)
 case h5=>
  rintro i ⟨k,c,r⟩ g2 U1 hx G2
  have hmem:=br hx
  have o:=he.2.1 _ hmem
  refine NH o λo1 o2 o3 o4 o5=> ?_
  have o1:k<=6:=o1
  have o2:c∈sO:=o2
  have o3:r≠[]:=o3
  have o4:r.length<=5:=o4
  have o5: ∀x∈r,x<128:=o5
  have f:=ry k (by exact (mu (.i (.l xA (.c 6)) (.b xA (.c 7))) [_]) (by assumption)) c o2
  have V6:=Mi he hmem
  have hA:=zg (es.take i) (a:=0) (by decide)
  obtain ⟨y,hy⟩: ∃y,r.getLast? =aa y:=⟨_,c7 o3⟩
  have hy5:y<128:=o5 y (List.mem_of_getLast? hy)
  have Xo:es.take (i+1)=es.take i++[(k,c,r)]:=by
   refine eE (aT.mp hx) λhi e=> ?_
   rw [dH hi,e]
  refine mK (p:=.str (S (mR r))) (mP (By (Gd.sub (m:=2) G2 (by decide)) (l:=es.map n8) (tw (nu (by walk_at "lk"))) (Eg (nm:=m6 k (zi c)) (by rw [Dw];exact (mu (.i (.l xA xK) (.l xA xQ)) [_]) Ud) (zL (by exact (mu (.i (.l xA (.c 6)) (.b xA (.c 7))) [_]) (by assumption)) f.2.2.2.2.2.1) ?g1) (by kernel_rfl) (Ic _).e (by kernel_rfl) (by kernel_rfl)
   (my (qT (p:=.str (S (m6 k c))) (T:="str") (by walk_at "ev") oh F.plainAttrs_str F.slot_str_swapcase F.type_str_swapcase (qv (v8 f.2.2.2.2.1) (by rw [f.2.2.1]))) mH) yg) V6) ?_
  case g1=>
   intro q hq
   obtain ⟨e,he2,rfl⟩:=aK.mp hq
   have:=he.2.1 e he2
   exact zL (by have:=this.1;exact (mu (.i (.l xA (.c 6)) (.b xA (.c 7))) [_]) this) this.2.1
  refine MJ (Gd.sub (m:=3) G2 (by decide)) (l:=sl++(es.take i).map r5) (nm:=m6 k c) (vl:=ph (128+y)) (nu (by walk_at "lk")) (nu (by walk_at "lk")) (oE (Gd.sub (m:=1) G2 (by decide)) (ps:=[.str (S [128+y])]) (by kernel_rfl) (Px _).e (my (nj (p:=.str (S (mR r))) (q:=.int (-1)) ?q1 (rW mM oB) (tK (Je hy))) mH) (IA (by exact (mu (.i (.b xA xR) (.b (.a xR xA) (.c 256))) [_]) hy5))) ?q2 ?q3 (O7 _ (by exact (mu (.i (.b xA xR) (.b (.a xR xA) (.c 256))) [_]) hy5)) (λz h=>nomatch h) ?_
  case q1=>walk_at "ev"
  case q2=>
   rw [af,ah]
   have:=iH i es
   have:=iq i es
   exact (mu (.i (.l xA xP) (.i (.l xC xK) (.i (.l xB xC) (.l (.a xA xB) xQ)))) [_,_,_]) Vv Ud this
  case q3=>
   refine ⟨?_,λx hx=>zA x (AO f.2.2.2.2.2.2.1 x hx)⟩
   rw [m6,af,a8];exact (mu (.i (.l xA (.c 6)) (.l (.a xA xI) xP)) [_]) (by assumption)
  refine mK (p:=.str (S (mR []))) (m5 (by kernel_rfl)) ?_
  have a1:Ap κ ("book"::"name"::"left"::["sign","signs","ahead","text","value","share","hand"]):=hκ.mono (by decide+kernel)
  have a4:Ap (("left",.list (hp ((oW 0 (es.take i)).map n8)))::("name",.str (S (m6 k c)))::("book",.hdr (hp (es.map n8)))::κ) ["sign","signs","ahead","text","value","share","hand"]:=((a1.cons (by decide+kernel)).cons (by decide+kernel)).cons (by decide+kernel)
  refine o0 (σ':=("signs",.str (S (mR [])))::("ahead",.int (pG 0 (es.take i):Nat))::("text",.str (S (mR r)))::("value",.raw u)::("share",.fx (nt (qu t)))::("hand",.int ((0:Int)+h))::("left",.list (hp ((oW 0 (es.take i)).map n8)))::("name",.str (S (m6 k c)))::("book",.hdr (hp (es.map n8)))::κ) (by clear a4;walk_at "has") ?_
  refine Mq G2 o5 o4 hA hu (hκ:=a4) ?_
  have UB:(hp (sl++(es.take i).map r5++[(m6 k c,ph (128+y))]))=hp (sl++(es.take (i+1)).map r5):=by
   rw [Xo,bh,aJ]
   have:r5 (k,c,r)=(m6 k c,ph (128+y)):=by show (_,ph (128+r.getLast?.getD 0))=_;rw [hy];rfl
   rw [eY,this]
  refine m7 (d:=(mR (oA (pG 0 (es.take i)) r.dropLast)!=[])) (mX (p:=.str (S (mR (oA (pG 0 (es.take i)) r.dropLast)))) (q:=.str (S [])) ?t1 (m5 (by kernel_rfl)) t7) (λhd=> ?yes) (λhd=> ?no)
  case t1=>walk_at "ev"
  case yes=>
   have Uj:r.dropLast≠[]:=λe=>by rw [e] at hd;exact o8 hd
   have el:oW 0 (es.take (i+1))=oW 0 (es.take i)++[(k,c,oA (pG 0 (es.take i)) r.dropLast)]:=by rw [Xo,ye];rw [if_neg Uj]
   have ea:pG 0 (es.take (i+1))=pK (pG 0 (es.take i)) r.dropLast:=by rw [Xo,w5]
   rw [el,ea]
   refine mK (p:=.list (hp ((oW 0 (es.take i)++[(k,c,oA (pG 0 (es.take i)) r.dropLast)]).map n8))) (mP (mI (p:=.list (hp ((oW 0 (es.take i)).map n8))) (q:=.list [.tup [.str (S (m6 k c)),.str (S (mR (oA (pG 0 (es.take i)) r.dropLast)))]]) ?l1 (pW (my (ot (my ?l2 (my ?l3 mH)) (by simp;exact (mu (.i (.e xA xL) (.l xM xA)) [_]) hz)) mH) (by simp;exact (mu (.i (.e xA xL) (.l xI xA)) [_]) hz)) (pL ?l4)) ?l5) ?_
   case l1=>walk_at "ev"
   case l2=>walk_at "ev"
   case l3=>walk_at "ev"
   case l4=>
    have:=wS (es.take i) 0
    have:=iq i es
    unfold hp
    rw [ah,ah];exact (mu (.i (.e xB xL) (.i (.l xC xK) (.i (.l xA xD) (.i (.l xD xC) (.l (.a xA xI) xB))))) [_,_,_,_]) hz Ud (by assumption) this
   case l5=>rw [bh];unfold hp;rw [bh];rfl
   exact sn (by clear a1 a4;walk_at "has") (by rw [UB])
  case no=>
   have Uj:r.dropLast=[]:=by
    have h1:mR (oA (pG 0 (es.take i)) r.dropLast)=[]:=by simpa using hd
    have h2:=congrArg bj h1
    rw [mR,ah,sU] at h2
    exact cC h2
   have el:oW 0 (es.take (i+1))=oW 0 (es.take i):=by rw [Xo,ye];rw [if_pos Uj,bK]
   have ea:pG 0 (es.take (i+1))=pK (pG 0 (es.take i)) r.dropLast:=by rw [Xo,w5]
   rw [el,ea]
   exact sn (by clear a1 a4;walk_at "has") (by rw [UB])
 case h6=>exact (bF (aN _))▸hb
end
theorem Ci (s sub:Str) (hi Vp:Nat): ∀(l:List Nat) (st:Array Nat×Nat),st.1.size<=Vp->(iB l st (lO s sub hi Vp)).run.fst.size<=Vp
 |[],st,h=>h
 |a::l,st,h=>by
  simp only [cD]
  unfold lO
  split
  ·rename_i q
   exact Ci s sub hi Vp l _ (by simp;exact (mu (.i (.b xA xB) (.l (.a xA xI) xB)) [_,_]) q.1.1.1)
  ·exact Ci s sub hi Vp l _ h
theorem y6 (s sub:Str) (n:Nat):(js s (gk s sub 0 s.length n) sub.length).length<=n+1:=by
 have h:(gk s sub 0 s.length n).length<=n:=by
  rw [mh]
  exact Ci s sub s.length n _ (#[],0) (cx _)
 unfold js
 simp
 omega
theorem Qj (h:oS q):(vY q).length<=21:=by
 have:=h.n1
 have:=h.v1
 unfold vY
 rw [af,af,tf]
 exact (mu (.i (.l xA (.c 7)) (.i (.l xB xK) (.l (.a (.a xA xM) (.m 3 xB)) (.c 21)))) [_,_]) (by assumption) this
theorem vO {α:Type} {f:α->List Nat}: ∀{l:List α},(∀a∈l,(f a).length<=k)->(l.flatMap f).length<=k*l.length
 |[],_=>aN _
 |a::l,h=>by
  have ih:=vO (l:=l) λx hx=>h x (.tail _ hx)
  have:=h a (.head _)
  rw [bg,af,aU,jG]
  exact (mu (.i (.l xB xC) (.i (.l xA xD) (.l (.a xA xB) (.a xC (.r xD 1))))) [_,_,_,_]) ih this
section
variable {l:HP}
theorem L5 (h: ∀q∈l,oS q) (hl:l.length<=4):((oy l).flatMap nR).length<=94:=by
 rw [yO h,pM,af]
 have:=vO (f:=λx:List Nat=>x++[13,10]) (k:=23) (l:=l.map vY) (λx hx=>by
  refine mQ (aK.mp hx) λq hq T0=> ?_;obtain rfl:=T0
  have:=Qj (h q hq)
  rw [af];exact (mu (.i (.l xA (.c 21)) (.l (.a xA xM) (.c 23))) [_]) this)
 rw [ah] at this
 exact (mu (.i (.l xB xK) (.i (.l xA (.m 23 xB)) (.l (.a xA xM) (.c 94)))) [_,_]) hl this
theorem Ph (h: ∀q∈l,oS q) (hl:l.length<=4):(oy l).length<=62:=by
 rw [vJ,pM,af]
 have:=vO (f:=λx:List Nat=>x++[13,10]) (k:=15) (l:=l.map λq:List Nat×List Nat=>q.1++58::32::q.2) (λx hx=>by
  refine mQ (aK.mp hx) λq hq T0=> ?_;obtain rfl:=T0
  have:=(h q hq).n1
  have:=(h q hq).v1
  rw [af,af];exact (mu (.i (.l xA (.c 7)) (.i (.l xB xK) (.l (.a (.a xA (.a (.a xB xI) xI)) xM) (.c 15)))) [_,_]) (by assumption) this)
 rw [ah] at this
 exact (mu (.i (.l xB xK) (.i (.l xA (.m 15 xB)) (.l (.a xA xM) (.c 62)))) [_,_]) hl this
theorem Kf (h: ∀q∈l,oS q): ∀c∈oy l,c<256:=by
 rw [vJ]
 intro c hc
 obtain ⟨x,hx,hc⟩:=cT.mp hc
 rcases ar.mp hc with hc|hc
 ·rcases ar.mp hx with hx|hx
  ·obtain ⟨q,hq,rfl⟩:=aK.mp hx
   rcases ar.mp hc with hc|hc
   ·exact (y9 c ((h q hq).n3 c hc)).2.2.2
   ·rcases ao.mp hc with rfl|hc
    ·decide
    ·rcases ao.mp hc with rfl|hc
     ·decide
     ·exact ((h q hq).v3 c hc).2
  ·rw [ak.mp hx] at hc;cases hc
 ·exact (by decide: ∀c∈[13,10],c<256) c hc
theorem Qx:oy l≠[]:=by
 rw [vJ,pM];simp
theorem wX (h: ∀q∈l,oS q) (hl:l.length<=4) (hw:4<=w):(pH w l).length<=95/\(pH w l).flatten.length<=190:=by
 have e:=vX w ((oy l).flatMap nR) hw ((Txt.lines (S ((oy l).flatMap nR))).length)
 rw [bF (aN _)] at e
 have e2:=CH h w
 unfold pU at e2
 rw [e2] at e
 have:=L5 h hl
 exact (mu (.i (.l xA (.a xC xI)) (.i (.l xB (.m 2 (.a xC xI))) (.i (.l xC (.c 94)) (.a (.l xA (.c 95)) (.l xB (.c 190)))))) [_,_,_]) e.1 e.2 this
theorem EY (b:List Nat) (ls:List (List Nat)):(ls.flatMap (· ++b)).length=ls.flatten.length+ls.length*b.length:=by
 induction ls with
 |nil=>simp
 |cons x ls ih=>rw [bg,af,ih,cu,af,af,aU,iy];exact mu (.e (.a (.a xA xB) (.a xC xD)) (.a (.a xA xC) (.a xD (.m 1 xB)))) [_,_,_,_]
theorem Ep (h: ∀q∈l,oS q) (hl:l.length<=4) (hw:4<=w) (he:Uc.length<=2):(qO w ((oy l).flatMap nR) Uc).length<=400:=by
 rw [A7 h,EY]
 have:=wX h hl hw
 have:=gr this.1 he
 omega
theorem EF (p:List Nat):(dd p).length<=p.length+1:=by
 unfold dd;split<;>simp
theorem Pq (ps:List (List Nat)):(ps.map dd).flatten.length<=ps.flatten.length+ps.length:=by
 induction ps with
 |nil=>simp
 |cons p ps ih=>have:=EF p;simp at ih ⊢;exact (mu (.i (.l xA (.a xC xI)) (.i (.l xB (.a xD xE)) (.l (.a xA xB) (.a (.a xC xD) (.a xE xI))))) [_,_,_,_,_]) this ih
theorem KY (h: ∀q∈l,oS q) (hl:l.length<=4) (hw:12<=w) (he:tc Uc):(um (qO w ((oy l).flatMap nR) Uc)).length<=1000/\um (qO w ((oy l).flatMap nR) Uc)≠[]:=by
 rw [z9 hw h he]
 constructor
 ·rw [EY,ah]
  have:=wX h hl (w:=w) (by exact (mu (.i (.l (.c 12) xA) (.l xK xA)) [_]) hw)
  have:=Pq (pH w l)
  show _+_*2<=_
  omega
 ·unfold pH
  rw [bh,pM];simp
theorem O3 (h: ∀q∈l,oS q):E4 l↔l.length<=100:=by
 refine ⟨λq=>q.1,λq=>⟨q,λp hp=> ?_⟩⟩
 have:=h p hp
 exact ⟨by have:=this.n1;exact (mu (.i (.l xA (.c 7)) (.l xA xP)) [_]) this,by have:=this.v1;exact (mu (.i (.l xA xK) (.l xA xP)) [_]) this⟩
theorem Kj: ∀{ns:List Int},ns≠[]-> ∃M∈ns,∀a∈ns,a<=M
 |[],h=>absurd rfl h
 |[a],_=>⟨a,.head _,λb hb=>by exact (ak.mp hb)▸(mu (.L xA xA) [] [_])⟩
 |a::b::t,_=>by
  refine mQ (Kj (ns:=b::t) (fD _ _)) λM h1 h2=> ?_
  by_cases h:a<=M
  ·refine ⟨M,.tail _ h1,λc hc=> ?_⟩
   rcases ao.mp hc with rfl|hc
   ·exact h
   ·exact h2 c hc
  ·refine ⟨a,.head _,λc hc=> ?_⟩
   rcases ao.mp hc with rfl|hc
   ·exact mu (.L xA xA) [] [_]
   ·have:=h2 c hc;exact (mu (.i (.n (.L xB xC)) (.i (.L xA xC) (.L xA xB))) [] [_,_,_]) h this
end
noncomputable def vb (e:En):En:=(if e.1=0 then 0 else e.1+1,e.2.1,e.2.2)
theorem RO (k:Nat) (hc:c∈sO):dd (m6 k c)=m6 (if k=0 then 0 else k+1) c:=by
 cases k with
 |zero=>
  have:c≠46:=λe=>by rw [e] at hc;exact absurd hc (by decide)
  unfold dd m6;simp [this]
 |succ k=>unfold dd m6;simp [cq]
theorem Gc: ∀j<5,1<=j->qB (.fx (nt j)) (.fx (nt j))=aa (.fx (nt (2*j)))/\nQ (.fx (nt j)) (.fx (nt j))=aa (.fx (fN 0))/\yU (nt (2*j)) (fN 2)=aa (nt j)/\tm (nt j) (nt j)=ai:=by
 intro j h1 h2
 match j,h1,h2 with
 |1,_,_=>exact ⟨by kernel_rfl,by kernel_rfl,by kernel_rfl,by kernel_rfl⟩
 |2,_,_=>exact ⟨by kernel_rfl,by kernel_rfl,by kernel_rfl,by kernel_rfl⟩
 |3,_,_=>exact ⟨by kernel_rfl,by kernel_rfl,by kernel_rfl,by kernel_rfl⟩
 |4,_,_=>exact ⟨by kernel_rfl,by kernel_rfl,by kernel_rfl,by kernel_rfl⟩
theorem Fk (t:Nat):sw t<5/\1<=sw t:=by have:=fL (t/2) (show 4>0 by decide);exact mu (.a (.b (.s xK (.e (.d xA 2) 4)) xN) (.l xI (.s xK (.e (.d xA 2) 4)))) [_]
theorem Rp (h: ∀q∈l,oS q) (h4:l.length<=4):Ey l:=by
 refine ⟨by exact (mu (.i (.l xA xK) (.l xA xP)) [_]) h4,λq hq=>⟨⟨?_,λc hc=>zA c ((h q hq).n3 c hc)⟩,⟨?_,λc hc=> ?_⟩⟩⟩
 ·have:=(h q hq).n1;exact (mu (.i (.l xA (.c 7)) (.l xA xP)) [_]) this
 ·have:=(h q hq).v1;exact (mu (.i (.l xA xK) (.l xA xP)) [_]) this
 ·have:=(h q hq).v3 c hc;exact D4 c this.2 this.1
section
variable {w:av} {A:aX} {g g':aW} {L D:aF} {is:List aF} {σ:mW} {Λ:List (aF×List PV)}
set_option maxHeartbeats 2000000 in
theorem OE (G:Gd w 5 (cH A g L D is g')) (hl: ∀q∈l,oS q) (h4:l.length<=4) (hW:12<=W) (Wu:W<=100) (he:tc Uc)
  (x1:σ.lookup ("left":Str)=aa (.list (hp l))) (x4:σ.lookup ("width":Str)=aa (.int (W:Nat))) (x5:σ.lookup ("eol":Str)=aa (.str (S Uc)))
  (hb:pD ms w (In (cH A g L D is g') (("mail",.str (S (qO W ((oy l).flatMap nR) Uc)))::σ) Λ) (cH A g L D is g').env (cH A g L D is g').A b J):pD ms w (In (cH A g L D is g') σ Λ) (cH A g L D is g').env (cH A g L D is g').A (ni rE 6::b) J:=by
 have hz:=aw
 refine nh (tW he) λz z z z z e2=> ?_
 have hs62:=Ph hl h4
 refine pN (p:=.str (S (qO W ((oy l).flatMap nR) Uc))) (oE (Gd.sub (m:=2) G (by decide)) (ps:=[.str (S (oy l)),.int (W:Nat),.str (S Uc)]) (by kernel_rfl) (CA _).e
  (my (Cn (Gd.sub (m:=3) G (by decide)) (l:=l) (tw (Cf (Gd.sub (m:=3) G (by decide)) (nu x1) (Rp hl h4))) ((O3 hl).mpr (by exact (mu (.i (.l xA xK) (.l xA xP)) [_]) h4))) (my (nu x4) (my (nu x5) mH)))
  (Ef Qx (Kf hl) (by exact (mu (.i (.l xA (.c 62)) (.l xA (.c 300))) [_]) hs62) e2 (by exact (mu (.i (.l (.c 12) xA) (.l xK xA)) [_]) hW) (by exact (mu (.i (.l xA xP) (.l xA xQ)) [_]) Wu) (KF hl))) hb
theorem EA (G:Gd w 5 c) (hl: ∀q∈l,oS q) (h4:l.length<=4) (hW:12<=W) (he:tc Uc)
  (h1:Ev ms w (fs c σ Λ) o (.str (S (qO W ((oy l).flatMap nR) Uc)))) (h2:Ev ms w (fs c σ Λ) e (.str (S Uc)))
  (Up:autoParam (db o "split" c.env (bJ o c.env)=bJ o c.env) XZ) (UR:autoParam (aE [e] c.env=(false,bJ e c.env)::aE [] c.env) XZ) (Uu:autoParam ((ap.endLine==pos.line)=ai) XZ)
  (UZ:autoParam (((fa pos (aE [e] c.env)).all (λx=> !x.1)&&(cM pos (bR [] c.env)).all (λx=>x.1.isSome)&&decide (([e]:List Expr).length+([]:List eV).length+(if ([]:List eV).isEmpty then 0 else 1)<30))=ai) XZ):
  Ev ms w (fs c σ Λ) (.Call (.Attribute o "split" ap) [e] [] pos) (.list ((pH W l++[[]]).map λp=>.str (S p))):=by
 have hz:=aw
 refine nh (tW he) λc0 t0 e0 z z e2=> ?_
 have hm:=Ep hl h4 (w:=W) (by exact (mu (.i (.l (.c 12) xA) (.l xK xA)) [_]) hW) e2
 have hs:Txt.split (S (qO W ((oy l).flatMap nR) Uc)) (S Uc)=(pH W l++[[]]).map S:=I9 hW hl he
 have hp:=y6 (S (qO W ((oy l).flatMap nR) Uc)) (S Uc) ((S (qO W ((oy l).flatMap nR) Uc)).length+1)
 rw [mV,mV] at hp
 refine re (p:=.str (S (qO W ((oy l).flatMap nR) Uc))) (T:="str") h1 oh F.plainAttrs_str F.slot_str_split F.type_str_split (my h2 mH UR) (qv (yW ?a ?b ?c) ?d) Up UZ Uu UR
 case a=>rw [mV,e0];rfl
 case b=>rw [mV];omega
 case c=>rw [mV,mV];omega
 case d=>rw [hs,aB];rfl
set_option maxHeartbeats 4000000 in
theorem J8 (G:Gd w 5 (cH A g L D is g')) (S2:te g') (hl: ∀q∈l,oS q) (h4:l.length<=4) (hW:12<=W) (Wu:W<=100) (he:tc Uc) (ha:a<128) (hu:Fl (nt (sw t)) u)
  (x1:σ.lookup ("mail":Str)=aa (.str (S (qO W ((oy l).flatMap nR) Uc)))) (x2:σ.lookup ("ahead":Str)=aa (.int (a:Nat))) (x3:σ.lookup ("value":Str)=aa (.raw u)) (x4:σ.lookup ("width":Str)=aa (.int (W:Nat))) (x5:σ.lookup ("eol":Str)=aa (.str (S Uc)))
  (hb:pD ms w (In (cH A g L D is g') σ Λ) (cH A g L D is g').env (cH A g L D is g').A b J):pD ms w (In (cH A g L D is g') σ Λ) (cH A g L D is g').env (cH A g L D is g').A (ni rE 7::b) J:=by
 have hz:=aw
 have WN:=wX hl h4 (w:=W) (by exact (mu (.i (.l (.c 12) xA) (.l xK xA)) [_]) hW)
 have hbr:=vD hW hl
 have hns:((pH W l++[[]]).map λp:List Nat=>((p.length:Nat):Int))≠[]:=by simp
 refine mQ (Kj hns) λM hM Vm=> ?_
 have hMW:M<=W:=by
  obtain ⟨p,hp,rfl⟩:=aK.mp hM
  rcases ar.mp hp with hp|hp
  ·have:=(hbr p hp).2.1;exact (mu (.i (.l xA xB) (.L (.k xA) (.k xB))) [_,_]) this
  ·rw [ak.mp hp];exact mu (.L xJ (.k xA)) [_]
 have hd:decide (M>(W:Int))=false:=decide_eq_false (by exact (mu (.i (.L xA (.k xA)) (.n (.B (.k xA) xA))) [_] [_]) hMW)
 refine B4 (Gc (sw t) (Fk t).1 (Fk t).2) λq0 q1 q2 q3=> ?_
 refine Gx (d:=false) (PR ?x ?y) (λh=>by exact o8 h) (λz=>hb)
 case x=>
  refine mX (p:=.int M) (q:=.int (W:Nat)) (n9 G (ps:=[.list (((pH W l++[[]]).map λp:List Nat=>((p.length:Nat):Int)).map PV.int)]) (by kernel_rfl) (by kernel_rfl) (my ?c mH) (Ot G.room.1 hM Vm)) (nu x4) (by exact hd▸za)
  case c=>
   refine .mk λs i=>Ev.run (mP (pJ (l:=pH W l++[[]]) (V:=λp=>.str (S p)) (bs:=λp=>[("line",.str (S p))]) (cl:=[]) [] (λz=>ai) (λp:List Nat=>.int (p.length:Nat))
    ?k1 nJ (λz z z z z=>nO) (λz z z z z z z=>oa) ?k5 ?k6 (λz z=>rfl) (by rfl) trivial (by rfl) (by decide+kernel)) ?k12) s i
   case k1=>exact qD (EA G hl h4 hW he (nu x1) (nu x5)) G.room.1 (.inl ⟨_,_,rfl⟩) (λz h=>nomatch h)
   case k5=>
    intro p C g2 T5 hp _ k hf
    have hO:=G.offX i
    have G1:=Gd.comp G hO k hf rfl
    refine n9 G1 (ps:=[.str (S p)]) (by kernel_rfl) (by kernel_rfl) (my ?_ mH) (qv (uU ?_) (by rw [mV]))
    ·walk_at "ev"
    ·rw [mV]
     rcases ar.mp hp with hp|hp
     ·have:=(hbr p hp).2.1;exact (mu (.i (.l xB xP) (.i (.l xA xB) (.l xA (.c 1000000)))) [_,_]) Wu this
     ·rw [ak.mp hp];decide
   case k6=>rw [af];exact (mu (.i (.e xB xL) (.i (.l xA (.c 95)) (.l (.a xA xI) xB))) [_,_]) hz WN.1
   case k12=>rw [vR,aB];rfl
 case y=>
  refine Pi (b:=ai) (OO (p:=.bool ai) (Iv (Gd.sub (m:=3) G (by decide)) (I₀:=te) (ps:=[.raw u,.fx (po a)]) (by kernel_rfl) (No _).e (my (nu x3) (my ?h mH)) (H1 hu q0 q1 q2 q3) S2 (λz z=>te.keep)) ?t)
  case h=>exact oE (Gd.sub (m:=2) G (by decide)) (ps:=[.int (a:Nat)]) (by kernel_rfl) (DX _).e (my (nu x2) mH) (AG (by exact mu (.L xJ (.k xA)) [_]) (by exact (mu (.i (.b xA xR) (.B (.k xA) xR)) [_]) ha) (Eh ha))
  case t=>exact qt
end
theorem Ri (h: ∀c∈p,c∈zd): ∀c∈dd p,c∈zd:=by
 unfold dd;split
 ·intro c hc
  rcases ao.mp hc with rfl|hc
  ·decide
  ·exact h c hc
 ·exact h
def DI (q:List Nat×List Nat):List Nat×List Nat:=(dd q.1,q.2)
theorem O8 {l:HP} (h: ∀q∈l,oS q) (h4:l.length<=4):Ey (l.map DI):=by
 refine ⟨by rw [ah];exact (mu (.i (.l xA xK) (.l xA xP)) [_]) h4,λq' Xv=> ?_⟩
 refine mQ (aK.mp Xv) λq hq T0=> ?_;obtain rfl:=T0
 have hi:=h q hq
 refine ⟨⟨?_,λc hc=>zA c (Ri hi.n3 c hc)⟩,⟨?_,λc hc=> ?_⟩⟩
 ·have:=hi.n1;have:=EF q.1;exact (mu (.i (.l xB (.c 7)) (.i (.l xA (.a xB xI)) (.l xA xP))) [_,_]) (by assumption) this
 ·have:=hi.v1;exact (mu (.i (.l xA xK) (.l xA xP)) [_]) this
 ·have:=hi.v3 c hc;exact D4 c this.2 this.1
theorem GI (h:oS q):(rk q).length<=14:=by
 have:=h.n1;have:=h.v1;have:=EF q.1
 unfold rk
 rw [af];exact (mu (.i (.l xC (.c 7)) (.i (.l xB xK) (.i (.l xA (.a xC xI)) (.l (.a xA (.a (.a xB xI) xI)) (.c 14))))) [_,_,_]) (by assumption) (by assumption) this
theorem OI {l:HP} (h: ∀q∈l,oS q) (h4:l.length<=4) (hm:mark.length<=2):(jn mark (l.map rk++[[],[]])).length<=66:=by
 rw [ya,af]
 have:=vO (f:=λx:List Nat=>x++mark) (k:=16) (l:=l.map rk) (λx hx=>by
  refine mQ (aK.mp hx) λq hq T0=> ?_;obtain rfl:=T0
  have:=GI (h q hq)
  rw [af];exact (mu (.i (.l xB xM) (.i (.l xA (.c 14)) (.l (.a xA xB) (.c 16)))) [_,_]) hm this)
 rw [ah] at this
 exact (mu (.i (.l xC xK) (.i (.l xB xM) (.i (.l xA (.m 16 xC)) (.l (.a xA xB) (.c 66))))) [_,_,_]) h4 hm this
theorem Oi (h1:e.1<=6) (h2:e.2.1∈sO) (h3:e.2.2≠[]) (h4:e.2.2.length<=4) (h5: ∀x∈e.2.2,x<128):oS (n8 e) where
 n1:=by show (m6 _ _).length<=7;rw [m6,af,a8];show _+1<=_;exact (mu (.i (.l xA (.c 6)) (.l (.a xA xI) (.c 7))) [_]) h1
 n2:=by show m6 _ _≠[];unfold m6;simp
 n3:=AO (ry 0 (by decide) _ h2).2.2.2.2.2.2.1
 v1:=by show (mR _).length<=4;rw [mR,ah];exact h4
 v2:=by show mR _≠[];unfold mR;simpa using h3
 v3:=tX h5
theorem Ax: ∀(es:List En) (a:Nat),(∀e∈es,MB e)-> ∀e∈oW a es,e.1<=6/\e.2.1∈sO/\e.2.2≠[]/\e.2.2.length<=4/\ ∀x∈e.2.2,x<128
 |[],_,_,_,h=>nomatch h
 |(k,c,r)::t,a,hok,e,h=>by
  rcases ar.mp h with h|h
  ·by_cases hr:r.dropLast=[]
   ·rw [if_pos hr] at h;cases h
   ·rw [if_neg hr] at h
    rw [ak.mp h]
    have o:=hok _ (.head _)
    refine ⟨o.1,o.2.1,λq=>hr ?_,?_,AR _ _⟩
    ·have:=congrArg bj q
     rw [sU] at this
     exact cC this
    ·show (oA _ _).length<=4
     rw [sU,fV]
     have:r.length<=5:=o.2.2.2.1
     exact (mu (.i (.l xA xN) (.l (.s xA xI) xK)) [_]) this
  ·exact Ax t _ (λx hx=>hok x (.tail _ hx)) e h
theorem HN (hok: ∀e∈es,MB e):((oW 0 es).map n8).map DI=((oW 0 es).map vb).map n8:=by
 rw [aB,aB]
 refine aV λe he=> ?_
 refine rN (Ax es 0 hok e he) λz h2 z=> ?_
 show (dd (m6 e.1 e.2.1),mR e.2.2)=(m6 _ _,mR e.2.2)
 rw [RO _ h2];rfl
section
variable {w:av} {A:aX} {g g':aW} {L D:aF} {is:List aF} {σ:mW} {Λ:List (aF×List PV)}
set_option maxHeartbeats 4000000 in
theorem IX (G:Gd w 5 (cH A g L D is g')) (hl: ∀q∈l,oS q) (h4:l.length<=4) (hW:12<=W) (Wu:W<=100) (he:tc Uc) (hm:tc mark)
  (x1:σ.lookup ("mail":Str)=aa (.str (S (qO W ((oy l).flatMap nR) Uc)))) (x5:σ.lookup ("mark":Str)=aa (.str (S mark)))
  (hb:mS ms w (cH A g L D is g').env (cH A g L D is g').A (In (cH A g L D is g') (("book",.hdr (hp (l.map DI)))::σ) Λ) b J):mS ms w (cH A g L D is g').env (cH A g L D is g').A (In (cH A g L D is g') σ Λ) (ni rE 8::b) J:=by
 have hz:=aw
 refine nh (tW he) λz z z z z e2=> ?_
 refine nh (tW hm) λc0 t0 e0 z z m2=> ?_
 have hq:=KY hl h4 hW he
 have hM:=Ep hl h4 (w:=W) (by exact (mu (.i (.l (.c 12) xA) (.l xK xA)) [_]) hW) e2
 have hJ:=OI hl h4 m2
 refine mK (p:=.hdr (hp (l.map DI))) (Cf (Gd.sub (m:=3) G (by decide)) (.mk λs i=>Ev.run (mP (pJ (l:=l) (V:=λq=>.str (S (rk q))) (bs:=λq=>[("line",.str (S (rk q)))]) (cl:=[]) [] (λz=>ai) (λq=>.tup [.str (S (dd q.1)),.str (S q.2)])
    ?k1 nJ (λz z z z z=>nO) (λz z z z z z z=>oa) ?k5 (by exact (mu (.i (.l xA xK) (.i (.e xB xL) (.l xA xB))) [_,_]) h4 hz) (λz z=>rfl) (by rfl) trivial (by rfl) (by decide+kernel)) ?k12) s i) (O8 hl h4)) hb (.inr ⟨L+10,n7.loop (CG (by rfl) (by rfl))⟩)
 case k1=>
  refine qD (mP (tn (ps:=(l.map rk++[[],[]]).map λp=>.str (S p)) (lo:=az) (hi:=aa (-2)) ?v rJ (nW (rW mM oB)) ?len) ?e) G.room.1 (.inl ⟨_,_,rfl⟩) (λz h=>nomatch h)
  case len=>rw [ah,af,ah];exact (mu (.i (.l xA xK) (.i (.e xB xL) (.l (.a xA xM) xB))) [_,_]) h4 hz
  case e=>
   rw [show (-2:Int)= -((2:Nat):Int) from rfl,Br _ 2 (by decide),ah,af,ah,bh]
   rw [show l.length+([[],[]]:List (List Nat)).length - 2=((l.map rk).map λp=>PV.str (S p)).length by rw [ah,ah];exact mu (.e (.s (.a xA xM) xM) xA) [_],gm,aB]
   rfl
  case v=>
   have hs:Txt.split (S (jn mark (l.map rk++[[],[]]))) (S mark)=(l.map rk++[[],[]]).map S:=IH hl hm
   have V2:=y6 (S (jn mark (l.map rk++[[],[]]))) (S mark) ((S (jn mark (l.map rk++[[],[]]))).length+1)
   rw [mV,mV] at V2
   have hdec:=Gs hW hl he mark
   refine re (p:=.str (S (jn mark (l.map rk++[[],[]])))) (T:="str") (mP (oE (Gd.sub (m:=2) G (by decide)) (ps:=[.str (S (um (qO W ((oy l).flatMap nR) Uc))),.str (S mark)]) (by kernel_rfl) (B1 _).e
    (my (oE (Gd.sub (m:=1) G (by decide)) (ps:=[.str (S (qO W ((oy l).flatMap nR) Uc))]) (by kernel_rfl) (IY _).e (my (nu x1) mH) (xh hM)) (my (nu x5) mH)) (wZ hq.2 hq.1 m2)) (by rw [hdec])) oh F.plainAttrs_str F.slot_str_split F.type_str_split (my (nu x5) mH) (qv (yW ?a ?b ?c) ?d)
   case a=>rw [mV,e0];rfl
   case b=>rw [mV];exact (mu (.i (.e xB xL) (.i (.l xA (.c 66)) (.l xA xB))) [_,_]) hz hJ
   case c=>rw [mV,mV];exact (mu (.i (.e xB xL) (.i (.l xC (.c 66)) (.i (.l xA (.a (.a xC xI) xI)) (.l xA xB)))) [_,_,_]) hz hJ V2
   case d=>rw [hs,aB];rfl
 case k5=>
  intro q C g2 T5 hp _ k hf
  have hO:=G.offX i
  have G1:=Gd.comp G hO k hf rfl
  have hls:Txt.split (S (rk q)) (S [58,32])=[S (dd q.1),S q.2]:=I6 (hl q hp)
  have V2:=y6 (S (rk q)) (S [58,32]) ((S (rk q)).length+1)
  rw [mV,mV] at V2
  have hi:=GI (hl q hp)
  refine n9 G1 (ps:=[.list [.str (S (dd q.1)),.str (S q.2)]]) (by kernel_rfl) (by kernel_rfl) (my ?t mH) (Jr (by simp)) (.inr ⟨_,rfl⟩)
  case t=>
   refine re (p:=.str (S (rk q))) (T:="str") (by walk_at "ev") oh F.plainAttrs_str F.slot_str_split F.type_str_split (my (p:=.str (S [58,32])) (m5 (by kernel_rfl)) mH) (qv (yW ?a ?b ?c) ?d)
   case a=>rfl
   case b=>rw [mV];exact (mu (.i (.e xB xL) (.i (.l xA (.c 14)) (.l xA xB))) [_,_]) hz hi
   case c=>rw [mV,mV];exact (mu (.i (.e xB xL) (.i (.l xA (.a (.a xC xI) xI)) (.i (.l xC (.c 14)) (.l xA xB)))) [_,_,_]) hz V2 hi
   case d=>rw [hls];rfl
 case k12=>rw [vR];unfold hp;rw [aB];rfl
end
noncomputable def wo (e0:List En):Nat->List En
 |0=>e0
 |i+1=>(oW 0 (wo e0 i)).map vb
noncomputable def zr (e0:List En):Nat->HP
 |0=>[]
 |i+1=>zr e0 i++(wo e0 i).map r5
def z7 (i:Nat) (es:List En):Prop:=es.length<=4/\(∀e∈es,e.1<=2+i/\e.2.1∈sO/\e.2.2≠[]/\e.2.2.length+i<=5/\ ∀x∈e.2.2,x<128)/\es.Pairwise λa b=>zl a≠zl b
theorem z7.ok (h:z7 i es) (hi:i<5):II es:=
 ⟨h.1,λe he=>by have:=h.2.1 e he;exact ⟨by exact (mu (.i (.b xB xN) (.i (.l xA (.a xM xB)) (.l xA (.c 6)))) [_,_]) hi this.1,this.2.1,this.2.2.1,by exact (mu (.i (.l (.a xA xB) xN) (.l xA xN)) [_,_]) this.2.2.2.1,this.2.2.2.2⟩,h.2.2⟩
theorem yT: ∀(es:List En) (a:Nat),∀e∈oW a es,∃e'∈es,∃b,e=(e'.1,e'.2.1,oA b e'.2.2.dropLast)/\e'.2.2.dropLast≠[]
 |[],_,_,h=>nomatch h
 |(k,c,r)::t,a,e,h=>by
  rcases ar.mp h with h|h
  ·by_cases hr:r.dropLast=[]
   ·rw [if_pos hr] at h;cases h
   ·rw [if_neg hr] at h
    exact ⟨_,.head _,a,ak.mp h,hr⟩
  ·refine mQ (yT t _ e h) λe' h1 h2=> ?_
   exact ⟨e',.tail _ h1,h2⟩
theorem Fb: ∀(es:List En) (a:Nat),(es.Pairwise λa b=>zl a≠zl b)->(oW a es).Pairwise λa b=>zl a≠zl b
 |[],_,_=>.nil
 |(k,c,r)::t,a,h=>by
  refine eA (dU.mp h) λh1 h2=> ?_
  have ih:=Fb t (pK a r.dropLast) h2
  show List.Pairwise _ (_++_)
  by_cases hr:r.dropLast=[]
  ·rw [if_pos hr];exact ih
  ·rw [if_neg hr]
   refine dU.mpr ⟨λe he=> ?_,ih⟩
   refine MY (yT t _ e he) λe' m b T0 z=> ?_;obtain rfl:=T0
   exact h1 e' m
theorem z7.next (h:z7 i es):z7 (i+1) ((oW 0 es).map vb):=by
 refine ⟨by rw [ah];exact cg (wS es 0) h.1,λe he=> ?_,?_⟩
 ·refine mQ (aK.mp he) λe1 m1 T0=> ?_;obtain rfl:=T0
  refine MY (yT es 0 e1 m1) λe' m b T0 Uj=> ?_;obtain rfl:=T0
  have o:=h.2.1 e' m
  refine ⟨?_,o.2.1,λq=>Uj ?_,?_,AR _ _⟩
  ·show (if e'.1=0 then 0 else e'.1+1)<=_
   split<;>(first|exact (mu (.i (.l xA (.a xM xB)) (.l (.a xA xI) (.a xM (.a xB xI)))) [_,_]) o.1|exact mu (.l xJ (.a xM (.a xA xI))) [_])
  ·have:=congrArg bj (show oA b e'.2.2.dropLast=[] from q)
   rw [sU] at this
   exact cC this
  ·show (oA _ _).length+_<=5
   rw [sU,fV]
   have:e'.2.2≠[]:=o.2.2.1
   have:0<e'.2.2.length:=dP.mpr this
   exact (mu (.i (.l (.a xA xB) xN) (.i (.b xJ xA) (.l (.a (.s xA xI) (.a xB xI)) xN))) [_,_]) o.2.2.2.1 this
 ·rw [mm];exact Fb es 0 h.2.2
theorem B8 (h:z7 0 e0): ∀i,z7 i (wo e0 i)
 |0=>h
 |i+1=>(B8 h i).next
theorem FH (h:z7 0 e0): ∀i,(zr e0 i).length<=4*i
 |0=>aN _
 |i+1=>by
  have:=FH h i
  have:=(B8 h i).1
  show (zr e0 i++_).length<=_
  rw [af,ah];exact (mu (.i (.l xA (.m 4 xC)) (.i (.l xB xK) (.l (.a xA xB) (.m 4 (.a xC xI))))) [_,_,_]) (by assumption) this
theorem te.hide (a:te h):te (hideAll h [330]):=let ⟨m,n,e⟩:=a;⟨m,n.at' λo e=>sr (by decide) e,e⟩
section
variable {w:av} {A:aX} {g g':aW} {L D:aF} {is:List aF} {σ:mW} {Λ:List (aF×List PV)}
set_option maxHeartbeats 2000000 in
theorem NW (G:Gd w 5 (cH A g L D is g')) (S2:te g') {dr h W:Nat} (he:II es) (Vv:sl.length<=100) (hκ:Ap κ LN) (hs:κ.lookup ("struck":Str)=aa (.inst D)) (hd:κ.lookup ("dress":Str)=aa (.int (dr:Nat)))
  (hE:tc Uc) (hm:tc mark) (hW:12<=W) (Wu:W<=100) (x4:κ.lookup ("width":Str)=aa (.int (W:Nat))) (x5:κ.lookup ("eol":Str)=aa (.str (S Uc))) (x6:κ.lookup ("mark":Str)=aa (.str (S mark))) {J:hG->aW->Prop}:
  mS ms w (cH A g L D is g').env (cH A g L D is g').A (In (cH A g L D is g') (("hand",.int ((0:Int)+h))::("book",.hdr (hp (es.map n8)))::κ) [(D,hp sl)])
   (ni rE 0::ni rE 1::ni rE 2::ni rE 3::ni rE 4::ni rE 5::ni rE 6::ni rE 7::ni rE 8::[])
   (λfl hh=>((fl= .next\/fl= .cont)/\In (cH A g L D is g') (("book",.hdr (hp (((oW 0 es).map vb).map n8)))::κ) [(D,hp (sl++es.map r5))] hh)\/((∃v,fl= .ret v)/\J fl hh)):=by
 have hz:=aw
 refine Oa G (dr:=dr) (h:=h) (by walk_at "lk") (by walk_at "lk") λu hu=> ?_
 generalize ht:dr/69984+h=t at*
 refine pN (p:=.int 0) mM ?_
 refine pN (p:=.list []) (pW mH (cx _)) ?_
 have a1:Ap κ LN:=hκ
 refine KR (I':=In (cH A g L D is g') (("left",.list (hp ((oW 0 es).map n8)))::("ahead",.int (pG 0 es:Nat))::("value",.raw u)::("share",.fx (nt (qu t)))::("hand",.int ((0:Int)+h))::("book",.hdr (hp (es.map n8)))::κ) [(D,hp (sl++es.map r5))])
  (o0 (σ':=("left",.list [])::("ahead",.int 0)::("value",.raw u)::("share",.fx (nt (qu t)))::("hand",.int ((0:Int)+h))::("book",.hdr (hp (es.map n8)))::κ) (by clear a1;walk_at "has") (Mx G he Vv hu hκ hs (sD λg i=>i))) ?_
 have hl: ∀q∈(oW 0 es).map n8,oS q:=λq hq=>by
  obtain ⟨e,m,rfl⟩:=aK.mp hq
  have:=Ax es 0 he.2.1 e m
  exact Oi this.1 this.2.1 this.2.2.1 this.2.2.2.1 this.2.2.2.2
 have h4:((oW 0 es).map n8).length<=4:=by rw [ah];exact cg (wS es 0) he.1
 refine OE G hl h4 hW Wu hE (by walk_at "lk") (by walk_at "lk") (by walk_at "lk") ?_
 refine J8 G S2 hl h4 hW Wu hE (a:=pG 0 es) (t:=t) (zg es (by decide)) hu (by walk_at "lk") (by walk_at "lk") (by walk_at "lk") (by walk_at "lk") (by walk_at "lk") ?_
 refine pD.of (IX G hl h4 hW Wu hE hm (by walk_at "lk") (by walk_at "lk") ?_)
 rw [HN he.2.1]
 exact sn (by clear a1;walk_at "has") rfl
end
section
variable {w:av} {A:aX} {g g':aW} {L D:aF} {is:List aF} {σ:mW} {Λ:List (aF×List PV)}
set_option maxHeartbeats 2000000 in
theorem LV (G:Gd w 5 (cV A g L D)) (S2:te g) {dr H W:Nat} (he:z7 0 e0) (hH:H<=5) (hκ:Ap κ LN) (hs:κ.lookup ("struck":Str)=aa (.inst D)) (hd:κ.lookup ("dress":Str)=aa (.int (dr:Nat)))
  (hE:tc Uc) (hm:tc mark) (hW:12<=W) (Wu:W<=100) (x4:κ.lookup ("width":Str)=aa (.int (W:Nat))) (x5:κ.lookup ("eol":Str)=aa (.str (S Uc))) (x6:κ.lookup ("mark":Str)=aa (.str (S mark)))
  {sz:List Int} (HC:sz[3]? =aa (H:Int)) (x7:κ.lookup ("sizes":Str)=aa (.list (sz.map PV.int)))
  (hb:mS ms w (cV A g L D).env (cV A g L D).A (In (cV A g L D) (("book",.hdr (hp ((wo e0 H).map n8)))::κ) [(D,hp (zr e0 H))]) b J):
  mS ms w (cV A g L D).env (cV A g L D).A (In (cV A g L D) (("book",.hdr (hp (e0.map n8)))::κ) [(D,[])]) (ni ny 13::b) J:=by
 have hz:=aw
 refine vQ G (l:=ag H) (V:=λi:Nat=>.int ((0:Int)+i)) (bs:=λi=>[("hand",.int ((0:Int)+i))]) (λi=>("book",.hdr (hp ((wo e0 i).map n8)))::κ) (λi=>[(D,hp (zr e0 i))]) ?h1 rfl rfl (λa is z=>nO) ?h2 ?h3
 case h1=>
  refine pS G.zero (n:=H) (nj (p:=.list (sz.map PV.int)) (q:=.int 3) (nu (by walk_at "lk")) mM (m4 (by exact mu (.L xJ xO) [] []) ?_ (by exact mu (.B xO xS) []))) (by exact (mu (.i (.l xA xN) (.l xA xQ)) [_]) hH) (by rfl)
  show (sz.map PV.int)[3]? =_
  rw [a7,HC];rfl
 case h2=>
  intro i x g2 U1 hx G2 kg
  have hx':x=i/\i<H:=by
   have:=aT.mp hx
   obtain ⟨h1,h2⟩:=this
   rw [be] at h1
   rw [cU] at h2
   exact ⟨h2.symm,h1⟩
  refine eA hx' ?_;clear hx';intro T0 Um;obtain rfl:=T0
  have S3:te g2:=S2.keep kg
  exact NW G2 S3 ((B8 he x).ok (by exact (mu (.i (.l xB xN) (.i (.b xA xB) (.b xA xN))) [_,_]) hH Um)) (by have:=FH he x;exact (mu (.i (.l xB xN) (.i (.b xC xB) (.i (.l xA (.m 4 xC)) (.l xA xP)))) [_,_,_]) hH Um this) hκ hs hd hE hm hW Wu x4 x5 x6
 case h3=>exact be▸hb
end
noncomputable def sL (rs:Nat->List Nat) (n:Nat):List IL:=(ag n).map λk=>(rs k).map λx:Nat=>(x:Int)
def sy (rs:Nat->List Nat) (n:Nat):IL:=zP (sL rs (n+1))
def vA (rs:Nat->List Nat):PV:=.list ((ag 4).map λn=>il (sy rs n))
theorem Ld (rs:Nat->List Nat):uT rs= .list ((sL rs 4).map il):=by
 unfold uT sL
 rw [aB]
 congr 1
 refine aV λn z=> ?_
 show _=PV.list (eU PV.int (eU _ _))
 rw [aB];rfl
theorem I3 (rs:Nat->List Nat) (h:n<4):(sL rs 4).take (n+1)=sL rs (n+1):=by
 unfold sL
 rw [<-iK,List.take_range,fX (by exact (mu (.i (.b xA xK) (.l (.a xA xI) xK)) [_]) h)]
section
variable {w:av} {A:aX} {g g':aW} {L D:aF} {is:List aF} {σ:mW} {Λ:List (aF×List PV)}
set_option maxHeartbeats 2000000 in
theorem ON (G:Gd w 5 (cV A g L D)) {rs:Nat->List Nat} (Xx: ∀n<4,1<=(rs n).length/\(rs n).length<=5) (hr:σ.lookup ("rows":Str)=aa (uT rs))
  (hb:mS ms w (cV A g L D).env (cV A g L D).A (In (cV A g L D) (("told",vA rs)::σ) Λ) b J):mS ms w (cV A g L D).env (cV A g L D).A (In (cV A g L D) σ Λ) (ni ny 14::b) J:=by
 have Vv:=aw
 refine wp (l:=ag 4) (V:=λk:Nat=>.int ((0:Int)+k)) (bs:=λk=>[("n",.int ((0:Int)+k))]) (cl:=[("rows",L+5)]) [("rows",uT rs)] (λz=>ai) (λn=>il (sy rs n)) ?h1 ?h2 ?h3 ?h4 ?h5 ?ho ?h6 ?h7 ?h8 ?h9 ?h10 ?h11 ?h12
 case h1=>exact pS G.zero (n:=4) mM (by exact mu (.l xK xQ) [] []) (by rfl)
 case h2=>exact nZ nJ hr (.inl rfl) (λz=>rfl) (λz=>.inl rfl)
 case h3=>exact λq C g' T5 z=>nO
 case h4=>exact λq C g' T5 z z z=>oa
 case h5=>
  intro n C g' T5 hn _ k hf hO
  have hn:=aL.mp hn
  have G1:=Gd.comp G hO k hf rfl
  have W7: ∀r∈sL rs (n+1),1<=r.length/\r.length<=5:=λr hr=>by
   refine mQ (aK.mp hr) λk hk T0=> ?_;obtain rfl:=T0
   have hk:=aL.mp hk
   have:=Xx k (by exact (mu (.i (.b xB xK) (.i (.b xA (.a xB xI)) (.b xA xK))) [_,_]) hn hk)
   rw [ah];exact this
  have Ud:(sL rs (n+1)).length=n+1:=by unfold sL;rw [ah,be]
  refine oE (Gd.sub (m:=1) G1 (by decide)) (ps:=[.list ((sL rs (n+1)).map il)]) (by kernel_rfl) (Nt _).e (my (mP (tn (ps:=(sL rs 4).map il) (lo:=az) (hi:=aa ((n+1:Nat):Int)) ?a rJ (nW ?b) ?c) ?d) mH) (JQ (by exact (mu (.i (.e xA (.a xB xI)) (.l xI xA)) [_,_]) Ud) (by exact (mu (.i (.b xB xK) (.i (.e xA (.a xB xI)) (.l xA xK))) [_,_]) hn Ud) (λr hr=>(W7 r hr).2) (λr hr=>(W7 r hr).1))
  case a=>rw [<-Ld];walk_at "ev"
  case b=>
   refine mP (mI (p:=.int ((0:Int)+n)) (q:=.int 1) ?_ mM nV) (by exact congrArg _ (mu (.E (.a (.a xJ (.k xA)) xI) (.k (.a xA xI))) [_]))
   walk_at "ev"
  case c=>rw [ah];unfold sL;rw [ah,be];exact (mu (.i (.e xA xL) (.l xK xA)) [_]) Vv
  case d=>rw [JA,<-iK,I3 rs hn]
 case ho=>exact λh i=>G.offX i
 case h6=>decide
 case h7=>exact λz z=>by kernel_rfl
 case h8=>rfl
 case h9=>exact ⟨by rfl,trivial⟩
 case h10=>rfl
 case h11=>decide+kernel
 case h12=>exact vR▸hb
end
noncomputable def LD:List Str:=["hand","n","place","name","due"]
def qR (sz dt lt:Nat->Nat) (pl:Nat->Nat->Nat) (h n:Nat):HP:=if h<sz n then [(m6 (if dt n=0 then 0 else dt n+h) (lt n),ph (128+pl n h))] else []
def sK (sz dt lt:Nat->Nat) (pl:Nat->Nat->Nat) (i j:Nat):HP:=(ag i).flatMap (λh=>(ag 4).flatMap (qR sz dt lt pl h))++(ag j).flatMap (qR sz dt lt pl i)
theorem Fz (sz dt lt:Nat->Nat) (pl:Nat->Nat->Nat) (i j:Nat):sK sz dt lt pl i (j+1)=sK sz dt lt pl i j++qR sz dt lt pl i j:=by
 unfold sK
 rw [cy (n:=j),bV,<-aJ]
 simp
theorem Dm (sz dt lt:Nat->Nat) (pl:Nat->Nat->Nat) (i:Nat):sK sz dt lt pl (i+1) 0=sK sz dt lt pl i 4:=by
 unfold sK
 rw [cy (n:=i),bV]
 simp
theorem L1 (sz dt lt:Nat->Nat) (pl:Nat->Nat->Nat) (h n:Nat):(qR sz dt lt pl h n).length<=1:=by
 unfold qR;split<;>simp
theorem wK (sz dt lt:Nat->Nat) (pl:Nat->Nat->Nat): ∀i j,j<=4->(sK sz dt lt pl i j).length<=4*i+j
 |0,0,_=>aN _
 |i+1,0,_=>by rw [Dm];exact wK sz dt lt pl i 4 (aN _)
 |i,j+1,h=>by
  rw [Fz,af]
  have:=wK sz dt lt pl i j (by exact (mu (.i (.l (.a xA xI) xK) (.l xA xK)) [_]) h)
  have:=L1 sz dt lt pl i j
  exact (mu (.i (.l xA (.a (.m 4 xC) xD)) (.i (.l xB xI) (.l (.a xA xB) (.a (.m 4 xC) (.a xD xI))))) [_,_,_,_]) (by assumption) this
theorem J0: ∀p<128,∃a b,([56,57,65,66,67,68,69,70]:List Nat)[p/16]? =aa a/\([48,49,50,51,52,53,54,55,56,57,65,66,67,68,69,70]:List Nat)[p % 16]? =aa b/\ph (128+p)=[61]++[a]++[b]:=by
 intro p hp
 have Uz: ∀p<128,([56,57,65,66,67,68,69,70]:List Nat)[p/16]? =aa (pw ((128+p)/16))/\([48,49,50,51,52,53,54,55,56,57,65,66,67,68,69,70]:List Nat)[p % 16]? =aa (pw ((128+p) % 16)):=by decide+kernel
 exact ⟨_,_,(Uz p hp).1,(Uz p hp).2,rfl⟩
section
variable {w:av} {A:aX} {g g' g2:aW} {L D D':aF} {is U1:List aF} {σ:mW} {Λ:List (aF×List PV)}
abbrev cQ (A:aX) (g:aW) (L D D':aF) (is:List aF) (g':aW) (U1:List aF) (g2:aW):Sc:=(((((cV A g L D).addOwn D').addX is).at g').addX U1).at g2
theorem n7.own' (h:n7 c x b):n7 (c.addOwn D') x b:=⟨h.kind,h.at',.tail _ h.own,h.only⟩
def Tj:List ef:=FE (ni (FE (ni ny 16)) 0)
set_option maxHeartbeats 2000000 in
theorem Og (G:Gd w 5 (cQ A g L D D' is g' U1 g2)) {sz dt lt:Nat->Nat} (hn:n<4) (hh:h<5) (VD:dt n<3) (hll:l.length<=100)
  (V2:h<sz n->(sy rs n)[h]? =aa ((pl n h:Nat):Int)/\pl n h<128) (hκ:Ap κ LD) (hD:D≠D')
  (x1:κ.lookup ("sizes":Str)=aa (.list ((ag 4).map λn=>.int (sz n:Nat)))) (x2:κ.lookup ("dots":Str)=aa (.list ((ag 4).map λn=>.int (dt n:Nat)))) (x3:κ.lookup ("letters":Str)=aa (.list ((ag 4).map λn=>.str (S [lt n])))) (x4:κ.lookup ("told":Str)=aa (vA rs)) {J:hG->aW->Prop}:
  mS ms w (cQ A g L D D' is g' U1 g2).env (cQ A g L D D' is g' U1 g2).A (In (cQ A g L D D' is g' U1 g2) (("n",.int ((0:Int)+n))::("hand",.int ((0:Int)+h))::("due",.raw (.ref D'))::κ) [(D',hp l),(D,sl)]) Tj
   (λfl hh=>((fl= .next\/fl= .cont)/\In (cQ A g L D D' is g' U1 g2) (("hand",.int ((0:Int)+h))::("due",.raw (.ref D'))::κ) [(D',hp (l++qR sz dt lt pl h n)),(D,sl)] hh)\/((∃v,fl= .ret v)/\J fl hh)):=by
 have hz:=aw
 have e0:((0:Int)+n).toNat=n:=by exact mu (.e (.t (.a xJ (.k xA))) xA) [_]
 have e1:((0:Int)+h).toNat=h:=by exact mu (.e (.t (.a xJ (.k xA))) xA) [_]
 refine m7 (d:=decide ((0:Int)+h<(sz n:Nat))) (mX (p:=.int ((0:Int)+h)) (q:=.int (sz n:Nat)) ?t1 (nj (p:=.list ((ag 4).map λn=>.int (sz n:Nat))) (q:=.int ((0:Int)+n)) ?t2 ?t3 (m4 (by exact mu (.L xJ (.a xJ (.k xA))) [_]) (by rw [e0];exact oO hn) (by exact (mu (.i (.b xA xK) (.B (.a xJ (.k xA)) xS)) [_]) hn))) rA) (λhd=> ?yes) (λhd=> ?no)
 case t1=>walk_at "ev"
 case t2=>walk_at "ev"
 case t3=>walk_at "ev"
 case no=>
  have Um: ¬h<sz n:=by have:=of_decide_eq_false hd;exact (mu (.i (.n (.B (.a xJ (.k xA)) (.k xB))) (.n (.b xA xB))) [_,_]) this
  have e:l++qR sz dt lt pl h n=l:=by unfold qR;rw [if_neg Um,bK]
  rw [e]
  exact sn (by walk_at "has") rfl
 case yes=>
  have Um:h<sz n:=by have:=of_decide_eq_true hd;exact (mu (.i (.B (.a xJ (.k xA)) (.k xB)) (.b xA xB)) [_,_]) this
  refine eA (V2 Um) λp1 p2=> ?_
  have e:qR sz dt lt pl h n=[(m6 (if dt n=0 then 0 else dt n+h) (lt n),ph (128+pl n h))]:=by unfold qR;rw [if_pos Um]
  rw [e]
  refine mK (p:=.int (pl n h:Nat)) (nj (p:=il (sy rs n)) (q:=.int ((0:Int)+h)) (nj (p:=vA rs) (q:=.int ((0:Int)+n)) ?a1 ?a2 (m4 (by exact mu (.L xJ (.a xJ (.k xA))) [_]) (by rw [e0];exact oO hn) (by exact (mu (.i (.b xA xK) (.B (.a xJ (.k xA)) xS)) [_]) hn))) ?a3 (m4 (by exact mu (.L xJ (.a xJ (.k xA))) [_]) (by rw [e1];show (eU PV.int _)[h]? =_;rw [a7,p1];rfl) (by exact (mu (.i (.b xA xN) (.B (.a xJ (.k xA)) xS)) [_]) hh))) ?_
  case a1=>walk_at "ev"
  case a2=>walk_at "ev"
  case a3=>walk_at "ev"
  have hdot: ∀{σ':mW} {Λ':List (aF×List PV)},aD ("n":Str) σ'=aa (.int ((0:Int)+n))->aD ("dots":Str) σ'=aa (.list ((ag 4).map λn=>.int (dt n:Nat)))-> ∀{p1 p2 p3:Pos},
    Ev ms w (fs (cQ A g L D D' is g' U1 g2) σ' Λ') (.Subscript (.Name "dots" p1) (.Name "n" p2) p3) (.int (dt n:Nat)):=by
   intro σ' Λ' h1 h2 p1 p2 p3
   exact nj (p:=.list ((ag 4).map λn=>.int (dt n:Nat))) (q:=.int ((0:Int)+n)) (nu h2) (nu h1) (m4 (by exact mu (.L xJ (.a xJ (.k xA))) [_]) (by rw [e0];exact oO hn) (by exact (mu (.i (.b xA xK) (.B (.a xJ (.k xA)) xS)) [_]) hn))
  refine mK (p:=.str (S (m6 (if dt n=0 then 0 else dt n+h) (lt n)))) (mP (mI (p:=.str (S (aG (if dt n=0 then 0 else dt n+h) [46]).flatten)) (q:=.str (S [lt n])) (mI (p:=.str (S [46])) (q:=.int ((if dt n=0 then 0 else dt n+h:Nat):Int)) (m5 (by kernel_rfl)) ?b1 (xU (by decide) ?b2)) (nj (p:=.list ((ag 4).map λn=>.str (S [lt n]))) (q:=.int ((0:Int)+n)) ?b3 ?b4 (m4 (by exact mu (.L xJ (.a xJ (.k xA))) [_]) (by rw [e0];exact oO hn) (by exact (mu (.i (.b xA xK) (.B (.a xJ (.k xA)) xS)) [_]) hn))) (ou ?b5)) ?b6) ?rest
   (.inr ⟨L+9,n7.loop (n7.loop (c:=(cV A g L D).addOwn D') (n7.own' (CG (by rfl) (by rfl))))⟩)
  case b1=>
   refine DR (c:=decide ((dt n:Int)>0)) (mX (p:=.int (dt n:Nat)) (q:=.int 0) (hdot (by walk_at "lk") (by walk_at "lk")) mM za) (λhc=> ?y) (λhc=> ?z)
   case y=>
    have:dt n≠0:=by have:=of_decide_eq_true hc;exact (mu (.i (.B xJ (.k xA)) (.n (.e xA xJ))) [_]) this
    rw [if_neg this]
    refine mP (mI (p:=.int (dt n:Nat)) (q:=.int ((0:Int)+h)) (hdot (by walk_at "lk") (by walk_at "lk")) ?_ nV) (by exact congrArg _ (mu (.E (.a (.k xA) (.a xJ (.k xB))) (.k (.a xA xB))) [_,_]))
    walk_at "ev"
   case z=>
    have:dt n=0:=by have:=of_decide_eq_false hc;exact (mu (.i (.n (.B xJ (.k xA))) (.e xA xJ)) [_]) this
    rw [if_pos this];exact mM
  case b2=>split<;>(first|exact (mu (.i (.b xB xN) (.i (.b xA xO) (.l (.a xA xB) xQ))) [_,_]) hh VD|exact mu (.l xJ xQ) [])
  case b3=>walk_at "ev"
  case b4=>walk_at "ev"
  case b5=>
   rw [zt,a8]
   have:(if dt n=0 then 0 else dt n+h)<=10:=by split<;>(first|exact (mu (.i (.b xB xN) (.i (.b xA xO) (.l (.a xA xB) (.c 10)))) [_,_]) hh VD|exact mu (.l xJ (.c 10)) [])
   exact (mu (.i (.e xB xL) (.i (.l xA (.c 10)) (.l (.a xA xI) xB))) [_,_]) hz this
  case b6=>rw [zt];rfl
  case rest=>
   refine ng (J0 (pl n h) p2) λa b q1 q2 q3=> ?_
   have m0:(((pl n h:Nat):Int).fdiv 16).toNat=pl n h/16:=by rw [bX _ (by decide)];exact mu (.e (.t (.d (.k xA) 16)) (.d xA 16)) [_]
   have m1:(((pl n h:Nat):Int).fmod 16).toNat=pl n h % 16:=by rw [bM _ (by decide)];exact mu (.e (.t (.e (.k xA) 16)) (.e xA 16)) [_]
   have m2:0<=((pl n h:Nat):Int).fdiv 16/\((pl n h:Nat):Int).fdiv 16<16:=by rw [bX _ (by decide)];exact (mu (.i (.b xA xR) (.a (.L xJ (.d (.k xA) 16)) (.B (.d (.k xA) 16) (.c 16)))) [_]) p2
   have m3:=qN (a:=((pl n h:Nat):Int)) (m:=16) (by decide)
   refine BN (D:=D') (l:=hp l) (p:=.tup [.str (S (m6 (if dt n=0 then 0 else dt n+h) (lt n))),.str (S (ph (128+pl n h)))]) (by walk_at "lk") (ot (my ?c1 (my (mP (mI (p:=.str (S ([61]++[a]))) (q:=.str (S [b])) (mI (p:=.str (S [61])) (q:=.str (S [a])) (m5 (by kernel_rfl))
    (nj (p:=.str (S [56,57,65,66,67,68,69,70])) (q:=.int (((pl n h:Nat):Int).fdiv 16)) (m5 (by kernel_rfl)) (mI (p:=.int (pl n h:Nat)) (q:=.int 16) ?c2 mM (oX (by decide) (by decide))) (qL m2.1 (by rw [m0];exact q1) (by exact (mu (.i (.B xA (.c 16)) (.B xA xS)) [] [_]) m2.2))) (ou (by exact (mu (.i (.e xA xL) (.l xM xA)) [_]) hz)))
    (nj (p:=.str (S [48,49,50,51,52,53,54,55,56,57,65,66,67,68,69,70])) (q:=.int (((pl n h:Nat):Int).fmod 16)) (m5 (by kernel_rfl)) (mI (p:=.int (pl n h:Nat)) (q:=.int 16) ?c3 mM (oq (by decide))) (qL m3.1 (by rw [m1];exact q2) (by exact (mu (.i (.B xA (.c 16)) (.B xA xS)) [] [_]) m3.2))) (ou (by exact (mu (.i (.e xA xL) (.l xO xA)) [_]) hz))) (by rw [q3])) mH)) (by exact (mu (.i (.e xA xL) (.l xM xA)) [_]) hz)) ?c4 ?c5 ?c6
   case c1=>walk_at "ev"
   case c2=>walk_at "ev"
   case c3=>walk_at "ev"
   case c4=>unfold hp;rw [ah];exact (mu (.i (.l xA xP) (.i (.e xB xL) (.l xA xB))) [_,_]) hll hz
   case c5=>
    intro q hq
    rw [ak.mp hq];exact hD
   case c6=>exact sn (by walk_at "has") (by unfold hp;rw [bh];rfl)
end
theorem AC (h:(ag n)[i]? =aa x):x=i/\i<n:=by
 obtain ⟨h1,h2⟩:=aT.mp h
 rw [be] at h1
 rw [cU] at h2
 exact ⟨h2.symm,h1⟩
section
variable {w:av} {A:aX} {g g' g2:aW} {L D:aF} {is U1:List aF} {σ:mW} {Λ:List (aF×List PV)}
theorem Rw (hk:pA.scope.names.lookup x=aa .cell) (hb:(bu (L+1) pA.scope.names []).lookup x=aa b):n7 ((cV A g L D).addOwn D') x b:=n7.own' (CG hk hb)
set_option maxHeartbeats 2000000 in
theorem Q5 (G:Gd w 5 (cV A g L D)) {sz dt lt:Nat->Nat} {pl:Nat->Nat->Nat} (hH:H<=5) (VD: ∀n<4,dt n<3) (hsz:sz 3=H)
  (V2: ∀n<4,∀h<sz n,(sy rs n)[h]? =aa ((pl n h:Nat):Int)/\pl n h<128) (hκ:Ap κ LD)
  (x1:κ.lookup ("sizes":Str)=aa (.list ((ag 4).map λn=>.int (sz n:Nat)))) (x2:κ.lookup ("dots":Str)=aa (.list ((ag 4).map λn=>.int (dt n:Nat)))) (x3:κ.lookup ("letters":Str)=aa (.list ((ag 4).map λn=>.str (S [lt n])))) (x4:κ.lookup ("told":Str)=aa (vA rs))
  (hb:mS ms w (cV A g L D).env (cV A g L D).A (In (cV A g L D) (("due",.list (hp (sK sz dt lt pl H 0)))::κ) [(D,sl)]) b J):
  mS ms w (cV A g L D).env (cV A g L D).A (In (cV A g L D) κ [(D,sl)]) (ni ny 15::ni ny 16::b) J:=by
 have hz:=aw
 refine w2 λD' hg hX=> ?_
 have hDD:D≠D':=λq=>hX (by exact q▸(ax _ (.head _)))
 have GD:Gd w 5 ((cV A g L D).addOwn D'):=G.addOwn D'
 refine rK (c:=(cV A g L D).addOwn D') GD (l:=ag H) (V:=λi:Nat=>.int ((0:Int)+i)) (bs:=λi=>[("hand",.int ((0:Int)+i))]) (λz=>("due",.raw (.ref D'))::κ) (λi=>[(D',hp (sK sz dt lt pl i 0)),(D,sl)]) ?h1 rfl rfl (λa is z=>nO) ?h2 ?h3
 case h1=>
  refine pS GD.zero (n:=H) (nj (p:=.list ((ag 4).map λn=>.int (sz n:Nat))) (q:=.int 3) (nu (by walk_at "lk")) mM (m4 (by exact mu (.L xJ xO) [] []) ?_ (by exact mu (.B xO xS) []))) (by exact (mu (.i (.l xA xN) (.l xA xQ)) [_]) hH) (by rfl)
  show ((ag 4).map λn=>PV.int (sz n:Nat))[3]? =_
  rw [oO (by decide),hsz]
 case h2=>
  intro h x g2 U1 hx G2
  refine eA (AC hx) λT0 Um=> ?_;obtain rfl:=T0
  refine rK G2 (l:=ag 4) (V:=λi:Nat=>.int ((0:Int)+i)) (bs:=λi=>[("n",.int ((0:Int)+i))]) (λz=>("hand",.int ((0:Int)+x))::("due",.raw (.ref D'))::κ) (λj=>[(D',hp (sK sz dt lt pl x j)),(D,sl)]) ?k1 rfl rfl (λa is z=>nO (.inr ⟨L+4,n7.addX (n7.loop (Rw (by rfl) (by rfl)))⟩)) ?k2 ?k3
  case k1=>exact pS G2.zero (n:=4) mM (by exact mu (.l xK xQ) [] []) (by rfl)
  case k2=>
   intro n y g3 is3 hy G3
   refine eA (AC hy) λT0 Wo=> ?_;obtain rfl:=T0
   rw [Fz]
   exact Og G3 Wo (by exact (mu (.i (.l xB xN) (.i (.b xA xB) (.b xA xN))) [_,_]) hH Um) (VD y Wo) (by have:=wK sz dt lt pl x y (by exact (mu (.i (.b xA xK) (.l xA xK)) [_]) Wo);exact (mu (.i (.l xB xN) (.i (.b xC xB) (.i (.b xD xK) (.i (.l xA (.a (.m 4 xC) xD)) (.l xA xP))))) [_,_,_,_]) hH Um Wo this) (λq=>V2 y Wo x q) hκ hDD x1 x2 x3 x4
  case k3=>
   rw [show (ag 4).length=4 from rfl,Dm]
   exact sn (by walk_at "has") rfl
 case h3=>
  rw [be]
  refine w1 (c:=cV A g L D) "due" BD (λq hq=>by exact (ak.mp hq)▸hDD) hX ?_ (.tail _ (.head _))
  exact o0 (σ':=("due",.list (hp (sK sz dt lt pl H 0)))::κ) (by walk_at "has") hb
end
noncomputable def oo:List Nat:=[61,63,120,63,113,63]
def qZ:List Nat:=61::63::120::113::32::9::xj
noncomputable def lw (c:Nat):Nat:=if 65<=c/\c<=90 then c+32 else c
theorem Qb: ∀c∈qZ,Unicode.lowerOf c=[lw c]/\(c==0x3A3)=false:=by decide+kernel
theorem Kc (h: ∀c∈l,c∈qZ):Txt.lower (S l)=S (l.map lw):=by
 unfold Txt.lower
 rw [placed_single (S l) _ lw]
 ·simp [S]
 ·intro i c hc
  have hc:l[i]? =aa c:=by simpa [S] using hc
  have hm:=Qb c (h c (br hc))
  unfold Unicode.lowerAt
  rw [Kt,hc]
  simp only [hm.2,jP,a9,if_false]
  exact hm.1
theorem CO (Uj:l≠[]) (h:FG l):Txt.lines (S l)=[S l]:=by
 have hs:jH (S l)=[(0,l.length,l.length)]:=by
  rw [StrLaws.ls_eq,mV]
  have:=zu (S l) l.length 0 (#[],0) λi h1 h2=>.inr (by rw [Jh];exact h _ (yu (by exact (mu (.i (.b xA (.a xJ xB)) (.b xA xB)) [_,_]) h2)))
  show jM (S l) (iB (m:=Id) _ _ _).run=_
  rw [this]
  unfold jM
  have hp:0<l.length:=dP.mpr Uj
  rw [mV,if_pos hp];rfl
 have hl:kr (S l)=[S l]:=by
  unfold kr lineCuts
  rw [hs]
  simp only [ba,gW]
  congr 1
  apply iv
  apply dO.mp
  rw [dn,g4,eD]
  have:(S l).cps.toList=l:=by simp [S]
  rw [this]
  exact eI
 unfold Txt.lines
 split
 ·rfl
 ·exact hl
theorem N4 (h:c9 c=false):Txt.rstrip (S (l++[c]++[32,9]))=S (l++[c]):=by
 have s1:c9 32=ai:=by decide+kernel
 have s2:c9 9=ai:=by decide+kernel
 have hhi:stripHi c9 ai (S (l++[c]++[32,9])) 0=(l++[c]).length:=by
  unfold stripHi
  simp [S,h,s1,s2,fJ]
 have hs:lH c9 false ai (S (l++[c]++[32,9]))=false:=by
  unfold lH stripLo
  simp only [a9,if_false,hhi]
  rw [mV];simp
 unfold Txt.rstrip Txt.stripBy
 rw [hs]
 unfold PySem.stripped stripLo
 simp only [a9,if_false,hhi]
 apply iv
 apply dO.mp
 rw [dn,g4,eD]
 have:(S (l++[c]++[32,9])).cps.toList=l++[c]++[32,9]:=by simp [S]
 rw [this,gm]
theorem MF (a b:List Nat):Txt.endswith (S (a++b)) (S b)=ai:=by
 unfold Txt.endswith
 rw [mV,mV,yf,af]
 rw [show a.length+b.length - b.length=a.length by exact mu (.e (.s (.a xA xB) xB) xA) [_,_],List.drop_left,eI]
 simp
theorem FT (h1:[13,10].contains (Ur.getLastD 0)=false) (h2:qP Ur mark=body++mark) (hm:mark≠[]):vi Ur mark=body:=by
 unfold vi
 rw [h2,if_pos ⟨h1,MF _ _⟩,Br _ _ (dP.mpr hm),af,ja,gm]
theorem Ry: ∀c<256,hx (lw (pw (c/16)))=ai/\hx (lw (pw (c % 16)))=ai/\16*oj (lw (pw (c/16)))+oj (lw (pw (c % 16)))=c/\lw (pw (c/16))≠61/\lw (pw (c % 16))≠61:=by decide+kernel
theorem EH (e t:List Nat): ∀v:List Nat,vv v->nG e ((toks v).map lw++t)=v++nG e t
 |[],_=>rfl
 |c::v,h=>by
  have hc:=h c (.head _)
  have k:=Ry c hc.2
  have ih:=EH e t v λx hx=>h x (.tail _ hx)
  rw [sZ]
  show nG e (lw 61::lw (pw (c/16))::lw (pw (c % 16))::((toks v).map lw++t))=_
  rw [show lw 61=61 from rfl,nG,if_pos ⟨rfl,k.1,k.2.1⟩,k.2.2.1,ih];rfl
theorem Dp (e t:List Nat) (h:t≠[]):nG e (oo++t)=oo++nG e t:=by
 show nG e (61::63::120::([63,113,63]++t))=_
 rw [nG,if_neg (λq=>absurd q.2.1 (by decide+kernel))]
 have:=xo e t [63,120,63,113,63] (by decide)
 show 61::nG e ([63,120,63,113,63]++t)=_
 rw [this];rfl
theorem zq (h:vv v): ∀c∈toks v,c∈qZ:=λc hc=>by
 rcases ao.mp (xq h c hc) with rfl|h
 ·exact .head _
 ·exact aM [61,63,120,113,32,9] h
theorem M6: ∀c∈qZ,cG c=(c==9&&false)/\cG (lw c)=false:=by decide+kernel
theorem OA (h:vv v) (hm:tc mark):vi ((oo++toks v++[63]).map lw++[32,9]) mark=oo++v++[63]:=by
 have Uj:mark≠[]:=by rcases hm with rfl|rfl|rfl<;>decide
 have VO: ∀c∈oo++toks v++[63],c∈qZ:=by
  intro c hc
  rcases ar.mp hc with hc|hc
  ·rcases ar.mp hc with hc|hc
   ·exact (by decide: ∀c∈oo,c∈qZ) c hc
   ·exact zq h c hc
  ·exact (by decide: ∀c∈[63],c∈qZ) c hc
 refine FT ?_ ?_ Uj
 ·rw [show ([32,9]:List Nat)=[32]++[9] from rfl,<-aJ,fW];decide
 ·have hb:FG ((oo++toks v++[63]).map lw++[32,9]):=by
   intro c hc
   rcases ar.mp hc with hc|hc
   ·obtain ⟨d,hd,rfl⟩:=aK.mp hc
    exact (M6 d (VO d hd)).2
   ·exact (by decide+kernel: ∀c∈[32,9],cG c=false) c hc
  have e1:(oo++toks v++[63]).map lw=(oo.map lw++(toks v).map lw)++[63]:=by rw [bh,bh];rfl
  unfold qP oP
  rw [CO (by simp) hb,e1,eY,N4 (by decide+kernel),gX]
  have e2:(S (oo.map lw++(toks v).map lw++[63])).cps.toList=oo++((toks v).map lw++[63]):=by simp [S];decide
  rw [e2,Dp _ _ (by simp),EH _ _ _ h]
  show oo++(v++63::mark)=_
  simp
theorem yh: ∀c∈xj,[13,10].contains c=false/\c9 c=false/\c≠61:=by decide+kernel
theorem N1 (h:vv v) (ha:a∈xj) (hm:tc mark):vi (oo++toks v++[61,a]) mark=oo++v++[61,a]:=by
 have Uj:mark≠[]:=by rcases hm with rfl|rfl|rfl<;>decide
 have e0:oo++toks v++[61,a]=(oo++toks v++[61])++[a]:=by simp
 refine FT ?_ ?_ Uj
 ·rw [e0,fW];exact (yh a ha).1
 ·have hb:FG (oo++toks v++[61,a]):=by
   intro c hc
   have VO:c∈qZ:=by
    rcases ar.mp hc with hc|hc
    ·rcases ar.mp hc with hc|hc
     ·exact (by decide: ∀c∈oo,c∈qZ) c hc
     ·exact zq h c hc
    ·rcases ao.mp hc with rfl|hc
     ·exact .head _
     ·rw [ak.mp hc];exact aM [61,63,120,113,32,9] ha
   have:=(M6 c VO).1
   rw [io] at this;exact this
  unfold qP oP
  rw [CO (by simp) hb,e0,eY,xl (yh a ha).2.1,gX]
  have e2:(S (oo++toks v++[61]++[a])).cps.toList=oo++(toks v++[61,a]):=by simp [S]
  rw [e2,Dp _ _ (by simp),wF _ _ _ h]
  have e3:nG mark [61,a]=61::a::mark:=by
   rw [nG,nG,if_neg (yh a ha).2.2]
  rw [e3];simp
theorem N8 (ht: ∀x∈t,x<128) (Uj:t≠[]):DJ ((mR t).map ib) [120]=oo++toks (mR t)++[63,61]:=by
 unfold DJ
 have e1:((mR t).map ib).isEmpty=false:=by cases t with
  |nil=>exact absurd rfl Uj
  |cons x t=>rfl
 rw [e1]
 have Uz: ∀c<256,128<=c->vj c=ph c:=by decide+kernel
 have e2:(((mR t).map ib).map (·.toNat))=mR t:=by
  rw [aB]
  conv=>rhs;rw [<-kU (mR t)]
  refine aV λc hc=> ?_
  have:=tX ht c hc
  show (ib c).toNat=c
  rw [UInt8.toNat_ofNat'];exact (mu (.i (.b xA (.c 256)) (.e (.e xA 256) xA)) [_]) this.2
 rw [e2]
 have e3:(mR t).flatMap vj=toks (mR t):=by
  unfold toks
  rw [cm,cm]
  congr 1
  exact aV λc hc=>by have:=tX ht c hc;exact Uz c this.2 this.1
 rw [e3];rfl
end
section
open PySem.Calls PyProof.Rows PySem.Builtin.Str PySem.SeqAt
def vt (l:List Nat):Prop:= ∀c∈l,c<256
def sd (x:List Nat):ir:=.str (S x)
def td (q:List Nat×List Nat):ir:=.tuple [.str (S q.1),.str (S q.2)]
theorem IN (h:vt x):(sd x).canLay0=ai:=by
 show (S x).cps.all (· <0x110000)=ai
 have e:(S x).cps=x.toArray:=rfl
 rw [e]
 simp only [List.all_toArray,bq,decide_eq_true_eq]
 intro c hc
 have:=h c hc
 exact (mu (.i (.b xA (.c 256)) (.b xA (.c 1114112))) [_]) this
theorem Cc: ∀ls:List (List Nat),wz (ls.map λx=>.str (S x))=aa (ls.map sd)
 |[]=>rfl
 |x::ls=>by
  show (match pd (.str (S x)),wz (ls.map λx=>.str (S x)) with|some d,aa ds=>aa (d::ds)|_,_=>jo)=_
  rw [Cc ls];rfl
theorem GC: ∀l:HP,wz (hp l)=aa (l.map td)
 |[]=>rfl
 |q::l=>by
  show (match pd (.tup [.str (S q.1),.str (S q.2)]),wz (hp l) with|some d,aa ds=>aa (d::ds)|_,_=>jo)=_
  rw [GC l];rfl
theorem B6 {α:Type} {f:α->ir}: ∀{ls:List α},(∀x∈ls,(f x).canLay0=ai)->ly (ls.map f)=ai
 |[],_=>rfl
 |x::ls,h=>by
  show ((f x).canLay0&&ly (ls.map f))=ai
  rw [h x (.head _),B6 λy hy=>h y (.tail _ hy)];rfl
theorem AD {α:Type} {f:α->ir}: ∀{ls:List α},(∀x∈ls,(f x).depth<=k)->fT (ls.map f)<=k
 |[],_=>cx _
 |x::ls,h=>by
  exact Nat.max_le.mpr ⟨h x (.head _),AD λy hy=>h y (.tail _ hy)⟩
theorem zG {α:Type} {f:α->ir} (h: ∀x,da (f x) (f x)=ai): ∀ls:List α,gu (ls.map f) (ls.map f)=ai
 |[]=>by simp [gu]
 |x::ls=>by
  rw [ba,gu,h x,zG h ls];rfl
theorem NA (x:List Nat):da (sd x) (sd x)=ai:=by simp [sd,da]
theorem RG (q:List Nat×List Nat):da (td q) (td q)=ai:=by simp [td,da,gu]
theorem DB (h:d.canLay0=ai) (k:d.depth<=64):shaped d=ai:=by
 unfold shaped;rw [h,decide_eq_true k];rfl
theorem uR {ls:List (List Nat)} (h: ∀x∈ls,vt x):shaped (.list (ls.map sd))=ai:=
 DB (B6 λx hx=>IN (h x hx)) (by
  have:fT (ls.map sd)<=0:=AD λx z=>aN _
  exact (mu (.i (.l xA xJ) (.l (.a xA xI) (.c 64))) [_]) this)
theorem zY {l:HP} (h: ∀q∈l,vt q.1/\vt q.2):shaped (.list (l.map td))=ai:=
 DB (B6 λq hq=>by
  show ((sd q.1).canLay0&&((sd q.2).canLay0&&ai))=ai
  rw [IN (h q hq).1,IN (h q hq).2];rfl) (by
  have:fT (l.map td)<=1:=AD λx z=>by
   show fT [.str (S x.1),.str (S x.2)]+1<=1
   simp [fT,ir.depth]
  exact (mu (.i (.l xA xI) (.l (.a xA xI) (.c 64))) [_]) this)
section
variable {prog:aH} {w:av} {A:aX} {X:List aF}
theorem Hs {ls:List (List Nat)} (hu:A.units+64<fv) (h: ∀x∈ls,vt x):n0 prog w A X (bP .NotEq) (.list (ls.map λx=>.str (S x))) (.list (ls.map λx=>.str (S x))) (.bool false):=by
 have e:pd (.list (ls.map λx=>.str (S x)))=aa (.list (ls.map sd)):=by show (wz _).map _=_;rw [Cc];rfl
 have:=FI (prog:=prog) (w:=w) (X:=X) hu e e (uR h) (uR h)
 have q:da (.list (ls.map sd)) (.list (ls.map sd))=ai:=by rw [da];exact zG NA ls
 rw [q] at this;exact this
theorem Om {ls:List (List Nat)} (hu:A.units+64<fv) (h: ∀x∈ls,vt x):n0 prog w A X (bP .Eq) (.list (ls.map λx=>.str (S x))) (.list (ls.map λx=>.str (S x))) (.bool ai):=by
 have e:pd (.list (ls.map λx=>.str (S x)))=aa (.list (ls.map sd)):=by show (wz _).map _=_;rw [Cc];rfl
 have:=EC (prog:=prog) (w:=w) (X:=X) hu e e (uR h) (uR h)
 have q:da (.list (ls.map sd)) (.list (ls.map sd))=ai:=by rw [da];exact zG NA ls
 rw [q] at this;exact this
theorem Ce (hu:A.units+64<fv) (h: ∀q∈l,vt q.1/\vt q.2):n0 prog w A X (bP .Eq) (.list (hp l)) (.list (hp l)) (.bool ai):=by
 have e:pd (.list (hp l))=aa (.list (l.map td)):=by show (wz _).map _=_;rw [GC];rfl
 have:=EC (prog:=prog) (w:=w) (X:=X) hu e e (zY h) (zY h)
 have q:da (.list (l.map td)) (.list (l.map td))=ai:=by rw [da];exact zG RG l
 rw [q] at this;exact this
end
end
section
open PySem.Calls PyProof.Rows PySem.Builtin.Str
theorem GY {α:Type} (f:Nat->α) (s:Nat): ∀H,((ag H).flatMap λh=>if h<s then [f h] else [])=(ag (min s H)).map f
 |0=>by rw [kL];rfl
 |H+1=>by
  rw [cy,bV,GY f s H]
  by_cases h:H<s
  ·rw [show min s (H+1)=H+1 by exact (mu (.i (.b xB xA) (.e (.n xA (.a xB xI)) (.a xB xI))) [_,_]) h,show min s H=H by exact (mu (.i (.b xB xA) (.e (.n xA xB) xB)) [_,_]) h,cy,bh]
   simp [h]
  ·rw [show min s (H+1)=s by exact (mu (.i (.n (.b xB xA)) (.e (.n xA (.a xB xI)) xA)) [_,_]) h,show min s H=s by exact (mu (.i (.n (.b xB xA)) (.e (.n xA xB) xA)) [_,_]) h]
   simp [h]
theorem Ke {α:Type} (X:List α): ∀n<4,((ag 4).flatMap λm=>if m=n then X else [])=X:=by
 intro n hn
 have:ag 4=[0,1,2,3]:=rfl
 rw [this]
 match n,hn with
 |0,_=>simp
 |1,_=>simp
 |2,_=>simp
 |3,_=>simp
theorem C3 {α:Type} (p:α->Bool): ∀l:List α,l[l.findIdx p]? =(l.filter p).head?
 |[]=>rfl
 |a::l=>by
  rw [List.findIdx_cons]
  cases h:p a with
  |true=>rw [gR h];rfl
  |false=>
   rw [gS (by exact h▸dy)]
   show (a::l)[(List.findIdx p l+1)]? =_
   rw [List.getElem?_cons_succ];exact C3 p l
section
variable {sz dt lt:Nat->Nat} {pl:Nat->Nat->Nat}
structure uz (sz dt lt:Nat->Nat):Prop where
 lets: ∀n<4,lt n∈sO
 keys: ∀n<4,∀m<4,xt (lt n)=xt (lt m)->n=m
 dots: ∀n<4,dt n<3
 some: ∀n<4,1<=sz n/\sz n<=sz 3
 five:sz 3<=5
noncomputable def kk (dt:Nat->Nat) (h n:Nat):Nat:=if dt n=0 then 0 else dt n+h
def qy (sz dt lt:Nat->Nat) (pl:Nat->Nat->Nat):HP:=sK sz dt lt pl (sz 3) 0
theorem zS:qy sz dt lt pl=(ag (sz 3)).flatMap λh=>(ag 4).flatMap (qR sz dt lt pl h):=by
 unfold qy sK;simp
theorem wv (W:uz sz dt lt) (h:q∈qy sz dt lt pl): ∃i<sz 3,∃n<4,i<sz n/\q=(m6 (kk dt i n) (lt n),ph (128+pl n i)):=by
 rw [zS] at h
 refine mQ (cT.mp h) λi hi h=> ?_
 refine mQ (cT.mp h) λn hn h=> ?_
 unfold qR at h
 split at h
 ·rename_i hl
  exact ⟨i,aL.mp hi,n,aL.mp hn,hl,ak.mp h⟩
 ·cases h
theorem Nv (W:uz sz dt lt) (hi:i<sz 3) (hn:n<4):kk dt i n<7:=by
 have:=W.five;have:=W.dots n hn
 unfold kk;split<;>(first|exact (mu (.i (.b xB xC) (.i (.l xC xN) (.i (.b xA xO) (.b (.a xA xB) (.c 7))))) [_,_,_]) hi (by assumption) this|exact mu (.b xJ (.c 7)) [])
theorem PL (W:uz sz dt lt) (hn:n<4) (hm:m<4) (e:lt n=lt m):n=m:=W.keys n hn m hm (by rw [e])
theorem Jz (W:uz sz dt lt) (hn:n<4):(qy sz dt lt pl).filter (λq=>[q.1.getLast?.getD 0]==[lt n])=(ag (sz n)).map λh=>(m6 (kk dt h n) (lt n),ph (128+pl n h)):=by
 have e: ∀h,((ag 4).flatMap (qR sz dt lt pl h)).filter (λq=>[q.1.getLast?.getD 0]==[lt n])=qR sz dt lt pl h n:=by
  intro h
  rw [lF]
  have:(ag 4).flatMap (λm=>(qR sz dt lt pl h m).filter (λq=>[q.1.getLast?.getD 0]==[lt n]))=(ag 4).flatMap (λm=>if m=n then qR sz dt lt pl h n else []):=by
   rw [cm,cm]
   congr 1
   refine aV λm hm=> ?_
   have hm:=aL.mp hm
   by_cases hmn:m=n
   ·subst hmn
    rw [if_pos rfl]
    refine bW.mpr λq hq=> ?_
    unfold qR at hq
    split at hq
    ·rw [ak.mp hq];simp [m6]
    ·cases hq
   ·rw [if_neg hmn]
    refine List.filter_eq_nil_iff.mpr λq hq=> ?_
    unfold qR at hq
    split at hq
    ·rw [ak.mp hq]
     have:lt m≠lt n:=λe=>hmn (PL W hm hn e)
     simpa [m6] using this
    ·cases hq
  rw [this,Ke _ n hn]
 rw [zS,lF]
 have e2:(ag (sz 3)).flatMap (λh=>((ag 4).flatMap (qR sz dt lt pl h)).filter (λq=>[q.1.getLast?.getD 0]==[lt n]))=(ag (sz 3)).flatMap λh=>if h<sz n then [(m6 (kk dt h n) (lt n),ph (128+pl n h))] else []:=by
  rw [cm,cm]
  congr 1
  exact aV λh z=>e h
 rw [e2,GY,fX (W.some n hn).2]
def zo (sz dt lt:Nat->Nat) (pl:Nat->Nat->Nat) (n:Nat):List (List Nat):=((qy sz dt lt pl).filter λq=>q.1==m6 (dt n) (lt n)).map (·.2)
theorem Hb (W:uz sz dt lt) (hn:n<4):(qy sz dt lt pl).filter (λq=>oG q.1==oG (m6 (dt n) (zi (lt n))))=(qy sz dt lt pl).filter λq=>q.1==m6 (dt n) (lt n):=by
 refine List.filter_congr λq hq=> ?_
 refine yJ (wv W hq) λi hi m hm hl T0=> ?_;obtain rfl:=T0
 have f:=ry (kk dt i m) (Nv W hi hm) (lt m) (W.lets m hm)
 have f':=ry (dt n) (by have:=W.dots n hn;exact (mu (.i (.b xA xO) (.b xA (.c 7))) [_]) this) (lt n) (W.lets n hn)
 show (oG (m6 (kk dt i m) (lt m))==oG (m6 (dt n) (zi (lt n))))=(m6 (kk dt i m) (lt m)==m6 (dt n) (lt n))
 rw [f.1,f'.2.1]
 rw [dE,beq_iff_eq,beq_iff_eq]
 constructor
 ·intro e
  obtain ⟨e1,e2⟩:=y3 e
  have:=W.keys m hm n hn e2
  subst this;rw [e1]
 ·intro e
  obtain ⟨e1,e2⟩:=y3 e
  rw [e1,e2]
theorem Jd (W:uz sz dt lt) (hn:n<4): ∃o r,zo sz dt lt pl n=o::r:=by
 have hs:=W.some n hn
 have h3:0<sz 3:=by exact (mu (.i (.l xI xB) (.i (.l xB xA) (.b xJ xA))) [_,_]) hs.1 hs.2
 have hm:(m6 (dt n) (lt n),ph (128+pl n 0))∈(qy sz dt lt pl).filter λq=>q.1==m6 (dt n) (lt n):=by
  refine eW.mpr ⟨?_,by simp⟩
  rw [zS]
  refine cT.mpr ⟨0,aL.mpr h3,cT.mpr ⟨n,aL.mpr hn,?_⟩⟩
  unfold qR
  rw [if_pos (by exact (mu (.i (.l xI xA) (.b xJ xA)) [_]) hs.1)]
  have:(if dt n=0 then 0 else dt n+0)=dt n:=by split<;>(first|exact (mu (.i (.e xA xJ) (.e xJ xA)) [_]) (by assumption)|exact mu (.e (.a xA xJ) xA) [_])
  rw [this];exact .head _
 unfold zo
 cases h:(qy sz dt lt pl).filter λq=>q.1==m6 (dt n) (lt n) with
 |nil=>rw [h] at hm;cases hm
 |cons q r=>exact ⟨_,_,rfl⟩
theorem OQ (W:uz sz dt lt) (hn:n<4) (e:zo sz dt lt pl n=o::r):wY (qy sz dt lt pl) (m6 (dt n) (zi (lt n)))= .str (S o):=by
 unfold wY
 rw [C3,Hb W hn]
 unfold zo at e
 cases h:(qy sz dt lt pl).filter λq=>q.1==m6 (dt n) (lt n) with
 |nil=>rw [h] at e;cases e
 |cons q t=>rw [h] at e;cases e;rfl
theorem NS:(t.map λx=>ph (128+x)).flatten=toks (mR t):=by
 unfold toks mR
 rw [cm,aB];rfl
theorem Qg (hc:c∈sO):vt (m6 k c):=λd hd=>by
 rcases ar.mp hd with h|h
 ·rw [(dW.mp h).2];decide
 ·rw [ak.mp h]
  exact (by decide: ∀c∈sO,c<256) c hc
theorem Oy (hc:c<256):vt (ph c):=(by decide+kernel: ∀c<256,∀d∈ph c,d<256) c hc
theorem FL (W:uz sz dt lt) (hp: ∀n<4,∀h<sz n,pl n h<128): ∀q∈qy sz dt lt pl,vt q.1/\vt q.2:=λq hq=>by
 refine yJ (wv W hq) λi hi m hm hl T0=> ?_;obtain rfl:=T0
 exact ⟨Qg (W.lets m hm),Oy (by have:=hp m hm i hl;exact (mu (.i (.b xA xR) (.b (.a xR xA) (.c 256))) [_]) this)⟩
theorem OX (W:uz sz dt lt): ∀q∈qy sz dt lt pl,yZ q.1:=λq hq=>by
 refine yJ (wv W hq) λi hi m hm hl T0=> ?_;obtain rfl:=T0
 exact zL (Nv W hi hm) (W.lets m hm)
theorem Fa (W:uz sz dt lt):(qy sz dt lt pl).length<=20:=by
 have:=wK sz dt lt pl (sz 3) 0 (by decide)
 have:=W.five
 show (sK sz dt lt pl (sz 3) 0).length<=20;exact (mu (.i (.l xA (.a (.m 4 xB) xJ)) (.i (.l xB xN) (.l xA (.c 20)))) [_,_]) (by assumption) this
end
def vW:List ef:=FE (ni ny 17)
section
variable {w:av} {A:aX} {g g':aW} {L D:aF} {is:List aF} {σ:mW} {Λ:List (aF×List PV)} {b:List ef} {J:hG->aW->Prop}
theorem RV (G:Gd w 5 (cH A g L D is g')) {dt lt:Nat->Nat} (hn:n<4) (VD:dt n<3) (x0:σ.lookup ("n":Str)=aa (.int ((0:Int)+n))) (x2:σ.lookup ("dots":Str)=aa (.list ((ag 4).map λn=>.int (dt n:Nat)))) (x3:σ.lookup ("letters":Str)=aa (.list ((ag 4).map λn=>.str (S [lt n]))))
  (hb:mS ms w (cH A g L D is g').env (cH A g L D is g').A (In (cH A g L D is g') (("name",.str (S (m6 (dt n) (lt n))))::σ) Λ) b J):mS ms w (cH A g L D is g').env (cH A g L D is g').A (In (cH A g L D is g') σ Λ) (ni vW 0::b) J:=by
 have hz:=aw
 have e0:((0:Int)+n).toNat=n:=by exact mu (.e (.t (.a xJ (.k xA))) xA) [_]
 refine mK (p:=.str (S (m6 (dt n) (lt n)))) (mP (mI (p:=.str (S (aG (dt n) [46]).flatten)) (q:=.str (S [lt n])) (mI (p:=.str (S [46])) (q:=.int (dt n:Nat)) (m5 (by kernel_rfl)) (nj (p:=.list ((ag 4).map λn=>.int (dt n:Nat))) (q:=.int ((0:Int)+n)) (nu x2) (nu x0) (m4 (by exact mu (.L xJ (.a xJ (.k xA))) [_]) (by rw [e0];exact oO hn) (by exact (mu (.i (.b xA xK) (.B (.a xJ (.k xA)) xS)) [_]) hn))) (xU (by decide) (by exact (mu (.i (.b xA xO) (.l xA xQ)) [_]) VD)))
   (nj (p:=.list ((ag 4).map λn=>.str (S [lt n]))) (q:=.int ((0:Int)+n)) (nu x3) (nu x0) (m4 (by exact mu (.L xJ (.a xJ (.k xA))) [_]) (by rw [e0];exact oO hn) (by exact (mu (.i (.b xA xK) (.B (.a xJ (.k xA)) xS)) [_]) hn))) (ou ?a5)) ?a6) hb (.inr ⟨L+9,n7.loop (CG (by rfl) (by rfl))⟩)
 case a5=>rw [zt,a8];exact (mu (.i (.b xA xO) (.i (.e xB xL) (.l (.a xA xI) xB))) [_,_]) VD hz
 case a6=>rw [zt];rfl
set_option maxHeartbeats 1000000 in
theorem RT (G:Gd w 5 (cH A g L D is g')) {Q:HP} (hl:Q.length<=100) (x0:σ.lookup ("name":Str)=aa (.str (S nm))) (x1:σ.lookup ("due":Str)=aa (.list (hp Q)))
  (hb:mS ms w (cH A g L D is g').env (cH A g L D is g').A (In (cH A g L D is g') (("own",.list (((Q.filter λq=>q.1==nm).map (·.2)).map λx=>.str (S x)))::σ) Λ) b J):mS ms w (cH A g L D is g').env (cH A g L D is g').A (In (cH A g L D is g') σ Λ) (ni vW 1::b) J:=by
 have hz:=aw
 refine wp (l:=Q) (V:=λq=>.tup [.str (S q.1),.str (S q.2)]) (bs:=λq=>[("text",.str (S q.2)),("one",.str (S q.1))]) (cl:=[("name",L+9)]) [("name",.str (S nm))] (λq=>q.1==nm) (λq=>.str (S q.2)) ?h1 ?h2 ?h3 ?h4 ?h5 ?ho ?h6 ?h7 ?h8 ?h9 ?h10 ?h11 ?h12
 case h1=>
  refine qD (nu x1) G.room.1 (.inr ⟨⟨_,_,_,rfl⟩,λp hp=> ?_⟩) (λz h=>nomatch h)
  obtain ⟨q,_,rfl⟩:=aK.mp hp
  exact ⟨_,rfl⟩
 case h2=>exact nZ nJ x0 (.inl rfl) (λz=>rfl) (λz=>.inl rfl)
 case h3=>exact λq C g' T5 z=>qS G.room.1
 case h4=>
  intro q C g' T5 _ _ _
  refine zj (mX (p:=.str (S q.1)) (q:=.str (S nm)) ?_ ?_ sY)
  ·walk_at "ev"
  ·walk_at "ev"
 case h5=>
  intro q C g' T5 _ _ _ _ _
  walk_at "ev"
 case ho=>exact λh i=>G.offX i
 case h6=>exact (mu (.i (.l xA xP) (.i (.e xB xL) (.l xA xB))) [_,_]) hl hz
 case h7=>exact λz z=>by kernel_rfl
 case h8=>rfl
 case h9=>exact ⟨by rfl,trivial⟩
 case h10=>rfl
 case h11=>decide+kernel
 case h12=>
  have e:((Q.filter λq=>q.1==nm).map λq=>PV.str (S q.2))=((Q.filter λq=>q.1==nm).map (·.2)).map λx=>PV.str (S x):=by rw [aB];rfl
  exact e▸hb
set_option maxHeartbeats 1000000 in
theorem R2 (G:Gd w 5 (cH A g L D is g')) {Q:HP} (hl:Q.length<=100) (XF:Txt.swapcase (S nm)=S nm') (VM:gy (Txt.swapcase (S nm)).length=false) (XA:yZ nm') (hQ: ∀q∈Q,yZ q.1) (how:ow=o::r) (h9: ∀x∈ow,vt x) (Xl:ow.length<=100)
  (V6:wY Q nm'= .str (S o)) (Xf:(Q.filter λq=>oG q.1==oG nm').map (·.2)=ow) (hΛ:(D,hp Q)∈Λ) (x0:σ.lookup ("name":Str)=aa (.str (S nm))) (x1:σ.lookup ("own":Str)=aa (.list (ow.map λx=>.str (S x)))) (x2:σ.lookup ("struck":Str)=aa (.inst D))
  (hb:mS ms w (cH A g L D is g').env (cH A g L D is g').A (In (cH A g L D is g') σ Λ) b J):mS ms w (cH A g L D is g').env (cH A g L D is g').A (In (cH A g L D is g') σ Λ) (ni vW 2::b) J:=by
 have hz:=aw
 have hu:(cH A g L D is g').A.units+64<fv:=by have:=G.room.2.2;exact (mu (.i (.b (.a (.a xA (.m 10 xN)) xP) xB) (.b (.a xA (.c 64)) xB)) [_,_]) this
 refine m7 (d:=false) (mX (p:=.list ((o::ow).map λx=>.str (S x))) (q:=.list ((o::ow).map λx=>.str (S x))) ?l ?r (Hs hu ?h9)) (λh=>by exact o8 h) (λy=>hb)
 case h9=>
  intro x hx
  rcases ao.mp hx with rfl|hx
  ·exact h9 _ (by exact how▸(.head _))
  ·exact h9 x hx
 case l=>
  refine mI (p:=.list [.str (S o)]) (q:=.list (ow.map λx=>.str (S x))) (pW (my (mP (By (Gd.sub (m:=2) G (by decide)) (l:=Q) (sI (nu x2) hΛ) (Eg (nm:=nm') (by exact (mu (.i (.l xA xP) (.l xA xQ)) [_]) hl) XA hQ) (by kernel_rfl) (Ic _).e (by kernel_rfl) (by kernel_rfl)
   (my (qT (p:=.str (S nm)) (T:="str") (nu x0) oh F.plainAttrs_str F.slot_str_swapcase F.type_str_swapcase (qv (v8 VM) (by rw [XF]))) mH) yg) V6) mH) (by exact (mu (.i (.e xA xL) (.l xI xA)) [_]) hz))
   (mP (By (Gd.sub (m:=2) G (by decide)) (l:=Q) (sI (nu x2) hΛ) (Gq (nm:=nm') (by exact (mu (.i (.l xA xP) (.l xA xQ)) [_]) hl) XA hQ) (by kernel_rfl) (MX _).e (by kernel_rfl) (by kernel_rfl)
   (my (qT (p:=.str (S nm)) (T:="str") (nu x0) oh F.plainAttrs_str F.slot_str_swapcase F.type_str_swapcase (qv (v8 VM) (by rw [XF]))) mH) yg) ?e) (pL ?z)
  case e=>rw [<-Xf,aB];rfl
  case z=>rw [ah];exact (mu (.i (.l xA xP) (.i (.e xB xL) (.l (.a xI xA) xB))) [_,_]) Xl hz
 case r=>
  have e:qX (ow.map λx=>PV.str (S x)) az (aa ((1:Nat):Int))=[.str (S o)]:=by rw [JA,how];rfl
  refine mI (p:=.list [.str (S o)]) (q:=.list (ow.map λx=>.str (S x))) (mP (tn (ps:=ow.map λx=>.str (S x)) (lo:=az) (hi:=aa ((1:Nat):Int)) (nu x1) rJ (nW mM) (by rw [ah];exact (mu (.i (.l xA xP) (.i (.e xB xL) (.l xA xB))) [_,_]) Xl hz)) (by rw [e])) (nu x1) (pL (by rw [ah];exact (mu (.i (.l xA xP) (.i (.e xB xL) (.l (.a xI xA) xB))) [_,_]) Xl hz))
theorem Sf (G:Gd w 5 (cH A g L D is g')) {n:Nat} (ht: ∀x∈t,x<128) (h5:t.length<=5) (x0:σ.lookup ("n":Str)=aa (.int ((0:Int)+n))) (x1:σ.lookup ("told":Str)=aa (.list tv)) (XG:tv[n]? =aa (.list (t.map λx:Nat=>PV.int x))) (hn:n<4)
  (hb:mS ms w (cH A g L D is g').env (cH A g L D is g').A (In (cH A g L D is g') (("octets",.str (S (mR t)))::σ) Λ) b J):mS ms w (cH A g L D is g').env (cH A g L D is g').A (In (cH A g L D is g') σ Λ) (ni vW 3::b) J:=by
 have hz:=aw
 have e0:((0:Int)+n).toNat=n:=by exact mu (.e (.t (.a xJ (.k xA))) xA) [_]
 refine mK (p:=.str (S (mR t))) (Hy (Gd.sub (m:=1) G (by decide)) ?b1 ht (by exact (mu (.i (.l xA xN) (.l xA xP)) [_]) h5) ?b2 ?b3 ?b4 ?b5 ?b6 ?b7 ?b8 ?b9 ?b10 ?b11 ?b12 ?b13 ?b14) hb
 case b1=>exact nj (p:=.list tv) (q:=.int ((0:Int)+n)) (nu x1) (nu x0) (m4 (by exact mu (.L xJ (.a xJ (.k xA))) [_]) (by rw [e0];exact XG) (by exact (mu (.i (.b xA xK) (.B (.a xJ (.k xA)) xS)) [_]) hn))
 case b2=>exact λh i=>G.offX i
 case b3=>rfl
 case b4=>rfl
 case b5=>decide+kernel
 case b6=>exact λz z z=>.inl (by rfl)
 case b7=>exact λz z z=>by rfl
 case b8=>exact λz z z=>by rfl
 case b9=>exact λz=>by rfl
 case b10=>rfl
 case b11=>exact λz z z=>by rfl
 case b12=>rfl
 case b13=>rfl
 case b14=>rfl
end
theorem Kb: ∀ls:List (List Nat),jn [] ls=ls.flatten
 |[]=>rfl
 |[x]=>by simp [jn]
 |x::y::r=>by rw [jn,Kb (y::r)];simp
def pq (t:List Nat):List Nat:=oo++toks (mR t)++[63,61]
theorem Be (h5:t.length<=5):(pq t).length<=23:=by
 unfold pq
 rw [af,af,tf,mR,ah]
 exact (mu (.i (.l xA xN) (.l (.a (.a (.c 6) (.m 3 xA)) xM) (.c 23))) [_]) h5
section
variable {w:av} {A:aX} {g g':aW} {L D:aF} {is:List aF} {σ:mW} {Λ:List (aF×List PV)} {b:List ef} {J:hG->aW->Prop}
set_option maxHeartbeats 1000000 in
theorem RF (G:Gd w 5 (cH A g L D is g')) {n:Nat} (ht: ∀x∈t,x<128) (h5:t.length<=5) (Uj:t≠[]) (x0:σ.lookup ("n":Str)=aa (.int ((0:Int)+n))) (x1:σ.lookup ("told":Str)=aa (.list tv)) (XG:tv[n]? =aa (.list (t.map λx:Nat=>PV.int x))) (hn:n<4)
  (hb:mS ms w (cH A g L D is g').env (cH A g L D is g').A (In (cH A g L D is g') (("coded",.str (S (pq t)))::σ) Λ) b J):mS ms w (cH A g L D is g').env (cH A g L D is g').A (In (cH A g L D is g') σ Λ) (ni vW 4::b) J:=by
 have hz:=aw
 have e0:((0:Int)+n).toNat=n:=by exact mu (.e (.t (.a xJ (.k xA))) xA) [_]
 have hob:=tX ht
 refine mK (p:=.str (S (pq t))) (mP (oE (Gd.sub (m:=1) G (by decide)) (ps:=[.bytes ((mR t).map ib).toArray,.str (S [120])]) (by kernel_rfl) (I2 _).e (my (mP (n9 G (ps:=[.list (((mR t).map λx:Nat=>(x:Int)).map .int)]) (by kernel_rfl) (by kernel_rfl) (my ?c mH) (Kp ?r ?z G.room.1) (.inr ⟨_,rfl⟩)) ?e) (my (m5 (by kernel_rfl)) mH)) (Ki ?h1 ?h2 (by decide))) ?h3) hb
 case r=>
  intro m hm
  refine mQ (aK.mp hm) λc hc T0=> ?_;obtain rfl:=T0
  have:=hob c hc;exact (mu (.i (.b xA (.c 256)) (.a (.L xJ (.k xA)) (.B (.k xA) (.c 256)))) [_]) this.2
 case z=>rw [ah,mR,ah];exact (mu (.i (.l xA xN) (.l xA xQ)) [_]) h5
 case h1=>intro q;apply Uj;have:=congrArg bj q;rw [ah,mR,ah] at this;exact cC this
 case h2=>rw [ah,mR,ah];exact h5
 case h3=>rw [N8 ht Uj];rfl
 case e=>
  unfold byteArr
  rw [aB];rfl
 case c=>
  refine .mk λs i=>Ev.run (mP (pJ (l:=t) (V:=λx:Nat=>PV.int x) (bs:=λx=>[("x",.int (x:Nat))]) (cl:=[]) [] (λz=>ai) (λx:Nat=>.int ((128+x:Nat):Int))
    ?k1 nJ (λz z z z z=>nO) (λz z z z z z z=>oa) ?k5 ?k6 (λz z=>rfl) (by rfl) trivial (by rfl) (by decide+kernel)) ?k12) s i
  case k1=>exact qD (nj (p:=.list tv) (q:=.int ((0:Int)+n)) (nu x1) (nu x0) (m4 (by exact mu (.L xJ (.a xJ (.k xA))) [_]) (by rw [e0];exact XG) (by exact (mu (.i (.b xA xK) (.B (.a xJ (.k xA)) xS)) [_]) hn))) G.room.1 (.inl ⟨_,_,rfl⟩) (λz h=>nomatch h)
  case k5=>
   intro x C g2 T5 hx _ k hf
   refine mP (mI (p:=.int 128) (q:=.int (x:Nat)) mM ?_ nV) (by congr 1)
   walk_at "ev"
  case k6=>exact (mu (.i (.l xA xN) (.i (.e xB xL) (.l xA xB))) [_,_]) h5 hz
  case k12=>rw [vR,mR,aB,aB];rfl
set_option maxHeartbeats 1000000 in
theorem RX (G:Gd w 5 (cH A g L D is g')) {Q:HP} {lt:Nat->Nat} {n:Nat} (h5:t.length<=5) (hl:Q.length<=100) (hne1: ∀q∈Q,q.1≠[]) (hv: ∀q∈Q,q.2.length<=3) (x0:σ.lookup ("n":Str)=aa (.int ((0:Int)+n))) (x1:σ.lookup ("coded":Str)=aa (.str (S (pq t)))) (x2:σ.lookup ("struck":Str)=aa (.inst D)) (x3:σ.lookup ("letters":Str)=aa (.list ((ag 4).map λn=>.str (S [lt n])))) (hn:n<4)
  (hΛ:(D,hp Q)∈Λ) (hj:((Q.filter λq=>[q.1.getLast?.getD 0]==[lt n]).map (·.2)).flatten=toks (mR t))
  (hb:mS ms w (cH A g L D is g').env (cH A g L D is g').A (In (cH A g L D is g') σ Λ) b J):mS ms w (cH A g L D is g').env (cH A g L D is g').A (In (cH A g L D is g') σ Λ) (ni vW 5::b) J:=by
 have hz:=aw
 have e0:((0:Int)+n).toNat=n:=by exact mu (.e (.t (.a xJ (.k xA))) xA) [_]
 have UU:=Be h5
 have Wc:(toks (mR t)).length<=15:=by rw [tf,mR,ah];exact (mu (.i (.l xA xN) (.l (.m 3 xA) (.c 15))) [_]) h5
 refine m7 (d:=false) (mX (p:=.str (S (pq t))) (q:=.str (S (pq t))) (nu x1) ?r (by have:=t7 (prog:=ms) (w:=w) (A:=(cH A g L D is g').A) (X:=(cH A g L D is g').X) (a:=pq t) (b:=pq t);rw [show (pq t !=pq t)=false by simp] at this;exact this)) (λh=>by exact o8 h) (λz=>hb)
 case r=>
  refine mI (p:=.str (S (oo++toks (mR t)))) (q:=.str (S [63,61])) (mI (p:=.str (S oo)) (q:=.str (S (toks (mR t)))) (m5 (by kernel_rfl)) ?j (ou ?z1)) (m5 (by kernel_rfl)) (ou ?z2)
  case z1=>exact (mu (.i (.e xB xL) (.i (.l xA (.c 15)) (.l (.a (.c 6) xA) xB))) [_,_]) hz Wc
  case z2=>rw [af];exact (mu (.i (.e xB xL) (.i (.l xA (.c 15)) (.l (.a (.a (.c 6) xA) xM) xB))) [_,_]) hz Wc
  case j=>
   refine re (p:=.str (S [])) (T:="str") (m5 (by kernel_rfl)) oh F.plainAttrs_str F.slot_str_join F.type_str_join (my (p:=.list ((((Q.filter λq=>[q.1.getLast?.getD 0]==[lt n]).map (·.2)).map S).map PV.str)) ?c mH) (qv (wu (t5 ?hj)) ?e)
   case e=>
    rw [Qv (yj [] _),Kb,hj]
   case hj=>
    rw [hj];exact (mu (.i (.l xA (.c 15)) (.l (.a xA (.r xB 0)) (.c 1000000))) [_,_]) Wc
   case c=>
    refine .mk λs i=>Ev.run (mP (pJ (c:=cH A g L D is g') (l:=Q) (V:=λq=>.tup [.str (S q.1),.str (S q.2)]) (bs:=λq=>[("text",.str (S q.2)),("one",.str (S q.1))]) (cl:=[("n",L+4),("letters",L+7)]) [("n",.int ((0:Int)+n)),("letters",.list ((ag 4).map λn=>.str (S [lt n])))] (λq=>[q.1.getLast?.getD 0]==[lt n]) (λq=>.str (S q.2))
     ?k1 ?k2 (λz z z z z=>qS G.room.1) ?k4 ?k5 ?k6 (λz z=>by kernel_rfl) (by rfl) ⟨by rfl,by rfl,trivial⟩ (by rfl) (by decide+kernel)) ?k12) s i
    case k1=>
     refine qD (xb (Gd.sub (m:=1) G (by decide)) (l:=Q) (sI (nu x2) hΛ) (x9 (by exact (mu (.i (.l xA xP) (.l xA xQ)) [_]) hl)) (by kernel_rfl) (DT _).e (by kernel_rfl) (by kernel_rfl)) G.room.1 (.inr ⟨⟨_,_,_,rfl⟩,λp hp=> ?_⟩) (λz h=>nomatch h)
     obtain ⟨q,_,rfl⟩:=aK.mp hp
     exact ⟨_,rfl⟩
    case k2=>exact nZ (nZ nJ x3 (.inl rfl) (λz=>rfl) (λz=>.inl rfl)) x0 (.inl rfl) (λz=>rfl) (λz=>.inl rfl)
    case k4=>
     intro q C g2 T5 hq _ _
     obtain ⟨y,hy⟩: ∃y,q.1.getLast? =aa y:=⟨_,c7 (hne1 q hq)⟩
     rw [hy]
     refine zj (mX (p:=.str (S [y])) (q:=.str (S [lt n])) (nj (p:=.str (S q.1)) (q:=.int (-1)) ?_ (rW mM oB) (tK hy)) (nj (p:=.list ((ag 4).map λn=>.str (S [lt n]))) (q:=.int ((0:Int)+n)) ?_ ?_ (m4 (by exact mu (.L xJ (.a xJ (.k xA))) [_]) (by rw [e0];exact oO hn) (by exact (mu (.i (.b xA xK) (.B (.a xJ (.k xA)) xS)) [_]) hn))) sY)
     ·walk_at "ev"
     ·walk_at "ev"
     ·walk_at "ev"
    case k5=>
     intro q C g2 T5 _ _ _ _
     walk_at "ev"
    case k6=>exact (mu (.i (.l xA xP) (.i (.e xB xL) (.l xA xB))) [_,_]) hl hz
    case k12=>rw [aB,aB];rfl
end
theorem Io (h:n<=1000):gy n=false:=by
 have hz:=aw
 have:n<=bn:=by exact (mu (.i (.l xA xQ) (.i (.e xB xL) (.l xA xB))) [_,_]) h hz
 simpa [gy] using this
theorem Bi (t:List Nat):(pq t).dropLast=oo++toks (mR t)++[63]:=by
 unfold pq
 rw [show ([63,61]:List Nat)=[63]++[61] from rfl,<-aJ,lb]
theorem IG (ti:List Nat) (y:Nat):pq (ti++[y])=(oo++toks (mR ti))++[61,pw ((128+y)/16)]++[pw ((128+y) % 16),63,61]:=by
 unfold pq toks mR
 rw [bh,bV]
 show oo++(_++([61,pw ((128+y)/16),pw ((128+y) % 16)]++[]))++[63,61]=_
 simp
theorem O4 (a b c:List α) (hb:1<=b.length) (hc:1<=c.length):qX (a++b++c) az (aa (-(c.length:Int)))=a++b/\qX (a++b++c) (aa (-((b.length+c.length:Nat):Int))) (aa (-(c.length:Int)))=b:=by
 constructor
 ·rw [Br _ _ hc,af,ja,gm]
 ·unfold qX
  show (List.drop (dQ _ _) _).take (dQ _ _ - dQ _ _)=_
  rw [A3 _ (b.length+c.length) (by exact (mu (.i (.l xI xB) (.l xI (.a xA xB))) [_,_]) hc),A3 _ c.length hc]
  have h1:(a++b++c).length - (b.length+c.length)=a.length:=by rw [af,af];exact mu (.e (.s (.a (.a xA xB) xC) (.a xB xC)) xA) [_,_,_]
  have h2:(a++b++c).length - c.length - a.length=b.length:=by rw [af,af];exact mu (.e (.s (.s (.a (.a xA xB) xC) xC) xA) xB) [_,_,_]
  rw [h1,h2,aJ,List.drop_left,gm]
section
variable {w:av} {A:aX} {g g':aW} {L D:aF} {is:List aF} {σ:mW} {Λ:List (aF×List PV)} {b:List ef} {J:hG->aW->Prop}
theorem G0:n0 ms w A X (bP .NotEq) (.str (S a)) (.str (S a)) (.bool false):=by
 have:=t7 (prog:=ms) (w:=w) (A:=A) (X:=X) (a:=a) (b:=a)
 rw [show (a !=a)=false by simp] at this;exact this
set_option maxHeartbeats 2000000 in
theorem Rs (G:Gd w 5 (cH A g L D is g')) (ht: ∀x∈t,x<128) (h5:t.length<=5) (Uj:t≠[]) (hm:tc mark) (x0:σ.lookup ("octets":Str)=aa (.str (S (mR t)))) (x1:σ.lookup ("coded":Str)=aa (.str (S (pq t)))) (x2:σ.lookup ("mark":Str)=aa (.str (S mark)))
  (hb:mS ms w (cH A g L D is g').env (cH A g L D is g').A (In (cH A g L D is g') σ Λ) b J):mS ms w (cH A g L D is g').env (cH A g L D is g').A (In (cH A g L D is g') σ Λ) (ni vW 6::b) J:=by
 have hz:=aw
 have UU:=Be h5
 refine nh (tW hm) λz z z z z m2=> ?_
 have hob:=tX ht
 have We:(mR t).length<=5:=by rw [mR,ah];exact h5
 refine m7 (d:=(false||(false||false))) (A9 (Dz (mX (p:=.str (S (oo++mR t++[63]))) (q:=.str (S (oo++mR t++[63]))) ?l1 ?r1 G0) (λz=>Dz ?two (λz=>Lq)))) (λh=>by exact o8 h) (λz=>hb)
 case r1=>
  refine mI (p:=.str (S (oo++mR t))) (q:=.str (S [63])) (mI (p:=.str (S oo)) (q:=.str (S (mR t))) (m5 (by kernel_rfl)) (nu x0) (ou ?z1)) (m5 (by kernel_rfl)) (ou ?z2)
  case z1=>exact (mu (.i (.e xB xL) (.i (.l xA xN) (.l (.a (.c 6) xA) xB))) [_,_]) hz We
  case z2=>rw [af];exact (mu (.i (.e xB xL) (.i (.l xA xN) (.l (.a (.a (.c 6) xA) xI) xB))) [_,_]) hz We
 case l1=>
  have VO: ∀c∈oo++toks (mR t)++[63],c∈qZ:=by
   intro c hc
   rcases ar.mp hc with hc|hc
   ·rcases ar.mp hc with hc|hc
    ·exact (by decide: ∀c∈oo,c∈qZ) c hc
    ·exact zq hob c hc
   ·exact (by decide: ∀c∈[63],c∈qZ) c hc
  have Ud:(oo++toks (mR t)++[63]).length<=23:=by rw [<-Bi,fV];exact (mu (.i (.l xA (.c 23)) (.l (.s xA xI) (.c 23))) [_]) UU
  have hlow:=Kc VO
  refine mP (oE (Gd.sub (m:=2) G (by decide)) (ps:=[.str (S ((oo++toks (mR t)++[63]).map lw++[32,9])),.str (S mark)]) (by kernel_rfl) (B1 _).e (my (mI (p:=.str (S ((oo++toks (mR t)++[63]).map lw))) (q:=.str (S [32,9]))
   (qT (p:=.str (S (oo++toks (mR t)++[63]))) (T:="str") (mP (tR (l:=pq t) (lo:=az) (hi:=aa (-1)) (nu x1) rJ (nW (rW mM oB)) ?s1) ?s2) oh F.plainAttrs_str F.slot_str_lower F.type_str_lower (qv (vd ?s3) ?s4)) (m5 (by kernel_rfl)) (ou ?s5)) (my (nu x2) mH)) (wZ ?s6 ?s7 m2)) (by rw [OA hob hm])
  case s1=>exact (mu (.i (.e xB xL) (.i (.l xA (.c 23)) (.l xA xB))) [_,_]) hz UU
  case s2=>rw [AZ,Bi]
  case s3=>rw [hlow,mV,ah];exact Io (by exact (mu (.i (.l xA (.c 23)) (.l xA xQ)) [_]) Ud)
  case s4=>rw [hlow]
  case s5=>rw [ah];exact (mu (.i (.e xB xL) (.i (.l xA (.c 23)) (.l (.a xA xM) xB))) [_,_]) hz Ud
  case s6=>simp
  case s7=>rw [af,ah];exact (mu (.i (.l xA (.c 23)) (.l (.a xA xM) xQ)) [_]) Ud
 case two=>
  obtain ⟨ti,y,rfl⟩: ∃ti y,t=ti++[y]:=⟨t.dropLast,t.getLast Uj,(jJ Uj).symm⟩
  have hti: ∀x∈ti,x<128:=λx hx=>ht x (ax _ hx)
  have hy:y<128:=ht y (aM _ (.head _))
  have hoi:=tX hti
  have hcs:=IG ti y
  have WQ:=O4 (oo++toks (mR ti)) [61,pw ((128+y)/16)] [pw ((128+y) % 16),63,61] (by simp) (by simp)
  rw [<-hcs] at WQ
  have hoc:mR (ti++[y])=mR ti++[128+y]:=by unfold mR;rw [bh];rfl
  have hhx:=(Az (128+y) (by exact (mu (.i (.b xA xR) (.b (.a xR xA) (.c 256))) [_]) hy)).1
  have hil:(mR ti).length<=5:=by rw [hoc,af] at We;exact (mu (.i (.l (.a xA xB) xN) (.l xA xN)) [_,_]) We
  have Xo:(toks (mR ti)).length<=15:=by rw [tf];exact (mu (.i (.l xA xN) (.l (.m 3 xA) (.c 15))) [_]) hil
  have c3:qX (pq (ti++[y])) az (aa (-3))=oo++toks (mR ti)++[61,pw ((128+y)/16)]:=WQ.1
  have c5:qX (pq (ti++[y])) (aa (-5)) (aa (-3))=[61,pw ((128+y)/16)]:=WQ.2
  refine mX (p:=.str (S (oo++mR ti++[61,pw ((128+y)/16)]))) (q:=.str (S (oo++mR ti++[61,pw ((128+y)/16)]))) ?l ?r G0
  case l=>
   refine mP (oE (Gd.sub (m:=2) G (by decide)) (ps:=[.str (S (oo++toks (mR ti)++[61,pw ((128+y)/16)])),.str (S mark)]) (by kernel_rfl) (B1 _).e (my (mP (tR (l:=pq (ti++[y])) (lo:=az) (hi:=aa (-3)) (nu x1) rJ (nW (rW mM oB)) ?s1) (by rw [c3])) (my (nu x2) mH)) (wZ ?s6 ?s7 m2)) (by rw [N1 hoi hhx hm])
   case s1=>exact (mu (.i (.e xB xL) (.i (.l xA (.c 23)) (.l xA xB))) [_,_]) hz UU
   case s6=>simp
   case s7=>rw [af,af];exact (mu (.i (.l xA (.c 15)) (.l (.a (.a (.c 6) xA) xM) xQ)) [_]) Xo
  case r=>
   refine mI (p:=.str (S (oo++mR ti))) (q:=.str (S [61,pw ((128+y)/16)])) (mI (p:=.str (S oo)) (q:=.str (S (mR ti))) (m5 (by kernel_rfl)) (mP (tR (l:=mR (ti++[y])) (lo:=az) (hi:=aa (-1)) (nu x0) rJ (nW (rW mM oB)) ?s1) ?s2) (ou ?z1)) (mP (tR (l:=pq (ti++[y])) (lo:=aa (-5)) (hi:=aa (-3)) (nu x1) (nW (rW mM oB)) (nW (rW mM oB)) ?s3) (by rw [c5])) (ou ?z2)
   case s1=>exact (mu (.i (.e xB xL) (.i (.l xA xN) (.l xA xB))) [_,_]) hz We
   case s2=>rw [AZ,hoc,lb]
   case s3=>exact (mu (.i (.e xB xL) (.i (.l xA (.c 23)) (.l xA xB))) [_,_]) hz UU
   case z1=>exact (mu (.i (.e xB xL) (.i (.l xA xN) (.l (.a (.c 6) xA) xB))) [_,_]) hz hil
   case z2=>rw [af];exact (mu (.i (.e xB xL) (.i (.l xA xN) (.l (.a (.a (.c 6) xA) xM) xB))) [_,_]) hz hil
end
noncomputable def LE:List Str:=["n","name","own","octets","coded"]
noncomputable def yC (sz:Nat->Nat) (pl:Nat->Nat->Nat) (n:Nat):List Nat:=(ag (sz n)).map (pl n)
section
variable {w:av} {A:aX} {g g':aW} {L D:aF} {is:List aF} {σ:mW} {Λ:List (aF×List PV)} {b:List ef} {J:hG->aW->Prop}
set_option maxHeartbeats 1000000 in
theorem Jx (G:Gd w 5 (cV A g L D)) {pl:Nat->Nat->Nat} (W:uz sz dt lt) (V2: ∀n<4,∀h<sz n,pl n h<128) (Wc: ∀n<4,sy rs n=(yC sz pl n).map λx:Nat=>(x:Int)) (hm:tc mark) (hκ:Ap κ LE)
  (x1:κ.lookup ("told":Str)=aa (vA rs)) (x2:κ.lookup ("due":Str)=aa (.list (hp (qy sz dt lt pl)))) (x3:κ.lookup ("letters":Str)=aa (.list ((ag 4).map λn=>.str (S [lt n])))) (x4:κ.lookup ("dots":Str)=aa (.list ((ag 4).map λn=>.int (dt n:Nat)))) (x5:κ.lookup ("mark":Str)=aa (.str (S mark))) (x6:κ.lookup ("struck":Str)=aa (.inst D))
  (hb:mS ms w (cV A g L D).env (cV A g L D).A (In (cV A g L D) κ [(D,hp (qy sz dt lt pl))]) b J):
  mS ms w (cV A g L D).env (cV A g L D).A (In (cV A g L D) κ [(D,hp (qy sz dt lt pl))]) (ni ny 17::b) J:=by
 have hz:=aw
 refine rK G (l:=ag 4) (V:=λi:Nat=>.int ((0:Int)+i)) (bs:=λi=>[("n",.int ((0:Int)+i))]) (λz=>κ) (λz=>[(D,hp (qy sz dt lt pl))]) ?h1 rfl rfl (λa is z=>nO (.inr ⟨L+4,n7.addX (CG (by rfl) (by rfl))⟩)) ?h2 ?h3
 case h1=>exact pS G.zero (n:=4) mM (by exact mu (.l xK xQ) [] []) (by rfl)
 case h2=>
  intro i n g2 U1 hx G2
  refine eA (AC hx) λT0 hn=> ?_;obtain rfl:=T0
  have Ud:=Fa (pl:=pl) W
  have hlets:=W.lets n hn
  have VD:=W.dots n hn
  have f:=ry (dt n) (by exact (mu (.i (.b xA xO) (.b xA (.c 7))) [_]) VD) (lt n) hlets
  have hlo:=FL W V2
  have hs:=W.some n hn
  have h5:(yC sz pl n).length<=5:=by unfold yC;rw [ah,be];have:=W.five;exact (mu (.i (.l xA xB) (.i (.l xB xN) (.l xA xN))) [_,_]) hs.2 this
  have Uj:yC sz pl n≠[]:=by
   intro q
   have:=congrArg bj q
   unfold yC at this
   rw [ah,be] at this
   have e:([]:List Nat).length=0:=rfl
   exact (mu (.i (.l xI xA) (.i (.e xA xB) (.n (.e xB xJ)))) [_,_]) hs.1 this e
  have ht: ∀x∈yC sz pl n,x<128:=λx hx=>by
   obtain ⟨h,hh,rfl⟩:=aK.mp hx
   exact V2 n hn h (aL.mp hh)
  refine rR (Jd (pl:=pl) W hn) λo r how=> ?_
  have We:(zo sz dt lt pl n).length<=100:=by
   unfold zo
   rw [ah]
   have:=kR (λq:List Nat×List Nat=>q.1==m6 (dt n) (lt n)) (qy sz dt lt pl)
   exact (mu (.i (.l xB (.c 20)) (.i (.l xA xB) (.l xA xP))) [_,_]) Ud this
  have ho9: ∀x∈zo sz dt lt pl n,vt x:=λx hx=>by
   obtain ⟨q,hq,rfl⟩:=aK.mp hx
   exact (hlo q (eW.mp hq).1).2
  have XG:((ag 4).map λn=>il (sy rs n))[n]? =aa (.list ((yC sz pl n).map λx:Nat=>PV.int x)):=by
   rw [oO hn,Wc n hn]
   show aa (PV.list (eU PV.int (eU _ _)))=_
   rw [aB];rfl
  refine RV G2 hn VD (by walk_at "lk") (by walk_at "lk") (by walk_at "lk") ?_
  refine RT G2 (Q:=qy sz dt lt pl) (by exact (mu (.i (.l xA (.c 20)) (.l xA xP)) [_]) Ud) (by walk_at "lk") (by walk_at "lk") ?_
  refine R2 G2 (Q:=qy sz dt lt pl) (nm:=m6 (dt n) (lt n)) (nm':=m6 (dt n) (zi (lt n))) (ow:=zo sz dt lt pl n) (o:=o) (r:=r) (by exact (mu (.i (.l xA (.c 20)) (.l xA xP)) [_]) Ud) f.2.2.1 f.2.2.2.2.1 (zL (by exact (mu (.i (.b xA xO) (.b xA (.c 7))) [_]) VD) f.2.2.2.2.2.1) (OX W) how ho9 We (OQ W hn how) (by rw [Hb W hn];rfl) (.head _) (by walk_at "lk") (by walk_at "lk") (by walk_at "lk") ?_
  refine Sf G2 ht h5 (by walk_at "lk") (tv:=(ag 4).map λn=>il (sy rs n)) (by walk_at "lk") XG hn ?_
  refine RF G2 ht h5 Uj (by walk_at "lk") (tv:=(ag 4).map λn=>il (sy rs n)) (by walk_at "lk") XG hn ?_
  refine RX G2 (t:=yC sz pl n) (Q:=qy sz dt lt pl) (lt:=lt) h5 (by exact (mu (.i (.l xA (.c 20)) (.l xA xP)) [_]) Ud) ?n1 ?n2 (by walk_at "lk") (by walk_at "lk") (by walk_at "lk") (by walk_at "lk") hn (.head _) ?n3 ?_
  case n1=>
   intro q hq
   refine yJ (wv W hq) λi hi m hm hl T0=> ?_;obtain rfl:=T0
   unfold m6;simp
  case n2=>
   intro q hq
   refine yJ (wv W hq) λi hi m hm hl T0=> ?_;obtain rfl:=T0
   exact aN _
  case n3=>
   rw [Jz W hn,aB,<-NS]
   congr 1
   unfold yC
   rw [aB];rfl
  refine Rs G2 ht h5 Uj hm (by walk_at "lk") (by walk_at "lk") (by walk_at "lk") ?_
  exact qK (by walk_at "has")
 case h3=>exact hb
end
section
variable {w:av} {A:aX} {g g':aW} {L D:aF} {is:List aF} {σ:mW} {Λ:List (aF×List PV)} {b:List ef} {J:hG->aW->Prop}
theorem Ti:bJ (.BoolOp .And [x,y,z] pos) env=bJ (.BoolOp .And [x,.BoolOp .And [y,z] pos] pos) env:=rfl
theorem O2 (hx:Ev ms w φ x p) (t:tS ms w φ.A φ.X p ai) (hy:Ev ms w φ y q) (u:tS ms w φ.A φ.X q ai) (hz:Ev ms w φ z r):Ev ms w φ (.BoolOp .And [x,y,z] pos) r:=.mk λs i=>by
 rw [Ti]
 exact (CC (a:=ai) (r:=r) hx t (λz=>CC (a:=ai) (r:=r) hy u (λz=>hz) rfl) rfl).run s i
noncomputable def Fq:List (List Nat):=[[109,97,120,108,105,110,101,108,101,110,32,109,117,115,116,32,98,101,32,97,116,32,108,101,97,115,116,32,52],[67,111,110,116,114,111,108,32,99,104,97,114,97,99,116,101,114,115,32,110,111,116,32,97,108,108,111,119,101,100,32,105,110,32,104,101,97,100,101,114,115]]
theorem Os:ym=S (Fq[0]):=by decide+kernel
theorem N9:wU=S (Fq[1]):=by decide+kernel
theorem IZ (G:Gd w 5 (cV A g L D)) (x0:σ.lookup ("words":Str)=aa (.list [.str ym,.str wU]))
  (hb:mS ms w (cV A g L D).env (cV A g L D).A (In (cV A g L D) σ Λ) b J):mS ms w (cV A g L D).env (cV A g L D).A (In (cV A g L D) σ Λ) (ni ny 12::b) J:=by
 have hz:=aw
 have hu:(cV A g L D).A.units+64<fv:=by have:=G.room.2.2;exact (mu (.i (.b (.a (.a xA (.m 10 xN)) xP) xB) (.b (.a xA (.c 64)) xB)) [_,_]) this
 rw [Os,N9] at x0
 refine m7 (d:=false) (mX (p:=.list (Fq.map λx=>.str (S x))) (q:=.list (Fq.map λx=>.str (S x))) (nu x0) (pW (my (m5 (by kernel_rfl)) (my (m5 (by kernel_rfl)) mH)) (by exact (mu (.i (.e xA xL) (.l xM xA)) [_]) hz)) (Hs hu (λx hx=>(by decide: ∀x∈Fq,∀c∈x,c<256) x hx))) (λh=>by exact o8 h) (λz=>hb)
theorem Lr (G:Gd w 5 (cV A g L D)) (hW:12<=W) (x0:σ.lookup ("width":Str)=aa (.int (W:Nat))) (x1:σ.lookup ("eol":Str)=aa (.str (S Uc))) (x2:σ.lookup ("mark":Str)=aa (.str (S mark)))
  (hb:mS ms w (cV A g L D).env (cV A g L D).A (In (cV A g L D) (("empty",.list (([[],[],[],[]]:List (List Nat)).map λx=>.str (S x)))::σ) Λ) b J):mS ms w (cV A g L D).env (cV A g L D).A (In (cV A g L D) σ Λ) (ni ny 18::b) J:=by
 have hz:=aw
 refine mK (p:=.list (([[],[],[],[]]:List (List Nat)).map λx=>.str (S x))) (pW (my ?a (my ?b (my ?c (my ?d mH)))) (by exact (mu (.i (.e xA xL) (.l xK xA)) [_]) hz)) hb
 case a=>exact oE (Gd.sub (m:=2) G (by decide)) (ps:=[.str (S []),.int (W:Nat),.str (S Uc)]) (by kernel_rfl) (CA _).e (my (m5 (by kernel_rfl)) (my (nu x0) (my (nu x1) mH))) (DG (by exact (mu (.i (.l (.c 12) xA) (.l xK xA)) [_]) hW))
 case b=>exact oE (Gd.sub (m:=2) G (by decide)) (ps:=[.str (S []),.str (S mark)]) (by kernel_rfl) (B1 _).e (my (m5 (by kernel_rfl)) (my (nu x2) mH)) FS
 case c=>exact oE (Gd.sub (m:=1) G (by decide)) (ps:=[.bytes #[]]) (by kernel_rfl) (I2 _).e (my KO mH) IJ
 case d=>exact oE (Gd.sub (m:=1) G (by decide)) (ps:=[.str (S [])]) (by kernel_rfl) (IY _).e (my (m5 (by kernel_rfl)) mH) (xh (T:=[]) (by decide))
theorem QI (Q:HP):jf (λp q=>PV.tup [p,q]) (Q.map λq=>.str (S q.1)) (Q.map λq=>.str (S q.2))=hp Q:=by
 induction Q with
 |nil=>rfl
 |cons q Q ih=>rw [ba,ba,List.zipWith_cons_cons,ih];rfl
theorem Mr (G:Gd w 5 (cV A g L D)) {Q:HP} (hl:Q.length<=100) (h9: ∀q∈Q,vt q.1/\vt q.2) (hΛ:(D,hp Q)∈Λ) (x0:σ.lookup ("due":Str)=aa (.list (hp Q))) (x2:σ.lookup ("struck":Str)=aa (.inst D))
  (hb:mS ms w (cV A g L D).env (cV A g L D).A (In (cV A g L D) (("whole",.bool ai)::σ) Λ) b J):mS ms w (cV A g L D).env (cV A g L D).A (In (cV A g L D) σ Λ) (ni ny 19::b) J:=by
 have hz:=aw
 have hu:(cV A g L D).A.units+64<fv:=by have:=G.room.2.2;exact (mu (.i (.b (.a (.a xA (.m 10 xN)) xP) xB) (.b (.a xA (.c 64)) xB)) [_,_]) this
 refine mK (p:=.bool ai) (CC (a:=ai) (p:=.bool ai) (q:=.bool ai) (vg (p:=.list (hp Q)) (q:=.list (hp Q)) ?a (nu x0) (Ce hu h9)) qt (λz=>vg (p:=.list (hp Q)) (q:=.list (hp Q)) ?b (nu x0) (Ce hu h9)) rfl) hb
 case a=>exact xb (Gd.sub (m:=1) G (by decide)) (l:=Q) (sI (nu x2) hΛ) (x9 (by exact (mu (.i (.l xA xP) (.l xA xQ)) [_]) hl)) (by kernel_rfl) (DT _).e (by kernel_rfl) (by kernel_rfl)
 case b=>
  refine mP (FW (ps:=Q.map λq=>.str (S q.1)) (qs:=Q.map λq=>.str (S q.2)) (rS G (by kernel_rfl) (by kernel_rfl)) (s8 (rS G (by kernel_rfl) (by kernel_rfl)) (my ?k (my ?v mH))) G.room.1 (by rw [ah,ah]) (by rw [ah];exact (mu (.i (.l xA xP) (.l xA (.c 100000))) [_]) hl)) (by rw [QI])
  case k=>exact xb (Gd.sub (m:=1) G (by decide)) (l:=Q) (sI (nu x2) hΛ) (C6 (by exact (mu (.i (.l xA xP) (.l xA xQ)) [_]) hl)) (by kernel_rfl) (HM _).e (by kernel_rfl) (by kernel_rfl)
  case v=>exact xb (Gd.sub (m:=1) G (by decide)) (l:=Q) (sI (nu x2) hΛ) (Gg (by exact (mu (.i (.l xA xP) (.l xA xQ)) [_]) hl)) (by kernel_rfl) (Nh _).e (by kernel_rfl) (by kernel_rfl)
theorem Oe (G:Gd w 5 (cV A g L D)) (x0:σ.lookup ("whole":Str)=aa (.bool ai)) (x1:σ.lookup ("book":Str)=aa (.hdr (hp []))) (x2:σ.lookup ("empty":Str)=aa (.list (([[],[],[],[]]:List (List Nat)).map λx=>.str (S x)))):
  mS ms w (cV A g L D).env (cV A g L D).A (In (cV A g L D) σ Λ) [ni ny 20] (uy (cV A g L D).g [] (.bool ai)):=by
 have hz:=aw
 have hu:(cV A g L D).A.units+64<fv:=by have:=G.room.2.2;exact (mu (.i (.b (.a (.a xA (.m 10 xN)) xP) xB) (.b (.a xA (.c 64)) xB)) [_,_]) this
 refine m9 (O2 (nu x0) qt (q:=.bool ai) ?b qt ?c) mT.rfl (λz h=>nomatch h)
 case b=>exact vg (p:=.list (hp [])) (q:=.list (hp [])) (xb (Gd.sub (m:=1) G (by decide)) (l:=[]) (tw (nu x1)) (x9 (by decide)) (by kernel_rfl) (DT _).e (by kernel_rfl) (by kernel_rfl)) (pW mH (by exact mu (.l xJ xA) [_])) (Ce hu (λz h=>nomatch h))
 case c=>exact vg (p:=.list (([[],[],[],[]]:List (List Nat)).map λx=>.str (S x))) (q:=.list (([[],[],[],[]]:List (List Nat)).map λx=>.str (S x))) (nu x2) (pW (my (m5 (by kernel_rfl)) (my (m5 (by kernel_rfl)) (my (m5 (by kernel_rfl)) (my (m5 (by kernel_rfl)) mH)))) (by exact (mu (.i (.e xA xL) (.l xK xA)) [_]) hz)) (Om hu (λx hx=>(by decide: ∀x∈([[],[],[],[]]:List (List Nat)),∀c∈x,c<256) x hx))
end
abbrev LF:=List Nat
noncomputable def tU:LF->LF->LF
 |[],g=>g
 |a::f,[]=>a::f
 |a::f,b::g=>(a+b)::tU f g
noncomputable def HX (k:Nat) (f:LF):LF:=f.map (k* ·)
noncomputable def Bh (k:Nat):LF:=aG k 0++[1]
noncomputable def ev (xs:List Int):LF->Int
 |[]=>0
 |c::f=>match xs with
  |[]=>0
  |x::xs=>(c:Int)*x+ev xs f
theorem ri (xs:List Int):ev xs []=0:=by unfold ev;rfl
theorem ev_add: ∀(xs:List Int) (f g:LF),ev xs (tU f g)=ev xs f+ev xs g
 |xs,[],g=>by rw [tU,ri];exact mu (.E xA (.a xJ xA)) [] [_]
 |xs,a::f,[]=>by rw [tU,ri];exact mu (.E xA (.a xA xJ)) [] [_]
 |[],a::f,b::g=>by rw [tU,ev,ev,ev];rfl
 |x::xs,a::f,b::g=>by
  rw [tU,ev,ev,ev]
  rw [ev_add xs f g,jO,Int.add_mul]
  exact mu (.E (.a (.a xA xB) (.a xC xD)) (.a (.a xA xC) (.a xB xD))) [] [_,_,_,_]
theorem ev_mul (k:Nat): ∀(xs:List Int) (f:LF),ev xs (HX k f)=(k:Int)*ev xs f
 |xs,[]=>by show ev xs []=_*ev xs [];rw [ri,gj]
 |[],a::f=>by show (0:Int)=(k:Int)*0;rw [gj]
 |x::xs,a::f=>by
  have ih:=ev_mul k xs f
  show ((k*a:Nat):Int)*x+ev xs (HX k f)=(k:Int)*((a:Int)*x+ev xs f)
  rw [ih,g8,ff,fS]
theorem GJ: ∀(k:Nat) (xs:List Int),ev xs (Bh k)=xs[k]?.getD 0
 |0,[]=>rfl
 |0,x::xs=>by show (1:Int)*x+ev xs []=x;rw [ri];exact mu (.E (.a (.m 1 xA) xJ) xA) [] [_]
 |k+1,[]=>by rfl
 |k+1,x::xs=>by
  have ih:=GJ k xs
  show (0:Int)*x+ev xs (Bh k)=_
  rw [ih];simp
noncomputable def CV:LF->LF->Bool
 |[],g=>g.all λb=>b % 128==0
 |a::f,[]=>a % 128==0&&CV f []
 |a::f,b::g=>a % 128==b % 128&&CV f g
theorem GZ: ∀(g:LF) (xs:List Int),(g.all λb=>b % 128==0)=ai->(128:Int)∣ev xs g
 |[],xs,_=>by rw [ri];exact ⟨0,rfl⟩
 |b::g,[],_=>by rw [ev];exact ⟨0,rfl⟩
 |b::g,x::xs,h=>by
  rw [iL,bI,beq_iff_eq] at h
  obtain ⟨u,hu⟩:=GZ g xs h.2
  show 128∣(b:Int)*x+ev xs g
  refine ⟨((b/128:Nat):Int)*x+u,?_⟩
  have e:(b:Int)=128*((b/128:Nat):Int):=by exact (mu (.i (.e (.e xA 128) xJ) (.E (.k xA) (.m 128 (.k (.d xA 128))))) [_]) h.1
  rw [e,fS,ff];exact (mu (.i (.E xB (.m 128 xC)) (.E (.a (.m 128 xA) xB) (.a (.m 128 xA) (.m 128 xC)))) [] [_,_,_]) hu
theorem Cr: ∀(f g:LF) (xs:List Int),CV f g=ai->(128:Int)∣ev xs f - ev xs g
 |[],g,xs,h=>by
  obtain ⟨u,hu⟩:=GZ g xs h
  rw [ri,hu]
  exact ⟨-u,by rw [Int.mul_neg];exact mu (.E (.s xJ (.m 128 xA)) (.g (.m 128 xA))) [] [_]⟩
 |a::f,[],[],_=>by rw [ev,ev];exact ⟨0,rfl⟩
 |a::f,[],x::xs,h=>by
  rw [CV,bI,beq_iff_eq] at h
  refine eE (Cr f [] xs h.2) λu hu=> ?_
  rw [ri] at hu
  rw [ri]
  show 128∣(a:Int)*x+ev xs f - 0
  refine ⟨((a/128:Nat):Int)*x+u,?_⟩
  have e:(a:Int)=128*((a/128:Nat):Int):=by exact (mu (.i (.e (.e xA 128) xJ) (.E (.k xA) (.m 128 (.k (.d xA 128))))) [_]) h.1
  rw [e,fS,ff];exact (mu (.i (.E (.s xB xJ) (.m 128 xC)) (.E (.s (.a (.m 128 xA) xB) xJ) (.a (.m 128 xA) (.m 128 xC)))) [] [_,_,_]) hu
 |a::f,b::g,[],_=>by rw [ev,ev];exact ⟨0,rfl⟩
 |a::f,b::g,x::xs,h=>by
  rw [CV,bI,beq_iff_eq] at h
  refine eE (Cr f g xs h.2) λu hu=> ?_
  refine ⟨(((a/128:Nat):Int) - ((b/128:Nat):Int))*x+u,?_⟩
  have e:(a:Int) - b=128*(((a/128:Nat):Int) - ((b/128:Nat):Int)):=by have:=h.1;exact (mu (.i (.e (.e xA 128) (.e xB 128)) (.E (.s (.k xA) (.k xB)) (.m 128 (.s (.k (.d xA 128)) (.k (.d xB 128)))))) [_,_]) h.1
  have e2:(a:Int)*x - (b:Int)*x=128*((((a/128:Nat):Int) - ((b/128:Nat):Int))*x):=by rw [<-Int.sub_mul,e,fS]
  rw [ff];exact (mu (.i (.E (.s xB xD) (.m 128 xF)) (.i (.E (.s xA xC) (.m 128 xE)) (.E (.s (.a xA xB) (.a xC xD)) (.a (.m 128 xE) (.m 128 xF))))) [] [_,_,_,_,_,_]) hu e2
def pF (xs:List Int) (f:LF):Nat:=((ev xs f).fmod 128).toNat
theorem uD (xs:List Int) (f:LF):((pF xs f:Nat):Int)=(ev xs f).fmod 128:=by
 have:=qN (a:=ev xs f) (m:=128) (by decide)
 exact (mu (.i (.L xJ xA) (.E (.k (.t xA)) xA)) [] [_]) this.1
theorem Qw (xs:List Int) (f:LF):pF xs f<128:=by
 have:=qN (a:=ev xs f) (m:=128) (by decide)
 exact (mu (.i (.B xA xR) (.b (.t xA) xR)) [] [_]) this.2
theorem J2 (a:Int):a.fmod 128=a % 128:=bM _ (by decide)
theorem O0 (xs:List Int) (f g:LF):(pF xs f+pF xs g) % 128=pF xs (tU f g):=by
 have h1:=uD xs f
 have h2:=uD xs g
 have h3:=uD xs (tU f g)
 rw [J2] at h1 h2 h3
 rw [ev_add] at h3
 exact (mu (.i (.E (.k xA) (.e xA 128)) (.i (.E (.k xB) (.e xB 128)) (.i (.E (.k xC) (.e (.a xA xB) 128)) (.e (.e (.a xA xB) 128) xC)))) [_,_,_] [_,_]) h1 h2 h3
theorem Qu (h:CV f g=ai):pF xs f=pF xs g:=by
 have h1:=uD xs f
 have h2:=uD xs g
 rw [J2] at h1 h2
 obtain ⟨u,hu⟩:=Cr f g xs h
 exact (mu (.i (.E (.k xA) (.e xA 128)) (.i (.E (.k xB) (.e xB 128)) (.i (.E (.s xA xB) (.m 128 xC)) (.e xA xB)))) [_,_] [_,_,_]) h1 h2 hu
theorem Od (xs:List Int):pF xs []=0:=by unfold pF;rw [ri];rfl
noncomputable def Ih:LF->List LF->List LF
 |_,[]=>[]
 |a,x::t=>tU x a::Ih (tU x a) t
noncomputable def Lu:LF->List LF->LF
 |a,[]=>a
 |a,x::t=>Lu (tU x a) t
noncomputable def zH:Nat->List (List Nat)->List (List Nat)
 |_,[]=>[]
 |a,r::t=>oA a r.dropLast::zH (pK a r.dropLast) t
noncomputable def Ie:LF->List (List LF)->List (List LF)
 |_,[]=>[]
 |a,r::t=>Ih a r.dropLast::Ie (Lu a r.dropLast) t
theorem GQ (xs:List Int): ∀(r:List LF) (a:LF),oA (pF xs a) (r.map (pF xs))=(Ih a r).map (pF xs)/\pK (pF xs a) (r.map (pF xs))=pF xs (Lu a r)
 |[],a=>⟨rfl,rfl⟩
 |x::t,a=>by
  have ih:=GQ xs t (tU x a)
  show ((pF xs x+pF xs a) % 128::oA ((pF xs x+pF xs a) % 128) (t.map (pF xs))=_)/\pK ((pF xs x+pF xs a) % 128) (t.map (pF xs))=_
  rw [O0,ih.1,ih.2]
  exact ⟨rfl,rfl⟩
theorem Hq (xs:List Int): ∀(rows:List (List LF)) (a:LF),zH (pF xs a) (rows.map λr=>r.map (pF xs))=(Ie a rows).map λr=>r.map (pF xs)
 |[],_=>rfl
 |r::t,a=>by
  have e:(r.map (pF xs)).dropLast=r.dropLast.map (pF xs):=by rw [mr]
  have h:=GQ xs r.dropLast a
  show oA (pF xs a) (r.map (pF xs)).dropLast::zH (pK (pF xs a) (r.map (pF xs)).dropLast) _=_
  rw [e,h.1,h.2,Hq xs t]
  rfl
noncomputable def BG (rows:List (List Nat)):Nat->List (List Nat)
 |0=>rows
 |i+1=>zH 0 (BG rows i)
noncomputable def ud (rows:List (List LF)):Nat->List (List LF)
 |0=>rows
 |i+1=>Ie [] (ud rows i)
theorem Hp (xs:List Int) (rows:List (List LF)): ∀i,BG (rows.map λr=>r.map (pF xs)) i=(ud rows i).map λr=>r.map (pF xs)
 |0=>rfl
 |i+1=>by
  show zH 0 (BG _ i)=_
  rw [Hp xs rows i]
  have:=Hq xs (ud rows i) []
  rw [Od] at this
  exact this
def Nn (sh:Nat) (s:List LF):List LF:=(dF (s++[[]]) ([]::s)).map λq=>tU q.1 (HX sh q.2)
def Cm (x:LF) (U3:List Nat):List LF:=U3.foldl (λs sh=>Nn sh s) [x]
def DK (t s:List LF):List LF:=(dF t s).map λq=>tU q.1 q.2
noncomputable def zc (ls:List Nat) (last n k:Nat):List Nat:=(ag k).foldl (λt i=>t++aG (ls[n+1+i]?.getD 0 - ls[n+i]?.getD 0) (last - (n+1+i)+1)) []
def Nj (ls:List Nat) (last n i:Nat):List Nat:=aG i (last - n)++aG (ls[n]?.getD 0 - 2 - i) (last - n+1)++zc ls last n (last - n)
def vI (rows:List (List LF)) (last n k:Nat) (U0:List LF):List LF:=(ag k).foldl (λt i=>DK t (Cm ((rows[n]?.getD [])[i]?.getD []) (Nj (rows.map bj) last n i))) U0
def El (rows:List (List LF)) (last k:Nat):List LF:=(ag k).foldl (λt n=>vI rows last n ((rows[n]?.getD []).length - 1) t) (aG ((rows[last]?.getD []).length - 1) [])
def DP (rows:List (List LF)):List LF:=(rows[rows.length - 1]?.getD []).getLast?.getD []::El rows (rows.length - 1) rows.length
section
variable (xs:List Int)
theorem PA (sh:Nat) (s:List LF):(Nn sh s).map (ev xs)=uq (sh:Int) (s.map (ev xs)):=by
 unfold Nn uq
 have e1:s.map (ev xs)++[0]=(s++[[]]).map (ev xs):=by rw [bh,eY,ri]
 have e2:(0::s.map (ev xs))=(([]:LF)::s).map (ev xs):=by rw [ba,ri]
 rw [e1,e2,List.zip_map,aB,aB]
 refine aV λq z=> ?_
 show ev xs (tU q.1 (HX sh q.2))=ev xs q.1+(sh:Int)*ev xs q.2
 rw [ev_add,ev_mul]
theorem Fv: ∀(U3:List Nat) (s:List LF),(U3.foldl (λs sh=>Nn sh s) s).map (ev xs)=(U3.map λk:Nat=>(k:Int)).foldl (λs sh=>uq sh s) (s.map (ev xs))
 |[],_=>rfl
 |sh::U3,s=>by
  rw [eX,ba,eX,Fv U3,PA]
theorem OV (t s:List LF):(DK t s).map (ev xs)=AI (t.map (ev xs)) (s.map (ev xs)):=by
 unfold DK AI
 rw [List.zip_map,aB,aB]
 refine aV λq z=> ?_
 exact ev_add xs q.1 q.2
def ul (rows:List (List LF)):List IL:=rows.map λr=>r.map (ev xs)
theorem wi (rows:List (List LF)) (n:Nat):m8 (ul xs rows) n=(rows[n]?.getD []).map (ev xs):=by
 unfold m8 ul
 rw [a7]
 cases rows[n]? <;>rfl
theorem ze (rows:List (List LF)) (n:Nat):(m8 (ul xs rows) n).length=(rows.map bj)[n]?.getD 0:=by
 rw [wi,ah,a7]
 cases rows[n]? <;>rfl
theorem Fw (rows:List (List LF)) (last n:Nat): ∀k,n+k<=last->(zc (rows.map bj) last n k).map (λk:Nat=>(k:Int))=ql (ul xs rows) last n k
 |0,_=>rfl
 |k+1,h=>by
  have ih:=Fw rows last n k (by exact (mu (.i (.l (.a xA (.a xB xI)) xC) (.l (.a xA xB) xC)) [_,_,_]) h)
  rw [uO,<-ih]
  have e:zc (rows.map bj) last n (k+1)=zc (rows.map bj) last n k++aG ((rows.map bj)[n+1+k]?.getD 0 - (rows.map bj)[n+k]?.getD 0) (last - (n+1+k)+1):=by
   unfold zc;rw [cy,dc];rfl
  rw [e,bh,eZ,ze,ze]
  congr 2
  exact (mu (.i (.l (.a xB (.a xC xI)) xA) (.E (.k (.a (.s xA (.a (.a xB xI) xC)) xI)) (.a (.s (.k xA) (.k (.a (.a xB xI) xC))) xI))) [_,_,_]) h
theorem J4 (rows:List (List LF)) (i:Nat) (h:n<=last):(Nj (rows.map bj) last n i).map (λk:Nat=>(k:Int))=tB (ul xs rows) last n i:=by
 unfold Nj tB
 rw [bh,bh,eZ,eZ,Fw xs rows last n (last - n) (by exact (mu (.i (.l xA xB) (.l (.a xA (.s xB xA)) xB)) [_,_]) h),ze]
 congr 3
 ·congr 1;exact (mu (.i (.l xB xA) (.E (.k (.s xA xB)) (.s (.k xA) (.k xB)))) [_,_]) h
 ·exact (mu (.i (.l xB xA) (.E (.k (.a (.s xA xB) xI)) (.a (.s (.k xA) (.k xB)) xI))) [_,_]) h
theorem Ds (rows:List (List LF)) (h:n<=last) (U0:List LF): ∀k,(vI rows last n k U0).map (ev xs)=rX (ul xs rows) last n k (U0.map (ev xs))
 |0=>rfl
 |k+1=>by
  have ih:=Ds rows h U0 k
  rw [wV,<-ih]
  have e:vI rows last n (k+1) U0=DK (vI rows last n k U0) (Cm ((rows[n]?.getD [])[k]?.getD []) (Nj (rows.map bj) last n k)):=by
   unfold vI;rw [cy,dc];rfl
  rw [e,OV]
  congr 1
  unfold Cm qG
  rw [Fv,J4 xs rows k h]
  congr 1
  rw [wi,a7]
  cases (rows[n]?.getD [])[k]? with
  |none=>show [ev xs []]=[0];rw [ri]
  |some f=>rfl
theorem Ky (rows:List (List LF)) (last:Nat): ∀k,k<=last+1->(El rows last k).map (ev xs)=rG (ul xs rows) last k
 |0,_=>by
  show (aG _ []).map (ev xs)=aG _ 0
  rw [eZ,ri,wi,ah]
 |k+1,h=>by
  have ih:=Ky rows last k (by exact (mu (.i (.l (.a xA xI) (.a xB xI)) (.l xA (.a xB xI))) [_,_]) h)
  rw [zb,<-ih]
  have e:El rows last (k+1)=vI rows last k ((rows[k]?.getD []).length - 1) (El rows last k):=by
   unfold El;rw [cy,dc];rfl
  rw [e,Ds xs rows (by exact (mu (.i (.l (.a xA xI) (.a xB xI)) (.l xA xB)) [_,_]) h),wi,ah]
theorem OG (rows:List (List LF)) (h:rows≠[]):zP (ul xs rows)=(DP rows).map λf=>(ev xs f).fmod 128:=by
 have hl:(ul xs rows).length=rows.length:=ah ..
 have hp:0<rows.length:=dP.mpr h
 unfold zP DP
 rw [hl,<-Ky xs rows (rows.length - 1) rows.length (by exact mu (.l xA (.a (.s xA xI) xI)) [_]),wi,gB]
 rw [ba,ba,aB]
 congr 1
 cases (rows[rows.length - 1]?.getD []).getLast? with
 |none=>show Int.fmod 0 128=_;show _=Int.fmod (ev xs []) 128;rw [ri]
 |some f=>rfl
end
def rU (s:List Nat):List (List LF):=(ag 4).map λn=>(ag (s[n]?.getD 0)).map λj=>Bh (5*n+j)
def Sw (s:List Nat) (n:Nat) (T:List LF):Bool:=T.length==s[n]?.getD 0&&(ag 5).all λi=> !(decide (i<s[n]?.getD 0))||CV (((ud (rU s) i)[n]?.getD []).getLast?.getD []) (T[i]?.getD [])
def TJ (s:List Nat):Bool:=(ag 6).all λi=>(ud (rU s) i).map bj==(ag 4).map λn=>s[n]?.getD 0 - i
def Sz (s:List Nat):Bool:=TJ s&&(ag 4).all λn=>Sw s n (DP ((rU s).take (n+1)))
def Rx:Bool:=(ag 5).all λa=>(ag 5).all λb=>(ag 5).all λc=>(ag 5).all λd=> !(decide (a<=b)&&decide (b<=c)&&decide (c<=d))||Sz [a+1,b+1,c+1,d+1]
theorem L9:Rx=ai:=by decide+kernel
structure pe (sz:Nat->Nat) (rs:Nat->List Nat):Prop where
 s0:1<=sz 0
 s1:sz 0<=sz 1
 s2:sz 1<=sz 2
 s3:sz 2<=sz 3
 s4:sz 3<=5
 len: ∀n<4,(rs n).length=sz n
 lt: ∀n<4,∀x∈rs n,x<128
section
variable {sz:Nat->Nat} {rs:Nat->List Nat}
noncomputable def yz (sz:Nat->Nat):List Nat:=[sz 0,sz 1,sz 2,sz 3]
theorem zx (sz:Nat->Nat) (h:n<4):(yz sz)[n]?.getD 0=sz n:=by
 match n,h with
 |0,_=>rfl
 |1,_=>rfl
 |2,_=>rfl
 |3,_=>rfl
theorem JK (R:pe sz rs):Sz (yz sz)=ai:=by
 have h:=L9
 have h0:=bq.mp h (sz 0 - 1) (aL.mpr (by have:=R.s1;have:=R.s2;have:=R.s3;have:=R.s4;exact (mu (.i (.l xA xB) (.i (.l xB xC) (.i (.l xC xD) (.i (.l xD xN) (.b (.s xA xI) xN))))) [_,_,_,_]) (by assumption) (by assumption) (by assumption) this))
 have h1:=bq.mp h0 (sz 1 - 1) (aL.mpr (by have:=R.s2;have:=R.s3;have:=R.s4;exact (mu (.i (.l xA xB) (.i (.l xB xC) (.i (.l xC xN) (.b (.s xA xI) xN)))) [_,_,_]) (by assumption) (by assumption) this))
 have h2:=bq.mp h1 (sz 2 - 1) (aL.mpr (by have:=R.s3;have:=R.s4;exact (mu (.i (.l xA xB) (.i (.l xB xN) (.b (.s xA xI) xN))) [_,_]) (by assumption) this))
 have h3:=bq.mp h2 (sz 3 - 1) (aL.mpr (by have:=R.s4;exact (mu (.i (.l xA xN) (.b (.s xA xI) xN)) [_]) this))
 have e:(!(decide (sz 0 - 1<=sz 1 - 1)&&decide (sz 1 - 1<=sz 2 - 1)&&decide (sz 2 - 1<=sz 3 - 1)))=false:=by
  rw [decide_eq_true (by have:=R.s1;exact (mu (.i (.l xA xB) (.l (.s xA xI) (.s xB xI))) [_,_]) this),decide_eq_true (by have:=R.s2;exact (mu (.i (.l xA xB) (.l (.s xA xI) (.s xB xI))) [_,_]) this),decide_eq_true (by have:=R.s3;exact (mu (.i (.l xA xB) (.l (.s xA xI) (.s xB xI))) [_,_]) this)];rfl
 rw [e,Bool.false_or] at h3
 have b0:=R.s0
 have b1:=R.s1
 have b2:=R.s2
 have b3:=R.s3
 rw [show sz 0 - 1+1=sz 0 by exact (mu (.i (.l xI xA) (.e (.a (.s xA xI) xI) xA)) [_]) b0,show sz 1 - 1+1=sz 1 by exact (mu (.i (.l xI xB) (.i (.l xB xA) (.e (.a (.s xA xI) xI) xA))) [_,_]) b0 b1,show sz 2 - 1+1=sz 2 by exact (mu (.i (.l xI xB) (.i (.l xB xC) (.i (.l xC xA) (.e (.a (.s xA xI) xI) xA)))) [_,_,_]) b0 b1 b2,show sz 3 - 1+1=sz 3 by exact (mu (.i (.l xI xB) (.i (.l xB xC) (.i (.l xC xD) (.i (.l xD xA) (.e (.a (.s xA xI) xI) xA))))) [_,_,_,_]) b0 b1 b2 b3] at h3
 exact h3
noncomputable def wh (rs:Nat->List Nat):List Int:=(ag 20).map λk=>(((rs (k/5))[k % 5]?.getD 0:Nat):Int)
theorem ev_at (R:pe sz rs) (hn:n<4) (hj:j<5):ev (wh rs) (Bh (5*n+j))=(((rs n)[j]?.getD 0:Nat):Int):=by
 rw [GJ]
 unfold wh
 rw [oO (by exact (mu (.i (.b xA xK) (.i (.b xB xN) (.b (.a (.m 5 xA) xB) (.c 20)))) [_,_]) hn hj),show (5*n+j)/5=n by exact (mu (.i (.b xB xN) (.e (.d (.a (.m 5 xA) xB) 5) xA)) [_,_]) hj,show (5*n+j) % 5=j by exact (mu (.i (.b xB xN) (.e (.e (.a (.m 5 xA) xB) 5) xB)) [_,_]) hj]
 rfl
theorem tP (R:pe sz rs) (hn:n<4):1<=sz n/\sz n<=sz 3/\sz n<=5:=by
 have b0:=R.s0
 have b1:=R.s1
 have b2:=R.s2
 have b3:=R.s3
 have b4:=R.s4
 match n,hn with
 |0,_=>exact (mu (.i (.l xI xA) (.i (.l xA xC) (.i (.l xC xD) (.i (.l xD xB) (.i (.l xB xN) (.a (.l xI xA) (.a (.l xA xB) (.l xA xN)))))))) [_,_,_,_]) b0 b1 b2 b3 b4
 |1,_=>exact (mu (.i (.l xI xC) (.i (.l xC xA) (.i (.l xA xD) (.i (.l xD xB) (.i (.l xB xN) (.a (.l xI xA) (.a (.l xA xB) (.l xA xN)))))))) [_,_,_,_]) b0 b1 b2 b3 b4
 |2,_=>exact (mu (.i (.l xI xC) (.i (.l xC xD) (.i (.l xD xA) (.i (.l xA xB) (.i (.l xB xN) (.a (.l xI xA) (.a (.l xA xB) (.l xA xN)))))))) [_,_,_,_]) b0 b1 b2 b3 b4
 |3,_=>exact (mu (.i (.l xI xB) (.i (.l xB xC) (.i (.l xC xD) (.i (.l xD xA) (.i (.l xA xN) (.a (.l xI xA) (.a (.l xA xA) (.l xA xN)))))))) [_,_,_,_]) b0 b1 b2 b3 b4
theorem PP (R:pe sz rs) (hn:n<4) (hj:j<sz n):pF (wh rs) (Bh (5*n+j))=(rs n)[j]?.getD 0:=by
 have h5:=(tP R hn).2.2
 have Ud:=R.len n hn
 unfold pF
 rw [ev_at R hn (by exact (mu (.i (.b xA xB) (.i (.l xB xN) (.b xA xN))) [_,_]) hj h5)]
 have V6:(rs n)[j]? =aa ((rs n)[j]'(by exact (mu (.i (.b xA xC) (.i (.e xB xC) (.b xA xB))) [_,_,_]) hj Ud)):=aA (by exact (mu (.i (.b xA xC) (.i (.e xB xC) (.b xA xB))) [_,_,_]) hj Ud)
 have Um:=R.lt n hn ((rs n)[j]'(by exact (mu (.i (.b xA xC) (.i (.e xB xC) (.b xA xB))) [_,_,_]) hj Ud)) (dm (by exact (mu (.i (.b xA xC) (.i (.e xB xC) (.b xA xB))) [_,_,_]) hj Ud))
 rw [V6]
 rw [bM _ (by decide)];exact (mu (.i (.b xA xR) (.e (.t (.e (.k xA) 128)) xA)) [_]) Um
theorem G4 {f:Nat->Nat} (hl:l.length=k) (h: ∀j<k,f j=l[j]?.getD 0):(ag k).map f=l:=by
 refine gO (by rw [ah,be,hl]) λi h1 h2=> ?_
 rw [gN,cU,h i (by exact (mu (.i (.e xC xB) (.i (.b xA xC) (.b xA xB))) [_,_,_]) hl h2),aA h2];rfl
theorem Jf (R:pe sz rs):((rU (yz sz)).map λr=>r.map (pF (wh rs)))=(ag 4).map rs:=by
 unfold rU
 rw [aB]
 refine aV λn hn=> ?_
 have hn:=aL.mp hn
 show eU _ (eU _ _)=_
 rw [aB,zx sz hn]
 exact G4 (R.len n hn) λj hj=>PP R hn hj
theorem KP (R:pe sz rs) (hn:n<4):ul (wh rs) ((rU (yz sz)).take (n+1))=sL rs (n+1):=by
 unfold ul rU sL
 rw [<-iK,List.take_range,fX (by exact (mu (.i (.b xA xK) (.l (.a xA xI) xK)) [_]) hn),aB]
 refine aV λk hk=> ?_
 have hk:=aL.mp hk
 have hk4:k<4:=by exact (mu (.i (.b xB xK) (.i (.b xA (.a xB xI)) (.b xA xK))) [_,_]) hn hk
 show eU _ (eU _ _)=_
 rw [aB,zx sz hk4]
 have h5:=(tP R hk4).2.2
 have e:(ag (sz k)).map (λj=>(rs k)[j]?.getD 0)=rs k:=G4 (R.len k hk4) λj z=>rfl
 conv=>rhs;rw [<-e]
 rw [aB]
 refine aV λj hj=> ?_
 have hj:=aL.mp hj
 exact ev_at R hk4 (by exact (mu (.i (.l xB xN) (.i (.b xA xB) (.b xA xN))) [_,_]) h5 hj)
def TF (sz:Nat->Nat) (n:Nat):List LF:=DP ((rU (yz sz)).take (n+1))
def wH (sz:Nat->Nat) (rs:Nat->List Nat) (n h:Nat):Nat:=pF (wh rs) ((TF sz n)[h]?.getD [])
theorem Eb (R:pe sz rs) (hn:n<4):(TF sz n).length=sz n/\ ∀i<sz n,CV (((ud (rU (yz sz)) i)[n]?.getD []).getLast?.getD []) ((TF sz n)[i]?.getD [])=ai:=by
 have h:=JK R
 have h2:=bq.mp ((aP.mp h).2) n (aL.mpr hn)
 unfold Sw at h2
 rw [zx sz hn] at h2
 refine eA (aP.mp h2) λh3 h4=> ?_
 refine ⟨gC h3,λi hi=> ?_⟩
 have h5:=(tP R hn).2.2
 have h6:=bq.mp h4 i (aL.mpr (by exact (mu (.i (.b xA xB) (.i (.l xB xN) (.b xA xN))) [_,_]) hi h5))
 rw [decide_eq_true hi] at h6
 exact h6
theorem Ht (R:pe sz rs) (hi:i<6):(ud (rU (yz sz)) i).map bj=(ag 4).map λn=>sz n - i:=by
 have h:=JK R
 have h2:=gC (bq.mp ((aP.mp h).1) i (aL.mpr hi))
 rw [h2]
 refine aV λn hn=> ?_
 rw [zx sz (aL.mp hn)]
end
section
variable {sz dt lt:Nat->Nat} {rs:Nat->List Nat}
theorem Dx {α β:Type} (g:α->β) (d:α) {l:List α} (h:l.length=k):((ag k).map λi=>g (l[i]?.getD d))=l.map g:=by
 refine gO (by rw [ah,be,ah,h]) λi h1 h2=> ?_
 rw [ah] at h2
 rw [gN,cU,gN,aA h2];rfl
theorem Hn (R:pe sz rs) (hn:n<4):sy rs n=(yC sz (wH sz rs) n).map λx:Nat=>(x:Int):=by
 have Uj:(rU (yz sz)).take (n+1)≠[]:=by
  intro q
  have:=congrArg bj q
  unfold rU at this
  rw [dk,ah,be] at this
  have e:([]:List (List LF)).length=0:=rfl
  exact (mu (.i (.e (.n (.a xA xI) xK) xB) (.n (.e xB xJ))) [_,_]) this e
 unfold sy
 rw [<-KP R hn,OG _ _ Uj]
 show (TF sz n).map _=_
 unfold yC wH
 rw [aB,<-Dx (λf=>(ev (wh rs) f).fmod 128) [] (Eb R hn).1]
 refine aV λh z=> ?_
 show (ev (wh rs) ((TF sz n)[h]?.getD [])).fmod 128=((pF _ _:Nat):Int)
 rw [uD]
theorem Ig (n h:Nat):wH sz rs n h<128:=Qw _ _
theorem LH (R:pe sz rs) (hn:n<4) (hh:h<sz n):(sy rs n)[h]? =aa ((wH sz rs n h:Nat):Int):=by
 rw [Hn R hn,a7]
 unfold yC
 rw [oO hh];rfl
def VN (sz:Nat->Nat) (rs:Nat->List Nat) (i n:Nat):List Nat:=((ud (rU (yz sz)) i)[n]?.getD []).map (pF (wh rs))
theorem E7 (R:pe sz rs) (hi:i<6):(ud (rU (yz sz)) i).length=4:=by
 have:=congrArg bj (Ht R hi)
 rw [ah,ah,be] at this;exact this
theorem N6 (R:pe sz rs) (hi:i<6):BG ((ag 4).map rs) i=(ag 4).map (VN sz rs i):=by
 rw [<-Jf R,Hp]
 rw [<-Dx (λr=>r.map (pF (wh rs))) [] (E7 R hi)]
 rfl
theorem Np (R:pe sz rs) (hi:i<6) (hn:n<4):(VN sz rs i n).length=sz n - i:=by
 unfold VN
 rw [ah]
 have h:((ud (rU (yz sz)) i).map bj)[n]?.getD 0=((ag 4).map λn=>sz n - i)[n]?.getD 0:=by rw [Ht R hi]
 rw [oO hn,a7] at h
 have hl:=E7 R hi
 rw [aA (by exact (mu (.i (.b xA xK) (.i (.e xB xK) (.b xA xB))) [_,_]) hn hl)] at h ⊢
 exact h
theorem Rb (R:pe sz rs) (hn:n<4) (hi:i<sz n):(VN sz rs i n).getLast?.getD 0=wH sz rs n i:=by
 have h5:=(tP R hn).2.2
 have hl:=Np R (i:=i) (by exact (mu (.i (.b xA xB) (.i (.l xB xN) (.b xA (.c 6)))) [_,_]) hi h5) hn
 have he:=Qu (xs:=wh rs) ((Eb R hn).2 i hi)
 unfold wH
 rw [<-he]
 unfold VN at hl ⊢
 rw [ah] at hl
 rw [gB]
 cases hg:((ud (rU (yz sz)) i)[n]?.getD []).getLast? with
 |none=>rw [j4] at hg;rw [hg] at hl;have e:([]:List LF).length=0:=rfl;exact (mu (.i (.b xC xD) (.i (.e xE (.s xD xC)) (.i (.e xE xJ) (.e xA xB)))) [_,_,_,_,_]) hi hl e
 |some f=>rfl
def ug (dt lt:Nat->Nat) (i:Nat) (q:Nat×List Nat):En:=(kk dt i q.1,lt q.1,q.2)
noncomputable def uX (e:En):Bool:= !e.2.2.isEmpty
noncomputable def xW:Nat->List En->List En
 |_,[]=>[]
 |a,(k,c,r)::t=>(k,c,oA a r.dropLast)::xW (pK a r.dropLast) t
theorem Ls (k c a:Nat) (r:List Nat):uX (k,c,oA a r)= !r.isEmpty:=by
 cases r<;>rfl
theorem vN: ∀(es:List En) (a:Nat),oW a (es.filter uX)=(xW a es).filter uX
 |[],_=>rfl
 |(k,c,r)::t,a=>by
  cases r with
  |nil=>
   have e1:((k,c,[])::t:List En).filter uX=t.filter uX:=rfl
   have e2:(xW a ((k,c,[])::t)).filter uX=(xW a t).filter uX:=rfl
   rw [e1,e2];exact vN t a
  |cons x r=>
   have e1:((k,c,x::r)::t:List En).filter uX=(k,c,x::r)::t.filter uX:=rfl
   rw [e1]
   show (if (x::r).dropLast=[] then [] else [(k,c,oA a (x::r).dropLast)])++oW (pK a (x::r).dropLast) (t.filter uX)=List.filter uX ((k,c,oA a (x::r).dropLast)::xW (pK a (x::r).dropLast) t)
   rw [vN t]
   have hs:=Ls k c a (x::r).dropLast
   by_cases h:(x::r).dropLast=[]
   ·rw [if_pos h,gS (by rw [hs,h];exact dy)];rfl
   ·rw [if_neg h,gR (by rw [hs];simpa using h)];rfl
theorem DA (i:Nat): ∀(ns:List Nat) (vs:List (List Nat)) (a:Nat),xW a ((dF ns vs).map (ug dt lt i))=(dF ns (zH a vs)).map (ug dt lt i)
 |[],vs,a=>by rw [ml,ml];rfl
 |n::ns,[],a=>rfl
 |n::ns,v::vs,a=>by
  show (kk dt i n,lt n,oA a v.dropLast)::xW (pK a v.dropLast) ((dF ns vs).map (ug dt lt i))=_
  rw [DA i ns vs];rfl
theorem JT (i:Nat) (q:Nat×List Nat):vb (ug dt lt i q)=ug dt lt (i+1) q:=by
 have:(if kk dt i q.1=0 then 0 else kk dt i q.1+1)=kk dt (i+1) q.1:=by
  unfold kk
  by_cases h:dt q.1=0
  ·rw [if_pos h,if_pos h];rfl
  ·rw [if_neg h,if_neg h,if_neg (by exact (mu (.i (.n (.e xA xJ)) (.n (.e (.a xA xB) xJ))) [_,_]) h)];exact mu (.e (.a (.a xA xB) xI) (.a xA (.a xB xI))) [_,_]
 show ((if kk dt i q.1=0 then 0 else kk dt i q.1+1),lt q.1,q.2)=_
 rw [this];rfl
theorem G6 (e0:List En) (rows:List (List Nat)) (h0:e0=((dF (ag 4) rows).map (ug dt lt 0)).filter uX): ∀i,wo e0 i=((dF (ag 4) (BG rows i)).map (ug dt lt i)).filter uX
 |0=>h0
 |i+1=>by
  show (oW 0 (wo e0 i)).map vb=_
  rw [G6 e0 rows h0 i,vN,DA]
  have hf: ∀l:List En,(l.filter uX).map vb=(l.map vb).filter uX:=by
   intro l
   rw [List.filter_map]
   rfl
  rw [hf,aB]
  congr 1
  exact aV λq z=>JT i q
end
section
variable {sz dt lt:Nat->Nat} {rs:Nat->List Nat}
noncomputable def wL (dt lt:Nat->Nat) (rs:Nat->List Nat):List En:=(ag 4).map λn=>(dt n,lt n,rs n)
theorem KL:(wL dt lt rs).map n8=tQ dt lt rs:=by
 unfold wL tQ
 rw [aB];rfl
theorem Dq {β:Type} (f:Nat->β) (l:List Nat):dF l (l.map f)=l.map λn=>(n,f n):=by
 induction l with
 |nil=>rfl
 |cons a l ih=>rw [ba,iT,ih];rfl
theorem Gf {α β:Type} (p:β->Bool) (h:α->β) (l:List α):(l.map h).filter p=l.flatMap λn=>if p (h n)=ai then [h n] else []:=by
 induction l with
 |nil=>rfl
 |cons a l ih=>
  rw [ba,bg,<-ih]
  by_cases hp:p (h a)=ai
  ·rw [if_pos hp,gR hp];rfl
  ·rw [if_neg hp,gS hp];rfl
theorem K5 (R:pe sz rs):wL dt lt rs=((dF (ag 4) ((ag 4).map rs)).map (ug dt lt 0)).filter uX:=by
 rw [Dq,aB]
 have e:(ag 4).map (ug dt lt 0∘λn=>(n,rs n))=wL dt lt rs:=by
  refine aV λn z=> ?_
  have:kk dt 0 n=dt n:=by unfold kk;split<;>(first|exact (mu (.i (.e xA xJ) (.e xJ xA)) [_]) (by assumption)|exact mu (.e (.a xA xJ) xA) [_])
  show (kk dt 0 n,lt n,rs n)=_
  rw [this]
 rw [e]
 symm
 refine bW.mpr λx hx=> ?_
 obtain ⟨n,hn,rfl⟩:=aK.mp hx
 have hn:=aL.mp hn
 have h1:=R.len n hn
 have h2:=(tP R hn).1
 cases hr:rs n with
 |nil=>rw [hr] at h1;have e:([]:List Nat).length=0:=rfl;exact ((mu (.i (.e xA xB) (.i (.l xI xB) (.n (.e xA xJ)))) [_,_]) h1 h2 e).elim
 |cons x l=>rfl
theorem NC (R:pe sz rs) (hi:i<6):wo (wL dt lt rs) i=(ag 4).flatMap λn=>if i<sz n then [ug dt lt i (n,VN sz rs i n)] else []:=by
 rw [G6 _ _ (K5 R) i,N6 R hi,Dq,aB,Gf]
 rw [cm,cm]
 congr 1
 refine aV λn hn=> ?_
 have hn:=aL.mp hn
 have hl:=Np R hi hn
 have e:(uX ((ug dt lt i∘λn=>(n,VN sz rs i n)) n)=ai)↔i<sz n:=by
  show ((!(VN sz rs i n).isEmpty)=ai)↔_
  cases hv:VN sz rs i n with
  |nil=>rw [hv] at hl;have e:([]:List Nat).length=0:=rfl;simp;exact (mu (.i (.e xC (.s xA xB)) (.i (.e xC xJ) (.l xA xB))) [_,_,_]) hl e
  |cons x l=>rw [hv] at hl;rw [aU] at hl;simp;exact (mu (.i (.e (.a xC xI) (.s xB xA)) (.b xA xB)) [_,_,_]) hl
 by_cases h:i<sz n
 ·rw [if_pos (e.mpr h),if_pos h];rfl
 ·rw [if_neg (λq=>h (e.mp q)),if_neg h]
theorem Ko (R:pe sz rs) (hi:i<6):(wo (wL dt lt rs) i).map r5=(ag 4).flatMap (qR sz dt lt (wH sz rs) i):=by
 rw [NC R hi,List.map_flatMap,cm,cm]
 congr 1
 refine aV λn hn=> ?_
 have hn:=aL.mp hn
 unfold qR
 by_cases h:i<sz n
 ·rw [if_pos h,if_pos h,eY]
  show [(m6 (kk dt i n) (lt n),ph (128+(VN sz rs i n).getLast?.getD 0))]=_
  rw [Rb R hn h];rfl
 ·rw [if_neg h,if_neg h];rfl
theorem Nc (R:pe sz rs): ∀i,i<=6->zr (wL dt lt rs) i=(ag i).flatMap λh=>(ag 4).flatMap (qR sz dt lt (wH sz rs) h)
 |0,_=>rfl
 |i+1,hi=>by
  show zr _ i++(wo _ i).map r5=_
  rw [Nc R i (by exact (mu (.i (.l (.a xA xI) (.c 6)) (.l xA (.c 6))) [_]) hi),Ko R (by exact (mu (.i (.l (.a xA xI) (.c 6)) (.b xA (.c 6))) [_]) hi),cy (n:=i),bV,gX]
theorem PK (R:pe sz rs):zr (wL dt lt rs) (sz 3)=qy sz dt lt (wH sz rs):=by
 have:=R.s4
 rw [Nc R _ (by exact (mu (.i (.l xA xN) (.l xA (.c 6))) [_]) this),zS]
theorem PO (R:pe sz rs):wo (wL dt lt rs) (sz 3)=[]:=by
 have:=R.s4
 rw [NC R (by exact (mu (.i (.l xA xN) (.b xA (.c 6))) [_]) this)]
 refine List.flatMap_eq_nil_iff.mpr λn hn=> ?_
 have:=(tP R (aL.mp hn)).2.1
 rw [if_neg (by exact (mu (.i (.l xB xA) (.n (.b xA xB))) [_,_]) this)]
theorem Rc (R:pe sz rs) (W:uz sz dt lt):z7 0 (wL dt lt rs):=by
 refine ⟨by unfold wL;rw [ah,be];exact mu (.l xK xK) [] [],λe he=> ?_,?_⟩
 ·refine mQ (aK.mp he) λn hn T0=> ?_;obtain rfl:=T0
  have hn:=aL.mp hn
  have h1:=R.len n hn
  have h2:=tP R hn
  have h3:=W.dots n hn
  refine ⟨by exact (mu (.i (.b xA xO) (.l xA (.a xM xJ))) [_]) h3,W.lets n hn,λq=> ?_,by exact (mu (.i (.e xA xB) (.i (.l xB xN) (.l (.a xA xJ) xN))) [_,_]) h1 h2.2.2,R.lt n hn⟩
  have q:rs n=[]:=q
  rw [q] at h1
  have e:([]:List Nat).length=0:=rfl
  exact (mu (.i (.e xA xB) (.i (.l xI xB) (.n (.e xA xJ)))) [_,_]) h1 h2.1 e
 ·unfold wL
  rw [mm]
  have:(ag 4).Pairwise λa b=>a<4/\b<4/\a≠b:=by
   rw [show ag 4=[0,1,2,3] from rfl]
   decide
  exact this.imp λ⟨ha,hb,Uj⟩ e=>Uj (W.keys _ ha _ hb e)
end
def Bq (ns:List Int):Int:=Bf ns (0,18709805)
def Dt (ns:List Int):List Int:=BC.map (Bf ns)
def wB (ns:List Int):List Int:=E0 (Bq ns)
def sQ (ns:List Int) (n:Nat):Nat:=((wB ns)[n]?.getD 0).toNat
def tD (ns:List Int):Nat:=(Bq ns).toNat/625
def rM (ns:List Int) (n:Nat):List Nat:=(w0 (Dt ns) (wB ns) n).map Int.toNat
def wg (ns:List Int) (n:Nat):Nat:=D0 (tD ns:Int) n
def ux (ns:List Int) (n:Nat):Nat:=AL (tD ns:Int) n
theorem GS: ∀l:List Int,(∀x∈l,0<=x)->0<=l.sum
 |[],_=>Int.le_refl _
 |x::l,h=>by
  rw [d9]
  have:=h x (.head _)
  have:=GS l λy hy=>h y (.tail _ hy)
  exact (mu (.i (.L xJ xA) (.i (.L xJ xB) (.L xJ (.a xA xB)))) [] [_,_]) (by assumption) this
theorem Pz (ns:List Int):0<=Bq ns:=by
 have:0<=((i4 ns (aa ((0:Nat):Int)) (aa 60) (aa 5)).map λx=>x.fmod 1000000000000).sum:=GS _ λy hy=>by
  obtain ⟨x,_,rfl⟩:=aK.mp hy
  exact (qN (by decide)).1
 exact (mu (.i (.L xJ xA) (.L xJ (.a (.c 18709805) xA))) [] [_]) this
theorem RQ (ns:List Int):(Bq ns).fdiv 625=(tD ns:Int):=by
 have:=Pz ns
 rw [bX _ (by decide)];exact (mu (.i (.L xJ xA) (.E (.d xA 625) (.k (.d (.t xA) 625)))) [] [_]) this
theorem Lm (ns:List Int):(12:Int)+(tD ns:Int).fmod 6=((12+tD ns % 6:Nat):Int):=by
 rw [bM _ (by decide)];exact mu (.E (.a (.c 12) (.e (.k xA) 6)) (.k (.a (.c 12) (.e xA 6)))) [_]
theorem Fi (ns:List Int): ∀x∈wB ns,1<=x/\x<=5:=λx hx=>by
 have:=(sortI_perm ((ag 4).map (Ba (Bq ns)))).mem_iff.mp hx
 refine mQ (aK.mp this) λk z T0=> ?_;obtain rfl:=T0
 have:=qN (a:=(Bq ns).fdiv ((5:Int)^k)) (m:=5) (by decide)
 exact (mu (.i (.L xJ xA) (.i (.B xA xN) (.a (.L xI (.a xI xA)) (.L (.a xI xA) xN)))) [] [_]) this.1 this.2
theorem Fc (ns:List Int):(wB ns).length=4:=by
 have:=(sortI_perm ((ag 4).map (Ba (Bq ns)))).length_eq
 rw [ah,be] at this;exact this
theorem N3 (ns:List Int): ∃a b c d:Int,wB ns=[a,b,c,d]/\a<=b/\b<=c/\c<=d:=by
 have hl:=Fc ns
 have hr:(wB ns).Pairwise (· <= ·):=sortI_rises _
 refine oU (Cq hl) λa r e h=>vk (vo h) λb c d f=> ?_
 rw [e,f] at hr
 rw [dU,dU,dU] at hr
 exact ⟨a,b,c,d,by rw [e,f],hr.1 b (by simp),hr.2.1 c (by simp),hr.2.2.1 d (by simp)⟩
theorem He (ns:List Int):wB ns=(ag 4).map λn=>((sQ ns n:Nat):Int):=by
 refine gO (by rw [Fc,ah,be]) λi h1 h2=> ?_
 rw [gN,cU]
 have:=Fi ns _ (dm h1)
 unfold sQ
 rw [aA h1]
 exact (eR (Int.le_trans (by decide) this.1)).symm
theorem Ea (v:Int) (i:Nat):0<=w6 v i/\w6 v i<128:=qN (by decide)
theorem B2 (ns:List Int):pe (sQ ns) (rM ns):=by
 refine E1 (N3 ns) λa b c d e h1 h2 h3=> ?_
 have hm:=Fi ns
 rw [e] at hm
 have ma:=hm a (by simp)
 have md:=hm d (by simp)
 have e0:sQ ns 0=a.toNat:=by unfold sQ;rw [e];rfl
 have e1:sQ ns 1=b.toNat:=by unfold sQ;rw [e];rfl
 have e2:sQ ns 2=c.toNat:=by unfold sQ;rw [e];rfl
 have e3:sQ ns 3=d.toNat:=by unfold sQ;rw [e];rfl
 refine ⟨by rw [e0];exact fc ma.1,by rw [e0,e1];exact fc h1,by rw [e1,e2];exact fc h2,by rw [e2,e3];exact fc h3,by rw [e3];exact fc md.2,λn z=> ?_,λn z x hx=> ?_⟩
 ·unfold rM w0
  rw [ah,ah,be];rfl
 ·unfold rM w0 at hx
  rw [aB] at hx
  obtain ⟨i,_,rfl⟩:=aK.mp hx
  have:=Ea ((Dt ns)[n+1]?.getD 0) i
  exact (mu (.i (.B xA xR) (.b (.t xA) xR)) [] [_]) this.2
theorem NO (ns:List Int) (n:Nat):(w0 (Dt ns) (wB ns) n).map PV.int=(rM ns n).map λx:Nat=>PV.int x:=by
 unfold rM
 rw [aB]
 refine aV λx hx=> ?_
 refine mQ (aK.mp hx) λi z T0=> ?_;obtain rfl:=T0
 have:=Ea ((Dt ns)[n+1]?.getD 0) i
 show PV.int _=PV.int (((w6 _ _).toNat:Nat):Int)
 rw [eR this.1]
theorem Kx (dr:Int): ∀n<4,(AL dr n=97+n\/AL dr n=65+n):=by
 intro n hn
 have h:=qN (a:=(dr.fdiv 54).fdiv ((2:Int)^n)) (m:=2) (by decide)
 have Uz: ∀k<2,∀n<4,((uj[k]?.getD [])[n]?.getD 97=97+n\/(uj[k]?.getD [])[n]?.getD 97=65+n):=by decide
 exact Uz _ (by exact (mu (.i (.B xA xM) (.b (.t xA) xM)) [] [_]) h.2) n hn
theorem JH (ns:List Int):uz (sQ ns) (wg ns) (ux ns):=by
 have R:=B2 ns
 refine ⟨λn hn=> ?_,λn hn m hm e=> ?_,λn hn=> ?_,λn hn=>⟨(tP R hn).1,(tP R hn).2.1⟩,R.s4⟩
 ·have k: ∀n<4,(97+n)∈sO/\(65+n)∈sO:=by decide
  unfold ux
  rcases Kx (tD ns) n hn with h|h
  ·rw [h];exact (k n hn).1
  ·rw [h];exact (k n hn).2
 ·have k: ∀n<4,xt (ux ns n)=97+n:=λn hn=>by
   have k: ∀n<4,xt (97+n)=97+n/\xt (65+n)=97+n:=by decide
   unfold ux
   rcases Kx (tD ns) n hn with h|h
   ·rw [h];exact (k n hn).1
   ·rw [h];exact (k n hn).2
  rw [k n hn,k m hm] at e;exact (mu (.i (.e (.a (.c 97) xA) (.a (.c 97) xB)) (.e xA xB)) [_,_]) e
 ·have:=qN (a:=((tD ns:Int).fdiv 864).fdiv ((3:Int)^n)) (m:=3) (by decide)
  exact (mu (.i (.B xA xO) (.b (.t xA) xO)) [] [_]) this.2
theorem FD (dr d:Int):tc (vq dr d):=by
 have h:=qN (a:=dr.fdiv d) (m:=3) (by decide)
 have Uz: ∀k<3,(A0[k]?.getD [10])=[10]\/(A0[k]?.getD [10])=[13,10]\/(A0[k]?.getD [10])=[13]:=by decide
 exact Uz _ (by exact (mu (.i (.B xA xO) (.b (.t xA) xO)) [] [_]) h.2)
theorem QY (ns:List Int):(PV.list ((ag 4).map λn=>.list ((w0 (Dt ns) (wB ns) n).map PV.int)))=uT (rM ns):=by
 congr 1
 exact aV λn z=>by rw [NO]
theorem On (ns:List Int):(PV.list ((wB ns).map PV.int))=PV.list ((ag 4).map λn=>.int (sQ ns n:Nat)):=by
 rw [He ns,aB];rfl
theorem Hk (ns:List Int):(tQ (wg ns) (ux ns) (rM ns)).length=4/\ ∀q∈tQ (wg ns) (ux ns) (rM ns),q.1.length<=3/\q.2.length<=5:=by
 have R:=B2 ns
 have W:=JH ns
 refine ⟨by unfold tQ;rw [ah,be],λq hq=> ?_⟩
 refine mQ (aK.mp hq) λn hn T0=> ?_;obtain rfl:=T0
 have hn:=aL.mp hn
 have h1:=W.dots n hn
 have h2:=R.len n hn
 have h3:=(tP R hn).2.2
 constructor
 ·show (m6 _ _).length<=3
  rw [m6,af,a8];exact (mu (.i (.b xA xO) (.l (.a xA xI) xO)) [_]) h1
 ·show (mR _).length<=5
  rw [mR,ah];omega
theorem Lg (ns:List Int):(oy (tQ (wg ns) (ux ns) (rM ns))).length<=1000:=by
 obtain ⟨h4,hq⟩:=Hk ns
 rw [vJ,pM,af]
 have:=vO (f:=λx:List Nat=>x++[13,10]) (k:=12) (l:=(tQ (wg ns) (ux ns) (rM ns)).map λq:List Nat×List Nat=>q.1++58::32::q.2) (λx hx=>by
  refine mQ (aK.mp hx) λq hm T0=> ?_;obtain rfl:=T0
  have:=hq q hm
  rw [af,af];exact (mu (.i (.l xA xO) (.i (.l xB xN) (.l (.a (.a xA (.a (.a xB xI) xI)) xM) (.c 12)))) [_,_]) this.1 this.2)
 rw [ah,h4] at this
 exact (mu (.i (.l xA (.m 12 xK)) (.l (.a xA xM) xQ)) [_]) this
section
variable {w:av} {A:aX} {g:aW} {L:aF}
set_option maxHeartbeats 4000000 in
theorem Q0 (G:Gd w 5 (c1 A g L)) (hA:A.frames=aa []) (S2:te g) (W2:Bm g) (hT:g.get? 330=aa (eh #[])) {ns:List Int} (hn:ns.length<=63) (hJ: ∀g',mT (hideAll g [330]) g'->(∃ps,g'.get? 330=aa (eh ps))-> ∀fl h,uy g' [] (.bool ai) fl h->J fl h):
  mS ms w (c1 A g L).env (c1 A g L).A (In (c1 A g L) [("script",.list (ns.map PV.int))] [])
   [ni ny 0,ni ny 1,ni ny 2,ni ny 3,ni ny 4,ni ny 5,ni ny 6,ni ny 7,ni ny 8,ni ny 9,ni ny 10,ni ny 11,ni ny 12,ni ny 13,ni ny 14,ni ny 15,ni ny 16,ni ny 17,ni ny 18,ni ny 19,ni ny 20] J:=by
 have R:=B2 ns
 have W:=JH ns
 have Vv:=aw
 have hz5:=R.s4
 refine MH G hn (by walk_at "lk") ?_
 refine LL G (cs:=Dt ns) (c0:=Bq ns) rfl (by walk_at "lk") ?_
 refine Pg G (cs:=Dt ns) (sz:=wB ns) rfl (Fc ns) (λx hx=>by have:=Fi ns x hx;exact (mu (.i (.L xI xA) (.i (.L xA xN) (.a (.L xJ xA) (.L xA xN)))) [] [_]) this.1 this.2) (by walk_at "lk") (by walk_at "lk") ?_
 rw [QY ns]
 refine OK G (cs:=Dt ns) (c0:=Bq ns) (dr:=(tD ns:Int)) rfl (RQ ns) (by walk_at "lk") ?_
 rw [Lm ns]
 refine Ix G (dr:=(tD ns:Int)) (by walk_at "lk") ?_
 refine Oj G (dr:=(tD ns:Int)) (by walk_at "lk") ?_
 refine Pf G (dt:=wg ns) (lt:=ux ns) (rs:=rM ns) W.dots (λn h=>(ry 0 (by decide) _ (W.lets n h)).2.2.2.2.2.2.1) (λn h=>⟨by rw [R.len n h];exact (tP R h).2.2,R.lt n h⟩) (by walk_at "lk") (by walk_at "lk") (by walk_at "lk") ?_
 refine Lv (Gd.sub (m:=3) G (by decide)) (λD hD hX=> ?_) (λD=>.inr ⟨L+11,n7.own' (ve rfl (by rfl) (by rfl))⟩)
 have hD330:D≠330:=λq=>by
  have hD:g.get? D=az:=hD
  rw [q,hT] at hD;exact tC hD
 refine eA (Hk ns) λhb4 hbq=> ?_
 refine JY (l:=tQ (wg ns) (ux ns) (rM ns)) hA (G.addOwn D) W2 hT hD330 (by walk_at "lk") ⟨by exact (mu (.i (.e xA xK) (.l xA xP)) [_]) hb4,λq hq=>by have:=hbq q hq;exact (mu (.i (.l xA xO) (.i (.l xB xN) (.a (.l xA xP) (.l xB xP)))) [_,_]) this.1 this.2⟩ (Lg ns) (by walk_at "lk") λg' hk hK2 GW=> ?_
 refine IZ GW (by walk_at "lk") ?_
 refine s9 (J':=J) (J:=uy g' [] (.bool ai)) ?_ (λz h=>h) (hJ g' hk hK2)
 generalize hκ:([("struck",.inst D),("dots",.list ((ag 4).map λn=>.int (wg ns n:Nat))),("letters",.list ((ag 4).map λn=>.str (S [ux ns n]))),("mark",.str (S (vq (tD ns:Int) 18))),("eol",.str (S (vq (tD ns:Int) 6))),("width",.int ((12+tD ns % 6:Nat):Int)),("dress",.int (tD ns:Int)),("rows",uT (rM ns)),("sizes",.list ((wB ns).map PV.int))]:mW)=κ
 have k1:κ.lookup ("struck":Str)=aa (.inst D):=by subst hκ;walk_at "lk"
 have k2:κ.lookup ("dots":Str)=aa (.list ((ag 4).map λn=>.int (wg ns n:Nat))):=by subst hκ;walk_at "lk"
 have k3:κ.lookup ("letters":Str)=aa (.list ((ag 4).map λn=>.str (S [ux ns n]))):=by subst hκ;walk_at "lk"
 have k4:κ.lookup ("mark":Str)=aa (.str (S (vq (tD ns:Int) 18))):=by subst hκ;walk_at "lk"
 have k5:κ.lookup ("eol":Str)=aa (.str (S (vq (tD ns:Int) 6))):=by subst hκ;walk_at "lk"
 have k6:κ.lookup ("width":Str)=aa (.int ((12+tD ns % 6:Nat):Int)):=by subst hκ;walk_at "lk"
 have k7:κ.lookup ("dress":Str)=aa (.int (tD ns:Int)):=by subst hκ;walk_at "lk"
 have k8:κ.lookup ("rows":Str)=aa (uT (rM ns)):=by subst hκ;walk_at "lk"
 have k9:κ.lookup ("sizes":Str)=aa (.list ((wB ns).map PV.int)):=by subst hκ;walk_at "lk"
 have kA:Ap κ ("told"::"due"::LN):=by
  subst hκ
  repeat refine Ap.cons ?_ (by decide+kernel)
  exact Ap.nil
 have kN:Ap κ LN:=kA.mono (by decide+kernel)
 refine o0 (σ':=("book",.hdr (hp ((wL (wg ns) (ux ns) (rM ns)).map n8)))::κ) (by rw [KL];subst hκ;walk_at "has") ?_
 refine LV GW ((te.hide S2).keep hk) (e0:=wL (wg ns) (ux ns) (rM ns)) (dr:=tD ns) (H:=sQ ns 3) (W:=12+tD ns % 6) (Rc R W) hz5 kN k1 k7 (FD _ _) (FD _ _) (by exact mu (.l (.c 12) (.a (.c 12) (.e xA 6))) [_]) (by exact mu (.l (.a (.c 12) (.e xA 6)) xP) [_]) k6 k5 k4 (sz:=wB ns) (by rw [He];exact oO (by decide)) k9 ?_
 rw [PO R,PK R]
 refine ON GW (rs:=rM ns) (λn h=>by rw [R.len n h];have:=tP R h;omega) (by walk_at "lk") ?_
 have kB:Ap (("told",vA (rM ns))::("book",.hdr (hp (([]:List En).map n8)))::κ) ("due"::LD):=(((kA.mono (xs:="book"::"told"::"due"::LD) (by decide+kernel)).cons (by decide+kernel)).cons (by decide+kernel))
 refine Q5 GW (κ:=("told",vA (rM ns))::("book",.hdr (hp (([]:List En).map n8)))::κ) (sz:=sQ ns) (dt:=wg ns) (lt:=ux ns) (rs:=rM ns) (pl:=wH (sQ ns) (rM ns)) (H:=sQ ns 3) hz5 W.dots rfl (λn hn h hh=>⟨LH R hn hh,Ig _ _⟩) (kB.mono (by decide+kernel)) (by rw [<-On];clear kB;walk_at "lk") (by walk_at "lk") (by walk_at "lk") (by walk_at "lk") ?_
 have kC:Ap (("due",.list (hp (qy (sQ ns) (wg ns) (ux ns) (wH (sQ ns) (rM ns)))))::("told",vA (rM ns))::("book",.hdr (hp (([]:List En).map n8)))::κ) LE:=((((kA.mono (xs:="book"::"told"::"due"::LE) (by decide+kernel)).cons (by decide+kernel)).cons (by decide+kernel)).cons (by decide+kernel))
 refine Jx GW (κ:=("due",.list (hp (qy (sQ ns) (wg ns) (ux ns) (wH (sQ ns) (rM ns)))))::("told",vA (rM ns))::("book",.hdr (hp (([]:List En).map n8)))::κ) (rs:=rM ns) W (λn z h z=>Ig n h) (λn hn=>Hn R hn) (FD _ _) kC (by walk_at "lk") (by walk_at "lk") (by walk_at "lk") (by walk_at "lk") (by walk_at "lk") (by walk_at "lk") ?_
 refine Lr GW (W:=12+tD ns % 6) (by exact mu (.l (.c 12) (.a (.c 12) (.e xA 6))) [_]) (by walk_at "lk") (by walk_at "lk") (by walk_at "lk") ?_
 refine Mr GW (Q:=qy (sQ ns) (wg ns) (ux ns) (wH (sQ ns) (rM ns))) (by have:=Fa (pl:=wH (sQ ns) (rM ns)) W;omega) (FL W λn z h z=>Ig n h) (.head _) (by walk_at "lk") (by walk_at "lk") ?_
 exact Oe GW (by walk_at "lk") (by walk_at "lk") (by walk_at "lk")
end
section
variable {w:av}
theorem Gn:pn 6 callerA:=⟨rfl,by decide+kernel,by decide+kernel⟩
theorem NV:ny=[ni ny 0,ni ny 1,ni ny 2,ni ny 3,ni ny 4,ni ny 5,ni ny 6,ni ny 7,ni ny 8,ni ny 9,ni ny 10,ni ny 11,ni ny 12,ni ny 13,ni ny 14,ni ny 15,ni ny 16,ni ny 17,ni ny 18,ni ny 19,ni ny 20]:=by kernel_rfl
theorem MD {ns:List Int} (B:oi w.params s.heap) (S2:te s.heap) (W2:Bm s.heap) (hT:s.heap.get? 330=aa (eh #[])) (hn:ns.length<=63) (r:mO [] s.heap (.list (ns.map PV.int)) v):
  aC (aI ms w) callerA (ft (.ref 333) [v]) (λv' s'=>v'= .bool ai/\nA s s'/\ ∃g',mT (hideAll s.heap [330]) g'/\(∃ps,g'.get? 330=aa (eh ps))/\mT g' s'.heap) (λz z=>False) s:=by
 refine ei (xz (M:=[]) (X:=[]) (ns:=["script"]) (qs:=[.list (ns.map PV.int)]) (Λ:=[]) (B.defAt (RA _)) (by decide+kernel) (λz h=>nomatch h) (λz h=>nomatch h) (λz h=>nomatch h) (xw (ps:=[.list (ns.map PV.int)]) (mJ.cons r mJ.nil) λvs e=> ?hb) (λz h=>nomatch h) (vV (by kernel_rfl)) λL T2 k z hL T7=> ?_)
 case hb=>
  refine eE (vp e) λz T0=> ?_;obtain rfl:=T0;kernel_rfl!
 have G:Gd w 5 (c1 callerA s.heap L):=⟨B,(λz h=>nomatch h),Gn.deeper _,(by rfl),rfl,rfl⟩
 have W:=Q0 (w:=w) (A:=callerA) (g:=s.heap) (L:=L) G rfl S2 W2 hT hn (J:=λfl h=> ∃g',mT (hideAll s.heap [330]) g'/\(∃ps,g'.get? 330=aa (eh ps))/\uy g' [] (.bool ai) fl h) (λg' hk hp fl h hr=>⟨g',hk,hp,hr⟩)
 rw [<-NV] at W
 refine ab (W.run T2 T7) (λfl s' ⟨x,g',hk,hp,kk,rr⟩=> ?_) λz z e=>e.elim
 exact ⟨rr,(nA.of k).trans x,g',hk,hp,kk⟩
end
end
section
open PySem.Calls PyProof.Rows
noncomputable def bE:List ef:=behindTheImports ms
noncomputable def Ia:Env:={scope:=ms.main.scope,locals:=mainNs,globals:=mainNs,cells:=[],code:=.ref 30,frame:=aa 31}
def cE:Code:=.body bE Ia
noncomputable def sT (t:BT) (n k:Nat) (os:cY):SharedT:=⟨t,n,{},#[],{},k,os⟩
noncomputable def sH (h:aW) (k:Nat) (os:cY):aq:=⟨h,#[],{},k,os⟩
noncomputable def cs (s:List String):List Nat:=s.flatMap λx=>x.toList.map Char.toNat
def Nd (P:aQ) (m v:ay) (k n:Nat):Obj:=oD (en P "__name__" 165 m::((gE P).take 20++en P "c" 1346 v::((gE P).drop 20).take k)).toArray n
noncomputable def tl:List (Nat×Nat):=[(2,37),(21,60),(23,67),(25,75),(34,88),(72,96),(106,103),(129,110),(138,117),(147,124),(166,131),(191,148),(197,171),(206,178),(289,303),(295,308),(309,315),(313,320),(326,327),(332,332)]
def tb (k:Nat) (l:List (Nat×Nat)):Obj:=oN (l.flatMap λq=>[.int (.ofNat q.1) 0,.int (.ofNat k) 0,.ref q.2])
def oM (s:String) (t ln a k:Nat):Obj:=Iw (sS s t) (sS s (t+1)) t ln 0 0 0 a (t+3) k false [.none,.none,.none]
noncomputable def oR (a b:Nat) (m:ay):Obj:=⟨.type "frame",az,.plain,#[aa (.ref a),aa (.ref 3),aa (.ref b),az,aa m,az,aa (.ref 0)]⟩
def eB (P:aQ) (f:String->ay) (t:Nat) (l:List String):List jd:=l.zipIdx.map λq=>en P q.1 (t+q.2) (f q.1)
def rP (s:String) (t fl a:Nat) (l:List Nat):List Obj:=[oL (l.zipIdx.map λq=>.int (.ofNat q.1) (t+2+q.2)).toArray,oD #[] 0,oT #[.none],pT l,pP s t fl a l.length]
noncomputable def uJ:BT->List (Nat×Obj)->BT
 |t,[]=>t
 |t,(i,o)::l=>uJ (t.set i λz=>o) l
noncomputable def uo:BT->Nat->List Obj->BT
 |t,_,[]=>t
 |t,n,o::l=>uo (t.ins n o) (n+1) l
def TR {α:Type} (f:FF α):α:=f (nK 1) "_wall" mA .none 37 282 2 1 0 3 (aa ["k"])
def H7 (P:aQ):Obj:=gD P (sS "__main__" 164) 9 10
def RI (P:aQ):Obj:=gD P (sS "__main__" 164) 12 13
def R0 (P:aQ):Obj:=gD P (sS "__main__" 164) 13 14
def PE (P:aQ):Obj:=gD P (sS "cpy313.email.quoprimime" 1336) 20 21
def PF (P:aQ):Obj:=Nd P (sS "cpy313.email.quoprimime" 1336) (.int 57 1543) 0 22
def QZ (P:aQ):Obj:=Nd P (sS "cpy313.email.quoprimime" 1336) (.int 9 1832) 0 22
def Qz (P:aQ):Obj:=Nd P (sS "cpy313.email.quoprimime" 1336) (.int 9 1832) 4 26
def PD (P:aQ):Obj:=Nd P (sS "cpy313.email.quoprimime" 1336) (.int 10 1864) 4 26
def Q2 (P:aQ):Obj:=gD P (sS "cpy313.colorsys" 1900) 32 35
def PJ (P:aQ):Obj:=gD P (sS "cpy313.wsgiref.headers" 2054) 42 45
def QG (P:aQ):Obj:=gD P (sS "cpy313.wsgiref.headers" 2054) 43 46
def QC (P:aQ):Obj:=gD P (sS "law_wv0059_01" 2317) 49 52
def Im (P:aQ):Obj:=⟨.none,az,(.dict #[en P "imp\x6frt.loaded._sre" 183 (.bool ai),en P "class._frozen_importlib.BuiltinImporter" 185 (.ref 14),en P "watched.imp\x6frt" 206 (.ref 18),en P "class._frozen_importlib.ModuleSpec" 216 (.ref 22),en P "sys.modules.booked-epoch" 245 (.int 3 0),en P "imp\x6frt.later-laid._sre" 270 (.bool ai),en P "watched.library" 272 (.ref 27),en P "watched.library-objects" 0 (sS "\x0c" 0),en P "watched.library-deep._sre" 273 (sS "\x04\x00\x00\x0b\x04\x00\x00\x0b\x04\x00\x00\x03\x04\x00\x00\x0b\x08\x04dict\x02" 0)] 9),#[]⟩
noncomputable def DL:Obj:=⟨(.type "module"),(aa 0),.plain,#[]⟩
def MK:Obj:=oN []
def OR:Obj:=oQ (uY (Ak 256) yb 1347) 0
def OJ:Obj:=Ni
def Pj:Obj:=Nf
def NZ:Obj:=NB
def k0 (P:aQ):Obj:=oD ([en P "__name__" 1 (sS "builtins" 160),en P "__doc__" 2 (.builtin "builtins.__doc__:str#opaque"),en P "__package__" 3 (.builtin "builtins.__package__:str#opaque"),en P "__loader__" 4 (.builtin "builtins.__loader__:shared#opaque"),en P "__spec__" 5 (.builtin "builtins.__spec__#opaque")]++eB P .builtin 6 ["__build_class__","__import__","abs","all","any","ascii","bin","breakpoint","callable","chr","compile","delattr","dir","divmod","eval","exec","format","getattr","globals","hasattr","hash","hex","id","input","isinstance","issubclass","iter","aiter","len","locals","max","min","next","anext","oct","ord","pow","print","repr","round","setattr","sorted","sum","vars"]++[en P "None" 50 .none,en P "Ellipsis" 51 .ellipsis,en P "NotImplemented" 52 .notImplemented,en P "False" 53 (.bool false),en P "True" 54 (.bool ai)]++eB P .type 55 ["bool","memoryview","bytearray","bytes","classmethod","complex","dict","enumerate","filter","float","frozenset","property","int","list","map","object","range","reversed","set","slice","staticmethod","str","super","tuple","type","zip"]++[en P "__debug__" 81 (.bool ai)]++eB P .type 82 ["BaseException","BaseExceptionGroup","Exception","GeneratorExit","KeyboardInterrupt","SystemExit","ArithmeticError","AssertionError","AttributeError","BufferError","EOFError","ImportError","LookupError","MemoryError","NameError","OSError","ReferenceError","RuntimeError","StopAsyncIteration","StopIteration","SyntaxError","SystemError","TypeError","ValueError","Warning","FloatingPointError","OverflowError","ZeroDivisionError","BytesWarning","DeprecationWarning","EncodingWarning","FutureWarning","ImportWarning","PendingDeprecationWarning","ResourceWarning","RuntimeWarning","SyntaxWarning","UnicodeWarning","UserWarning","BlockingIOError","ChildProcessError","ConnectionError","FileExistsError","FileNotFoundError","InterruptedError","IsADirectoryError","NotADirectoryError","PermissionError","ProcessLookupError","TimeoutError","IndentationError","_IncompleteInputError","IndexError","KeyError","ModuleNotFoundError","NotImplementedError","PythonFinalizationError","RecursionError","UnboundLocalError","UnicodeError","BrokenPipeError","ConnectionAbortedError","ConnectionRefusedError","ConnectionResetError","TabError","UnicodeDecodeError","UnicodeEncodeError","UnicodeTranslateError","ExceptionGroup"]++[en P "EnvironmentError" 151 (.type "OSError"),en P "IOError" 152 (.type "OSError"),en P "open" 153 (.builtin "open"),en P "quit" 154 (.builtin "builtins.quit#opaque"),en P "exit" 155 (.builtin "builtins.exit#opaque"),en P "copyright" 156 (.builtin "builtins.copyright#opaque"),en P "credits" 157 (.builtin "builtins.credits#opaque"),en P "license" 158 (.builtin "builtins.license#opaque"),en P "help" 159 (.builtin "builtins.help#opaque")]).toArray 159
def k1 (P:aQ):Obj:=oD #[en P "builtins" 162 (.ref 4),en P "__main__" 163 (.ref 5),en P "_sre" 244 (.ref 12)] 3
noncomputable def k5:Obj:=⟨(.type "module"),(aa 3),.plain,#[]⟩
def k6:Obj:=oD #[] 0
def k7:Obj:=oT #[]
def k8:Obj:=oN []
def k9:Obj:=oM "<module>" 176 1 7 175
def k10:Obj:=oR 9 3 (sS "__main__" 164)
def k11 (P:aQ):Obj:=oD #[en P "__name__" 247 (sS "_sre" 246),en P "__doc__" 248 .none,en P "__package__" 250 (sS "" 249),en P "__loader__" 251 (.builtin "off-the-table:_sre.__loader__:shared#opaque"),en P "__spec__" 252 (.builtin "off-the-table:_sre.__spec__:shared#opaque"),en P "compile" 253 (.builtin "_sre.compile"),en P "template" 254 (.builtin "off-the-table:_sre.template:shared#opaque"),en P "getcodesize" 255 (.builtin "off-the-table:_sre.getcodesize:shared#opaque"),en P "ascii_iscased" 256 (.builtin "off-the-table:_sre.ascii_iscased:shared#opaque"),en P "unicode_iscased" 257 (.builtin "off-the-table:_sre.unicode_iscased:shared#opaque"),en P "ascii_tolower" 258 (.builtin "off-the-table:_sre.ascii_tolower:shared#opaque"),en P "unicode_tolower" 259 (.builtin "off-the-table:_sre.unicode_tolower:shared#opaque"),en P "MAGIC" 261 (.int 20230612 260),en P "CODESIZE" 263 (.int 4 262),en P "MAXREPEAT" 265 (.int 4294967295 264),en P "MAXGROUPS" 267 (.int 1073741823 266),en P "copyright" 269 (sS " SRE 2.2.2 Copyright (c) 1997-2002 by Secret Labs AB " 268)] 17
noncomputable def k12:Obj:=⟨(.type "module"),(aa 11),.plain,#[]⟩
def Sx (P:aQ):Obj:=oD #[en P "__module__" 189 (sS "_frozen_importlib" 186),en P "__firstlineno__" 190 (.int 971 187),en P "__doc__" 191 (.builtin "_frozen_importlib.BuiltinImporter.__doc__:str#opaque"),en P "_ORIGIN" 192 (sS "built-in" 188),en P "find_spec" 193 (.builtin "_frozen_importlib.BuiltinImporter.find_spec#opaque"),en P "create_module" 194 (.builtin "_frozen_importlib.BuiltinImporter.create_module#opaque"),en P "exec_module" 195 (.builtin "_frozen_importlib.BuiltinImporter.exec_module#opaque"),en P "get_code" 196 (.builtin "_frozen_importlib.BuiltinImporter.get_code#opaque"),en P "get_source" 197 (.builtin "_frozen_importlib.BuiltinImporter.get_source#opaque"),en P "is_package" 198 (.builtin "_frozen_importlib.BuiltinImporter.is_package#opaque"),en P "load_module" 199 (.builtin "_frozen_importlib.BuiltinImporter.load_module#opaque"),en P "__static_attributes__" 200 (.ref 15),en P "__dict__" 202 (.ref 16),en P "__weakref__" 204 (.ref 17)] 14
def Sq:Obj:=oK "BuiltinImporter" 14 13 #[]
def Sp:Obj:=oT #[]
def Sk:Obj:=oF "getset_descriptor" [(sS "__dict__" 201),(.ref 14),(.builtin "function.__dict__"),(.builtin "function.__dict__#set")]
def Si:Obj:=oF "getset_descriptor" [(sS "__weakref__" 203),(.ref 14),(.builtin "ExceptionGroup.__weakref__"),.none]
def Sl:Obj:=⟨.none,az,(.seq #[(.int 13 0),(.str (S (cs ["\x06½\n__module_","_\x06º\x11_frozen_","importlib\x06¾\x0f","__firstlinen","o__\x04»\x00ϋ\x06¿\x07__","doc__\t4_froz","en_importlib",".BuiltinImpo","rter.__doc__",":str#opaque\x06","À\x07_ORIGIN\x06¼\x08","built-in\x06Á\tf","ind_spec\t2_f","rozen_import","lib.BuiltinI","mporter.find","_spec#opaque","\x06Â\rcreate_mo","dule\t6_froze","n_importlib.","BuiltinImpor","ter.create_m","odule#opaque","\x06Ã\x0bexec_modu","le\t4_frozen_","importlib.Bu","iltinImporte","r.exec_modul","e#opaque\x06Ä\x08g","et_code\t1_fr","ozen_importl","ib.BuiltinIm","porter.get_c","ode#opaque\x06Å","\nget_source\t","3_frozen_imp","ortlib.Built","inImporter.g","et_source#op","aque\x06Æ\nis_pa","ckage\t3_froz","en_importlib",".BuiltinImpo","rter.is_pack","age#opaque\x06Ç","\x0bload_module","\t4_frozen_im","portlib.Buil","tinImporter.","load_module#","opaque\x06È\x15__s","tatic_attrib","utes__\x04\x00\x00\x0f\x06Ê","\x08__dict__\x04\x00\x00","\x10\x06Ì\x0b__weakre","f__\x04\x00\x00\x11"])) 0),(.bool ai),(.bool ai),(sS "" 205),(.int 21 0),(.str (S (cs ["\x06ã\n__module_","_\x06Ù\x11_frozen_","importlib\x06ä\x0f","__firstlinen","o__\x04Ú\x00Ȳ\x06å\x07__","doc__\t/_froz","en_importlib",".ModuleSpec.","__doc__:str#","opaque\x06æ\x08__i","nit__\t,_froz","en_importlib",".ModuleSpec.","__init__#opa","que\x06ç\x08__repr","__\t,_frozen_","importlib.Mo","duleSpec.__r","epr__#opaque","\x06è\x06__eq__\t*_","frozen_impor","tlib.ModuleS","pec.__eq__#o","paque\x06é\x06cach","ed\t*_frozen_","importlib.Mo","duleSpec.cac","hed#opaque\x06ê","\x06parent\t*_fr","ozen_importl","ib.ModuleSpe","c.parent#opa","que\x06ë\x0chas_lo","cation\t0_fro","zen_importli","b.ModuleSpec",".has_locatio","n#opaque\x06ì\x15_","_static_attr","ibutes__\x04\x00\x00\x17","\x06î\x08__dict__\x04","\x00\x00\x18\x06ð\x0b__weak","ref__\x04\x00\x00\x19\x06ñ\x08","__hash__\x00"])) 0),(.bool ai),(.bool ai),(sS "" 242)] 1),#[]⟩
def SF:Obj:=oL #[]
def Sh (P:aQ):Obj:=oD #[en P "name" 208 (sS "_sre" 207),en P "loader" 209 (.ref 14),en P "origin" 210 (sS "built-in" 184),en P "loader_state" 211 .none,en P "submodule_search_locations" 212 .none,en P "_uninitialized_submodules" 213 (.ref 19),en P "_set_fileattr" 214 (.bool false),en P "_cached" 215 .none,en P "_initializing" 243 (.bool false)] 9
def Sv (P:aQ):Obj:=oD #[en P "__module__" 227 (sS "_frozen_importlib" 217),en P "__firstlineno__" 228 (.int 562 218),en P "__doc__" 229 (.builtin "_frozen_importlib.ModuleSpec.__doc__:str#opaque"),en P "__init__" 230 (.builtin "_frozen_importlib.ModuleSpec.__init__#opaque"),en P "__repr__" 231 (.builtin "_frozen_importlib.ModuleSpec.__repr__#opaque"),en P "__eq__" 232 (.builtin "_frozen_importlib.ModuleSpec.__eq__#opaque"),en P "cached" 233 (.builtin "_frozen_importlib.ModuleSpec.cached#opaque"),en P "parent" 234 (.builtin "_frozen_importlib.ModuleSpec.parent#opaque"),en P "has_location" 235 (.builtin "_frozen_importlib.ModuleSpec.has_location#opaque"),en P "__static_attributes__" 236 (.ref 23),en P "__dict__" 238 (.ref 24),en P "__weakref__" 240 (.ref 25),en P "__hash__" 241 .none] 13
def So:Obj:=oK "ModuleSpec" 22 21 #[]
def SA:Obj:=oT (nS 219 ["_cached","_set_fileattr","_uninitialized_submodules","loader","loader_state","name","origin","submodule_search_locations"]).toArray
def Sn:Obj:=oF "getset_descriptor" [(sS "__dict__" 237),(.ref 22),(.builtin "function.__dict__"),(.builtin "function.__dict__#set")]
def Sr:Obj:=oF "getset_descriptor" [(sS "__weakref__" 239),(.ref 22),(.builtin "ExceptionGroup.__weakref__"),.none]
noncomputable def Ss:Obj:=⟨(.ref 22),(aa 20),.plain,#[]⟩
def Su:Obj:=⟨.none,az,(.seq #[(.int 11 0),(.str (S (cs ["\x06÷\x08__name__\x06","ö\x04_sre\x06ø\x07__d","oc__\x00\x06ú\x0b__pa","ckage__\x06ù\x00\x06û","\n__loader__\x04","\x00\x00\x0e\x06ü\x08__spec","__\x04\x00\x00\x1a\x06ý\x07com","pile\t\x0c_sre.c","ompile\x06þ\x08tem","plate\t\r_sre.","template\x06ÿ\x0bg","etcodesize\t\x10","_sre.getcode","size\x06Ā\rascii","_iscased\t\x12_s","re.ascii_isc","ased\x06ā\x0funico","de_iscased\t\x14","_sre.unicode","_iscased\x06Ă\ra","scii_tolower","\t\x12_sre.ascii","_tolower\x06ă\x0fu","nicode_tolow","er\t\x14_sre.uni","code_tolower","\x06ą\x05MAGIC\x04Ą\x00"]++[20230612]++cs ["\x06ć\x08CODESIZE\x04","Ć\x00\x04\x06ĉ\tMAXREP","EAT\x04Ĉ\x00"]++[4294967295]++cs ["\x06ċ\tMAXGROUPS","\x04Ċ\x00"]++[1073741823]++cs ["\x06č\tcopyright","\x06Č5 SRE 2.2.","2 Copyright ","(c) 1997-200","2 by Secret ","Labs AB "])) 0),(.bool ai),(.bool false),(sS "_sre" 271)] 0),#[]⟩
def a0 (P:aQ):List Obj:=[k0 P,k1 P,Im P]
def a4 (P:aQ):List Obj:=[DL,k5,k6,k7,k8,k9,k10,k11 P,k12,Sx P,Sq,Sp,Sk,Si,Sl,SF,Sh P,Sv P,So,SA,Sn,Sr,Ss,Su]
def Rg:List Obj:=[oM "<module>" 277 1 28 276,oR 30 3 (sS "__main__" 164)]
def B7 (P:aQ):BT:=uo .nil 0 (a0 P++H7 P::(a4 P++oT #[]::oN []::Rg))
def PS (P:aQ):List Obj:=TR qp
def Mk (P:aQ):BT:=uo (uJ (B7 P) [(3,RI P),(29,tb 0 (tl.take 1))]) 32 (PS P)
def Qn (P:aQ):List Obj:=[oF "range" [(.int 0 294),(.int 256 293),(.int 1 295)],oF "range_iterator" [(.int 256 0),(.int 0 0),(.int 1 0)],PW,oD #[] 2,oT #[],oF "StopIteration" [(.ref 43),.none,.none,.none,(.bool false),.none]]
def La (P:aQ):BT:=uo (uJ (Mk P) [(3,R0 P)]) 39 (Qn P)
def Rt (P:aQ):List Obj:=[oF "slice" [.none,.none,.none],oQ (Ak 256) 0,oF "slice" [.none,.none,.none],oQ (Ak 256) 0]
def IV (P:aQ):BT:=uo (uJ (La P) [(3,PE P)]) 45 (Rt P)
def Nr (P:aQ):List Obj:=[oF "bytes_iterator" [.none,(.int 67 0)],oT #[],oF "StopIteration" [(.ref 50),.none,.none,.none,(.bool false),.none]]
def IK (P:aQ):BT:=uo (uJ (IV P) [(3,PF P),(46,OR)]) 49 (Nr P)
def HU (P:aQ):BT:=uo (uJ (IK P) [(46,OJ)]) 52 []
def Nm (P:aQ):List Obj:=[oF "bytes_iterator" [.none,(.int 95 0)],oT #[],oF "StopIteration" [(.ref 53),.none,.none,.none,(.bool false),.none]]
def IQ (P:aQ):BT:=uo (uJ (HU P) [(3,QZ P),(48,Pj)]) 52 (Nm P)
def Nb (P:aQ):List Obj:=PH qp++(Rh qp++([NG]++(Rd qp++([oF "slice" [.none,.none,.none]]))))
def HG (P:aQ):BT:=uo (uJ (IQ P) [(3,Qz P),(29,tb 0 (tl.take 4))]) 55 (Nb P++[Nf])
def M9 (P:aQ):List Obj:=[oF "bytes_iterator" [.none,(.int 2 0)],oT #[],oF "StopIteration" [(.ref 80),.none,.none,.none,(.bool false),.none]]
def Iq (P:aQ):BT:=uo (uJ (HG P) [(3,PD P),(78,NZ)]) 79 (M9 P)
def Nz (P:aQ):List Obj:=[JV]++(PU qp++([Nu]++(PI qp++(KQ qp++(Mu qp++(Mh qp))))))
def I0 (P:aQ):BT:=uo (uJ (Iq P) [(3,Q2 P),(29,tb 0 (tl.take 9))]) 82 (Nz P)
def Nx (P:aQ):List Obj:=L7 qp++(Ln qp++(rP "(?m)^\\." 1988 40 136 QR++(rP "(?:\\r\\n|\\n|\\r(?!\\n))" 2004 32 141 Qi++(LK qp++(rP "[ \\(\\)<>@,;:\\\\\"/\\[\\]\\?=]" 2057 32 153 SG++(rP "[\\x00-\\x1F\\x7F]" 2091 32 158 QF++(rP "[\\x00-\\x08\\x0A-\\x1F\\x7F]" 2117 32 163 Qf++([oT #[.none,(.int 1 2150)]]++(SR qp)))))))))
def H9 (P:aQ):BT:=uo (uJ (I0 P) [(3,PJ P),(29,tb 0 (tl.take 13))]) 119 (Nx P)
def ND (P:aQ):List Obj:=[oT #[],oF "builtin_function_or_method" [(.builtin "type.__prepare__"),(.type "type")],oD (en P "__module__" 2167 (sS "cpy313.wsgiref.headers" 2054)::en P "__qualname__" 2169 (sS "Headers" 2168)::(SE P).take 19).toArray 21,oT #[],tb 4 [(208,186),(218,193),(226,200),(229,207),(233,212),(237,219),(240,226),(243,231),(247,239),(254,244),(257,249),(260,256),(263,263),(266,268),(269,275),(272,282),(275,289)],oM "Headers" 2162 206 176 276,oR 178 175 (sS "cpy313.wsgiref.headers" 2054),Jc]++(LU qp++(Mm qp++(S4 qp++(Tp qp++(S8 qp++(SW qp++(Th qp++(LX qp++([Mc]++(Ll qp++(K1 qp++(LM qp++(Lh qp++(Td qp++(Mw qp++(SQ qp++(SO qp++(K2 qp++([oT #[(sS "_headers" 2308)],QM P,PM,oF "getset_descriptor" [(sS "__dict__" 2310),(.ref 293),(.builtin "function.__dict__"),(.builtin "function.__dict__#set")],oF "getset_descriptor" [(sS "__weakref__" 2312),(.ref 293),(.builtin "ExceptionGroup.__weakref__"),.none],oF "super" [(.ref 293),(.ref 293),(.ref 293)],oF "builtin_function_or_method" [(.builtin "object.__init_subclass__"),(.ref 293)]])))))))))))))))))))
def It (P:aQ):BT:=uo (uJ (H9 P) [(3,QG P),(29,tb 0 (tl.take 14))]) 173 (ND P)
def M0 (P:aQ):List Obj:=MU qp++(L3 qp++(Lf qp++(Lw qp++(LR qp++(Fp qp)))))
def Nk (P:aQ):BT:=uo (uJ (It P) [(3,QC P),(29,tb 0 (tl.take 20))]) 298 (M0 P)
def yF (P:aQ):aW:=⟨#[k0 P,k1 P,Im P,H7 P,DL,k5,k6,k7,k8,k9,k10,k11 P,k12,Sx P,Sq,Sp,Sk,Si,Sl,SF,Sh P,Sv P,So,SA,Sn,Sr,Ss,Su],{}⟩
def Nq (P:aQ):aW:=⟨(a0 P++H7 P::(a4 P++oT #[]::oN []::Rg)).toArray,{}⟩
def SB:Obj:=oF "slice" [.none,.none,.none]
def qJ (P:aQ):aW:=⟨(a0 P++o3 P::(a4 P++oT #[]::tb 0 (tl.take 20)::(Rg++(PS P++(Qn P++(SB::Ni::SB::Nf::(Nr P++(Nm P++(Nb P++NB::(M9 P++(Nz P++(Nx P++(ND P++M0 P))))))))))))).toArray,{}⟩
def PX (f:Nat) (l:List Nat) (t:aQ->BT) (a b:Nat) (p:Pos) (t':aQ->BT) (a' b':Nat) (p':Pos) (w:av):Prop:=
 ∀os:cY,segRunT hZ ms w 28 (aa (.ref 6)) 1 f (sT (t w.params) a b os) (piecesOf (l.map nK) Ia cE p [topFrame ⟨0,0,0,0⟩])=aa (.next,sT (t' w.params) a' b' os,cE,p')
end
local macro_rules | `(tactic| walk_at "hd") => `(tactic| (intro w os; rw [PySem.W.Fast.te10110043849684766642, PySem.W.Fast.te14364793385576792824]; unfold piecesOf; rw [PySem.W.Fast.te12563942051412417395]; kernel_rfl))
section
open PySem.Calls PyProof.Rows
def P0:av->Prop:=PX 447 [1,2,3] B7 32 282 ⟨0,0,0,0⟩ Mk 39 293 ⟨6,0,6,2⟩
theorem q0: ∀w:av,P0 w:=by walk_at "hd"
def P2:av->Prop:=PX 532 [5,6,7,8,9,10,11,12] La 45 1321 ⟨7,0,7,11⟩ IV 49 1338 ⟨15,0,15,8⟩
theorem q2: ∀w:av,P2 w:=by walk_at "hd"
def P4:av->Prop:=PX 424 [14] IK 52 1546 ⟨16,9,16,74⟩ HU 52 1549 ⟨18,0,18,28⟩
theorem q4: ∀w:av,P4 w:=by walk_at "hd"
def P6:av->Prop:=PX 518 [16,17,18,19] IQ 55 1835 ⟨19,9,19,110⟩ HG 79 1860 ⟨30,0,30,23⟩
theorem q6: ∀w:av,P6 w:=by walk_at "hd"
def P7:av->Prop:=PX 517 [20] HG 79 1860 ⟨30,0,30,23⟩ Iq 82 1867 ⟨31,9,31,16⟩
theorem TD: ∀w:av,P7 (bv w "special-get-raises" false):=by walk_at "hd"
theorem TS: ∀w:av,P7 (bv w "special-get-raises" ai):=by walk_at "hd"
theorem q7: ∀w:av,P7 w:=(lY "special-get-raises" (P:=λw=>P7 w) TD TS)
def P8:av->Prop:=PX 648 [21,22,23,24,25,26,27,28,29,30] Iq 82 1867 ⟨31,9,31,16⟩ I0 119 1953 ⟨138,0,146,13⟩
theorem q8: ∀w:av,P8 w:=by walk_at "hd"
def P9:av->Prop:=PX 932 [31,32,33,34,35,36,37,38,39,40,41,42] I0 119 1953 ⟨138,0,146,13⟩ H9 173 2160 ⟨197,0,205,20⟩
theorem q9: ∀w:av,P9 w:=by walk_at "hd"
def Ts:av->Prop:=PX 1126 [43] H9 173 2160 ⟨197,0,205,20⟩ It 298 2317 ⟨206,0,287,93⟩
theorem TE: ∀w:av,Ts w:=by walk_at "hd"
def Tz:av->Prop:=PX 585 [44,45,46,47,48,49,50] It 298 2317 ⟨206,0,287,93⟩ Nk 334 2369 ⟨332,0,389,71⟩
theorem TM: ∀w:av,Tz w:=by walk_at "hd"
def P1:av->Prop:=PX 9941 [4] Mk 39 293 ⟨6,0,6,2⟩ La 45 1321 ⟨7,0,7,11⟩
theorem SH: ∀w:av,P1 (bv (bv w "special-get-raises" false) "comprehension-iter-twice" false):=by walk_at "hd"
theorem SN: ∀w:av,P1 (bv (bv w "special-get-raises" ai) "comprehension-iter-twice" false):=by walk_at "hd"
theorem To: ∀w:av,P1 (bv (bv w "special-get-raises" false) "comprehension-iter-twice" ai):=by walk_at "hd"
theorem S6: ∀w:av,P1 (bv (bv w "special-get-raises" ai) "comprehension-iter-twice" ai):=by walk_at "hd"
theorem q1: ∀w:av,P1 w:=(lY "comprehension-iter-twice" (P:=λw=>P1 w) (lY "special-get-raises" (P:=λw=>P1 (bv w "comprehension-iter-twice" false)) SH SN) (lY "special-get-raises" (P:=λw=>P1 (bv w "comprehension-iter-twice" ai)) To S6))
def P3:av->Prop:=PX 3476 [13] IV 49 1338 ⟨15,0,15,8⟩ IK 52 1546 ⟨16,9,16,74⟩
theorem Tu: ∀w:av,P3 (bv w "special-get-raises" false):=by walk_at "hd"
theorem TQ: ∀w:av,P3 (bv w "special-get-raises" ai):=by walk_at "hd"
theorem q3: ∀w:av,P3 w:=(lY "special-get-raises" (P:=λw=>P3 w) Tu TQ)
def P5:av->Prop:=PX 4702 [15] HU 52 1549 ⟨18,0,18,28⟩ IQ 55 1835 ⟨19,9,19,110⟩
theorem TW: ∀w:av,P5 (bv w "special-get-raises" false):=by walk_at "hd"
theorem TG: ∀w:av,P5 (bv w "special-get-raises" ai):=by walk_at "hd"
theorem q5: ∀w:av,P5 w:=(lY "special-get-raises" (P:=λw=>P5 w) TW TG)
theorem Oh: ∀w:av,(fencedOpening hZ ms w 40000).map (λs=>(s.heap,s.gens,s.drawn,s.toks))=aa (yF w.params,(#[]:Array GenState),({}:Drawn),276):=by
 intro w
 unfold fencedOpening
 rw [PySem.W.Fast.te10274390034422433532,PySem.W.Fast.te14364793385576792824]
 kernel_rfl
theorem OC: ∀w:av,((yF w.params).isNs bm&&(#[]:Array GenState).size==0,(yF w.params).objs.size,(yF w.params).nsMap bm "__annotations__")=(ai,28,aa (.ref 6)):=by
 intro w
 kernel_rfl
theorem PN: ∀(w:av) (os:cY),topGo hZ ms w 28 (aa (.ref 6)) 12 (sH (yF w.params) 276 os) (topStub ms)=aa (sH (Nq w.params) 282 os,⟨denote hZ cE,cE,⟨0,0,0,0⟩,[topFrame ⟨0,0,0,0⟩]⟩):=by
 intro w os
 rw [PySem.W.Fast.te15667345088766844465,PySem.W.Fast.te14364793385576792824,PySem.W.Fast.te11892475500146522536]
 kernel_rfl
theorem LY: ∀(w:av) (os:cY),segRun hZ ms w 28 (aa (.ref 6)) 1 100 (sH (Nq w.params) 282 os) (blockOf bE Ia cE ⟨0,0,0,0⟩ [topFrame ⟨0,0,0,0⟩])=aa (.next,(sT (B7 w.params) 32 282 os).abs,cE,⟨0,0,0,0⟩):=by
 intro w os
 rw [PySem.W.Fast.te14374325043358763698,PySem.W.Fast.te14364793385576792824]
 kernel_rfl
theorem Qh: ∀(w:av) (os:cY),topRun hZ ms w 28 (aa (.ref 6)) 2 (sT (Nk w.params) 334 2369 os).abs ⟨doneF .next,cE,⟨332,0,389,71⟩,[topFrame ⟨0,0,0,0⟩]⟩=aa (sH (qJ w.params) 2369 os):=by
 intro w os
 rw [PySem.W.Fast.te14082659384304107361,PySem.W.Fast.te14364793385576792824]
 kernel_rfl
def qV:aH:={ms with main:={ms.main with body:=[nK 0,nK 50]}}
noncomputable def sA:List Str:=[.ofString "_wall",.ofString "CRLF_quoprimime",.ofString "NL",.ofString "_QUOPRI_MAP",.ofString "_QUOPRI_HEADER_MAP",.ofString "_QUOPRI_BODY_MAP",.ofString "ascii_lowercase",.ofString "ascii_uppercase",.ofString "ascii_letters",.ofString "digits",.ofString "hexdigits",.ofString "unquote",.ofString "quote",.ofString "header_encode",.ofString "_QUOPRI_BODY_ENCODE_MAP",.ofString "body_encode",.ofString "decode",.ofString "ONE_THIRD",.ofString "ONE_SIXTH",.ofString "TWO_THIRD",.ofString "rgb_to_hls",.ofString "hls_to_rgb",.ofString "_v",.ofString "rgb_to_hsv",.ofString "hsv_to_rgb",.ofString "_twin_re_1",.ofString "_twin_re_2",.ofString "CRLF_smtplib",.ofString "quotedata",.ofString "tspecials",.ofString "_name_disallowed_re",.ofString "_value_disallowed_re",.ofString "_formatparam",.ofString "Headers",.ofString "_law_hue",.ofString "_law_turned",.ofString "_law_grey",.ofString "_law_told",.ofString "_law_refused"]
theorem RY:bE=[1,2,3].map nK++([4].map nK++([5,6,7,8,9,10,11,12].map nK++([13].map nK++([14].map nK++([15].map nK++([16,17,18,19].map nK++([20].map nK++([21,22,23,24,25,26,27,28,29,30].map nK++([31,32,33,34,35,36,37,38,39,40,41,42].map nK++([43].map nK++([44,45,46,47,48,49,50].map nK++([])))))))))))):=by kernel_rfl
theorem Rk: ∀(w:av) (os:cY),topRun hZ ms w 28 (aa (.ref 6)) (12+(100+(447+(9941+(532+(3476+(424+(4702+(518+(517+(648+(932+(1126+(585+(2))))))))))))))) (sH (yF w.params) 276 os) (topStub ms)=aa (sH (qJ w.params) 2369 os):=by
 intro w os
 refine go_top (PN w os) (piece_block (b:=bE) (env:=Ia) (LY w os) ?_)
 rw [congrArg restOf RY]
 exact (ez (ey (q0 w os)) (ez (ey (q1 w os)) (ez (ey (q2 w os)) (ez (ey (q3 w os)) (ez (ey (q4 w os)) (ez (ey (q5 w os)) (ez (ey (q6 w os)) (ez (ey (q7 w os)) (ez (ey (q8 w os)) (ez (ey (q9 w os)) (ez (ey (TE w os)) (ez (ey (TM w os)) (piece_nil (Qh w os))))))))))))))
noncomputable def xT (_:aq):Bool:=ai
noncomputable def QV:List aF:=[3,41,46,48,60,61,67,68,69,75,76,78,82,88,89,90,96,97,103,104,110,111,117,118,124,125,131,132,136,137,141,142,148,149,158,159,163,164,180,186,187,193,194,231,232,233,239,240,244,245,249,250,256,257,268,269,289,290,292,293,303,304,308,309,315,316,320,321,327,328,332,333]
theorem TU: ∀(w:av) (os:cY),staticsOk (importedModules ms.main.body) (yF w.params) (qJ w.params)=ai:=by
 intro w os
 rw [PySem.W.Fast.te5923862056798008813]
 kernel_rfl
theorem TC: ∀(w:av) (os:cY),namesBound ms (qJ w.params)=ai:=by
 intro w os
 kernel_rfl
theorem TT: ∀(w:av) (os:cY),laidKept (yF w.params) (qJ w.params)=ai:=by
 intro w os
 kernel_rfl
theorem Tv: ∀(w:av) (os:cY),seen ((recsOf qV).map (·.name)) (ownsOf qV) [] {(sH (qJ w.params) 2369 os) with gens:= #[]}=expectedOf qV:=by
 intro w os
 rw [PySem.W.Fast.te5160383126252970620]
 kernel_rfl
theorem Tt: ∀(w:av) (os:cY),(qJ w.params).bltView=bltViewBooted:=by
 intro w os
 kernel_rfl
theorem Tx: ∀(w:av) (os:cY),(qJ w.params).keysOk (looseW qV sA) ((recsOf qV).map (·.name)) ((litsOf qV).map (·.1)) ((clssOf qV (looseW qV sA)).map (·.name))=ai:=by
 intro w os
 rw [PySem.W.Fast.te10880121769531294198]
 kernel_rfl
theorem TN: ∀(w:av) (os:cY),(qJ w.params).accountedOkI (importedModules ms.main.body)=ai:=by
 intro w os
 rw [PySem.W.Fast.te14722251495701143533]
 rw [PySem.W.Fast.te5923862056798008813]
 kernel_rfl
theorem TV: ∀(w:av) (os:cY),Bool.and ((qJ w.params).isNs bm) ((qJ w.params).isNs dg)=ai:=by
 intro w os
 kernel_rfl
theorem TY: ∀(w:av) (os:cY),tablesOk qV (qJ w.params)=ai:=by
 intro w os
 rw [PySem.W.Fast.te10994771534591457954]
 kernel_rfl
theorem TP: ∀(w:av) (os:cY),tabsOk qV (sH (qJ w.params) 2369 os)=ai:=by
 intro w os
 rw [PySem.W.Fast.te479339242167458305]
 kernel_rfl
theorem S1: ∀(w:av) (os:cY),pinSeenD qV (drecsOf qV) (sH (qJ w.params) 2369 os)=pinGoodD (drecsOf qV):=by
 intro w os
 rw [PySem.W.Fast.te16090120013241838585]
 kernel_rfl
theorem Tn: ∀(w:av) (os:cY),plainSeenE qV (looseW qV sA) (sH (qJ w.params) 2369 os)=plainGoodE qV (looseW qV sA):=by
 intro w os
 rw [PySem.W.Fast.te2386780881361962483]
 kernel_rfl
theorem Tc: ∀(w:av) (os:cY),plainSeenD qV sA (sH (qJ w.params) 2369 os)=plainGoodD qV sA:=by
 intro w os
 rw [PySem.W.Fast.te11698064438423848299]
 kernel_rfl
theorem S5: ∀(w:av) (os:cY),wideSeen qV (sH (qJ w.params) 2369 os)=wideGood qV:=by
 intro w os
 rw [PySem.W.Fast.te7317090234206586261]
 kernel_rfl
theorem SS: ∀(w:av) (os:cY),clsSeenW qV sA (sH (qJ w.params) 2369 os)=clsGoodW qV sA:=by
 intro w os
 rw [PySem.W.Fast.te7369524293546568484]
 kernel_rfl
end
section
open PySem.Calls PyProof.Rows
open PySem.Challenge (rw_wv0059_01)
def Jt (P:aQ):Frag:=(2,Im P)::(4,DL)::(330,MK)::KB P
def v9:Hook:=kHook Jt (2::4::330::QV) (λz=>by kernel_rfl)
theorem TX: ∀(w:av) (os:cY),v9.obs (sH (qJ w.params) 2369 os)=v9.val w:=by
 intro w os
 kernel_rfl
theorem Qe {P:aQ} {a:aF} {o:Obj} (e:(KB P).lookup a=aa o):(Jt P).lookup a=aa o:=by
 have h2:(KB P).lookup 2=az:=by kernel_rfl
 have h4:(KB P).lookup 4=az:=by kernel_rfl
 have h3:(KB P).lookup 330=az:=by kernel_rfl
 have n2:(a==2)=false:=by
  have:a≠2:=λq=>by rw [q,h2] at e;exact nB e
  simpa using this
 have n4:(a==4)=false:=by
  have:a≠4:=λq=>by rw [q,h4] at e;exact nB e
  simpa using this
 have n3:(a==330)=false:=by
  have:a≠330:=λq=>by rw [q,h3] at e;exact nB e
  simpa using this
 unfold Jt
 rw [aD,n2,aD,n4,aD,n3]
 exact e
section
variable {w:av} {h:aW}
theorem Pp (Y:v9.says w h):(KB w.params).In h:=λa o e=>kIn_of Y a o (Qe e)
theorem Q8 (Y:v9.says w h):te h:=by
 have X:(Jt w.params).In h:=kIn_of Y
 have ok:nsOkIn (Jt w.params) iY=ai:=by kernel_rfl
 exact ⟨_,.of_isNs (kH X ok),nsMap_none_of_in X ok (by kernel_rfl)⟩
theorem Qa (Y:v9.says w h):Bm h:=⟨DL,kIn_of Y 4 _ (by kernel_rfl),rfl,rfl,rfl⟩
theorem Ek (Y:v9.says w h):h.get? 330=aa (eh #[]):=kIn_of Y 330 _ (by kernel_rfl)
theorem OM {h:aW} {a:aF} {m m':Str->Option ay} (x:h.Ns a m) (y:h.Ns a m') (n:Str):m n=m' n:=by
 refine rY x λo es ep e1 e2 z e3=> ?_
 refine rY y λo' es' ep' q1 q2 z q3=> ?_
 rw [e1] at q1;obtain rfl:=am q1
 rw [e2] at q2;cases q2
 rw [<-e3,<-q3]
end
set_option maxHeartbeats 4000000 in
theorem MA:LeftO ms qV sA xT v9.obs v9.val 40000:=by
 refine LeftO.of_pieces Oh OC (λw os=>Rk w os) (by rfl) (λw=>funext λos=> ?_)
 refine eS ?_ (eS ?_ ?_)
 ·show (_&&_&&_&&_)=ai
  rw [TU w os,TC w os,TT w os]
  rfl
 ·show (_,_,(_&&_&&_&&_&&_&&_&&_),_,_,_,_,_,_)=(_,_,_,_,_,_,_,_,_)
  have e7:=aP.mp (TV w os)
  refine eS (Tv w os) (eS (Tt w os) (eS ?_ (eS (TP w os) (eS (S1 w os) (eS (Tn w os) (eS (Tc w os) (eS (S5 w os) (SS w os))))))))
  refine aP.mpr ⟨aP.mpr ⟨aP.mpr ⟨aP.mpr ⟨aP.mpr ⟨aP.mpr ⟨Tx w os,TN w os⟩,e7.1⟩,e7.2⟩,TY w os⟩,by kernel_rfl⟩,by kernel_rfl⟩
 ·exact TX w os
theorem R4:rw_wv0059_01.wellSaid=ai:=by
 rw [PySem.W.Fast.te9446332074065402090]
 kernel_rfl
theorem J5:(defOf qV "law").isSome=ai:=by kernel_rfl
def Cx:DefRec×List (Str×Expr):=(defOf qV "law").get J5
theorem QE {R:WRecords} {x:WData} (h:jE R x .int=ai): ∃i,x= .int i:=by
 cases x with
 |int i=>exact ⟨i,rfl⟩
 |_=>exact nomatch (show false=ai from h)
theorem JU {R:WRecords} {cl:Str->Option aF} {h:aW} {v:ay} {i:Int} {as:List aF} (r:ReadsW R cl h v (.int i) as): ∃t,v= .int i t:=by
 cases r;exact ⟨_,rfl⟩
theorem IW {R:WRecords} {cl:Str->Option aF} {h:aW} {vs:List ay} {x:WData} {xs:List WData} {as:List aF} (r:ReadsAllW R cl h vs (x::xs) as): ∃v us a b,vs=v::us/\ReadsW R cl h v x a/\ReadsAllW R cl h us xs b:=by
 cases r with
 |cons r rs=>exact ⟨_,_,_,_,rfl,r,rs⟩
theorem KM {R:WRecords} {cl:Str->Option aF} {h:aW} {xs:List WData}: ∀{vs:List ay} {as:List aF},mf R xs .int=ai->ReadsAllW R cl h vs xs as-> ∃ns:List Int,xs=ns.map WData.int/\mJ [] h (ns.map PV.int) vs:=by
 induction xs with
 |nil=>intro vs as _ r;cases r;exact ⟨[],rfl,mJ.nil⟩
 |cons x xs ih=>
  intro vs as hs r
  refine eA (aP.mp hs) λh1 h2=>eE (QE h1) λi e=> ?_
  subst e
  obtain ⟨v,us,a,b,rfl,r,rs⟩:=IW r
  refine eE (JU r) λt e=>mQ (ih h2 rs) λns e' q=> ?_
  subst e e'
  exact ⟨i::ns,rfl,mJ.cons tJ q⟩
theorem Pm {args:List WData} (hp:rw_wv0059_01.row.toRowW.claim.pre args=ai): ∃xs,args=[.list xs]/\mf [] xs .int=ai/\xs.length<=63:=by
 obtain ⟨h1,h2⟩:=pre_splitW hp
 obtain ⟨d,r,rfl,h3,h4⟩:=hasAllW_cons h1
 have:=hasAllW_nil h4
 subst this
 have h3:jE [] d (.list .int)=ai:=h3
 cases d with
 |list xs=>
  refine ⟨xs,rfl,(iM _).symm.trans h3,?_⟩
  have h2:(OpenLaw.pre rw_wv0059_01).holds [] {args:=[.list xs]}=ai:=h2
  rcases dI 63 xs.length with h|h
  ·exfalso
   have e:(OpenLaw.pre rw_wv0059_01).holds [] {args:=[.list xs]}=false:=by
    show ky [] (.and (.not (.lt (.lit (.int 63)) (.len (.arg 0)))) (.lit (.bool ai))) _=false
    have e:less? (.int 63) (.int (xs.length:Int))=aa ai:=by simp [less?,Num.less?,Num.order?];omega
    simp [ky,WTm.value,e]
   rw [e] at h2;exact o8 h2
  ·exact h
 |_=>exact nomatch (show false=ai from h3)
theorem Lz {args:List WData}:rw_wv0059_01.row.toRowW.claim.post args (.bool ai) args=ai:=by
 show (jE [] (.bool ai) .bool&&ky [] (.eq .res (.lit (.bool ai))) _)=ai
 have e:same (.bool ai) (.bool ai)=ai:=by kernel_rfl
 simp [ky,WTm.value,jE,WShape.arms,e]
theorem Jp {w:av} {h:aW} (b:(KB w.params).In h):isCodeTable h 330:=by
 have e:=b 332 (Fp Nw) (by kernel_rfl)
 exact ⟨332,_,_,e,rfl,rfl,by kernel_rfl⟩
theorem Ou {h h' g':aW} (ht:isCodeTable h 330) (hT:h.get? 330=aa (eh #[])) (k:mT (hideAll h [330]) g') (hp: ∃ps,g'.get? 330=aa (eh ps)) (kk:mT g' h'):OldK h h':=by
 obtain ⟨ps,hp⟩:=hp
 refine ⟨λb o e=> ?_,λb o e=> ?_⟩
 ·by_cases hb:b=330
  ·subst hb
   rw [hT] at e;obtain rfl:=am e
   exact .inr (.inl ⟨ht,rfl,#[],ps,rfl,by rw [kk _ _ hp];simp [eh]⟩)
  ·exact .inl (kk _ _ (k _ _ (sr hb e)))
 ·by_cases hb:b=330
  ·exact ⟨_,hb▸kk _ _ hp⟩
  ·exact ⟨o,kk _ _ (k _ _ (sr hb e))⟩
theorem SZ:WalkO qV sA (λz z=>True) v9.says rw_wv0059_01.row.toRowW Cx.1 Cx.2 (λf vs=>PySem.call f vs):=by
 intro w VA TZ mg mb G Y a o pm cd doc dV kV h1 h2 h3 h4 h5 hg args VZ as V5 hlay hrd hwell hlo
 have kb:=Pp Y
 have B:oi w.params TZ.heap:=⟨kb,G.T.nolimit,mb,G.T.b,λx hx=>G.T.builtins x (λq=>by rw [q] at hx;exact absurd hx (by decide+kernel))⟩
 have ha:a=333:=by
  obtain ⟨m,n,e⟩:BU TZ.heap "law" (.ref 333):=B.glob (by kernel_rfl)
  have:=OM n G.T.g "law"
  rw [e] at this
  have h5:mg "law"=aa (.ref a):=h5
  rw [h5] at this
  cases this;rfl
 subst ha
 obtain ⟨xs,rfl,hi,hl⟩:=Pm V5
 obtain ⟨v,rfl⟩: ∃v,VZ=[v]:=by
  cases hrd with
  |cons r rs=>cases rs;exact ⟨_,rfl⟩
 have hv: ∃ns:List Int,ns.length<=63/\mO [] TZ.heap (.list (ns.map PV.int)) v:=by
  cases hrd with
  |cons r rs=>
   cases r with
   |list e1 e2 e3 e4=>
    obtain ⟨ns,e,q⟩:=KM hi e4
    refine ⟨ns,by rw [e,ah] at hl;exact hl,uG (λh=>nomatch h) ⟨_,e1,e2,_,by rw [e3]⟩ q⟩
 obtain ⟨ns,hn,r⟩:=hv
 refine ab (MD B (Q8 Y) (Qa Y) (Ek Y) hn r) (λv' s' ⟨e,⟨h',tk,x⟩,g',k,hp,kk⟩=> ?_) λz z e=>e.elim
 subst e x
 refine ⟨.inl ⟨_,.bool ai,[],rfl,λz=>rfl,.bool ai,Lz,λz=>⟨List.nodup_nil,λz h=>nomatch h⟩⟩,Ou (Jp kb) (Ek Y) k hp kk,rfl,.of_eq hg⟩
theorem qq (walk:WalkO qV sA (λz z=>True) v9.says rw_wv0059_01.row.toRowW Cx.1 Cx.2 (λf vs=>PySem.call f vs)):rw_wv0059_01.Holds:=by
 refine holds_law R4 λk1=> ?_
 refine holds_open (q:=qV) (loose:=sA) (Xt:=xT) (XP:=λz z=>True) (Yf:=v9.obs) (Ya:=v9.val) (YP:=v9.says) (d:=Cx.1) (kwd:=Cx.2) (N:=40000) MA (Hook.of v9) (Hook.keeps v9) (λz z=>trivial) (λz z z z z=>trivial) ?_ ?_ ?_ (λs z=>recFacts_of (by rfl)) (by rfl) k1 ?_ ?_ ?_ walk
 ·kernel_rfl
 ·kernel_rfl
 ·kernel_rfl
 ·kernel_rfl
 ·exact ⟨rfl,rfl,rfl,rfl,rfl,by decide+kernel⟩
 ·exact ⟨[.list []],by decide+kernel,by decide+kernel⟩
end
end
end Mine
theorem PySem.Challenge.cw_wv0059_01_holds : PySem.Challenge.rw_wv0059_01.Holds := by
 refine Mine.qq Mine.SZ
