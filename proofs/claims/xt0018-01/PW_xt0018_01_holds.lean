import PyProof.Rows.All
import Wide.All
import OpenK.AllK
import Wide.FinOn
import Lean
import PySem.Challenge.RW_xt0018_01
open Array renaming replicate->cX,getD_eq_getD_getElem?->q9,map->sk,size_push->HT,length_toList->aav,getElem?_toList->aaw,any_toList->aaZ,toList_append->abg
open Bool renaming true->ag,false->am,rec->aN,and_eq_true_iff->cZ,casesOn->hO,or_eq_true->vM,not_eq_true'->Do,eq_iff_iff->Hn,and_eq_true->HH,false_ne_true->Oe,and_false->OD,or_eq_true_iff->OG
open Decidable renaming decide->az
open Eq renaming refl->tN
open Except renaming ok->r7
open ForInStep renaming yield->zW
open Int renaming toNat->dM,fmod->gJ,fdiv->ij,zero_mul->lA,add_zero->l7,mul_one->tM,mul_zero->tT,one_mul->xN,zero_add->Ab,rec->CX,toNat_natCast->C5,natCast_nonneg->Hm,ofNat_le->OK,toNat_sub->ON,add_assoc->aat
open LT renaming lt->vU
open List renaming range->bP,rec->bW,mem_cons_self->ck,mem_cons->cI,mem_cons_of_mem->cW,mem_singleton->dm,casesOn->dD,size_toArray->eO,all_eq_true->eV,length->fF,length_map->gj,length_append->gx,append_assoc->ja,length_drop->jA,map_map->jB,mem_map->jD,append_nil->ka,length_cons->kb,forall_mem_cons->lv,getElem?_toArray->l6,drop_zero->nQ,not_mem_nil->oE,length_range->oJ,map_cons->qm,mem_range->qt,drop_eq_nil_of_le->q8,replicate->rV,getElem?_eq_getElem->rX,mem_append->vw,mem_of_getElem?->vz,nodup_cons->vH,map_inj_left->vQ,nil_append->vR,getElem?_eq_none->vT,mem_of_mem_drop->xC,map_append->xF,flatMap_cons->xM,drop_drop->zM,lookup_cons->zO,getElem?_eq_some_iff->C7,drop_eq_getElem_cons->C8,map_id->Df,map_toArray->Dl,length_take->Hp,take_of_length_le->Hr,map_congr_left->Ht,getElem?_map->Hw,any_eq_true->HP,foldl->NJ,foldl_cons->NK,find?_cons->NM,forIn_cons->N6,forIn_nil->N7,length_nil->Ob,length_reverse->Om,mem_map_of_mem->OE,length_eq_one_iff->OF,filter_cons->OI,sum_cons->OR,mem_filter->OS,replicate_succ->ZP,flatten_cons->ZQ,toArray->ZS,length_singleton->ZU,all_toArray->ZZ,zip_cons_cons->Z1,mem_of_mem_take->Z5,contains_iff_mem->Z6,lookup_cons_self->aab,any_cons->aae,map_fst_zip->aaf,length_zip->aag,eraseDups_cons->aai,filter->aaj,getD_eq_getElem?_getD->aay,takeWhile_cons->aaH,dropWhile_cons->aaI,take_length->aaM,mem_reverse->aaN,dropWhile_sublist->aaO,map_nil->aa0,forall_mem_nil->aa1,drop_append_of_le_length->aa2,take_append_of_le_length->aa3,range_succ->aa5,drop_left->abe,ext_getElem?->abj
open List.Pairwise renaming imp->abN
open Min renaming min->OM
open Nat renaming beq->bt,le_trans->bM,le_refl->bZ,max->cK,zero_le->eG,blt->eK,eq_of_beq_eq_true->f0,rec->gW,ble->ig,le_add_left->ik,zero_add->iA,ne_of_lt->iP,casesAuxOn->j8,lt_of_lt_of_le->kA,add_comm->kB,le_of_ble_eq_true->ll,ble_eq_true_of_le->lw,le_of_lt->lW,lt_of_le_of_lt->mH,le_succ->mK,lt_succ_self->mP,le_add_right->mS,add_assoc->nI,succ_pos->oF,sub_le->oG,pow_le_pow_right->q7,ne_of_gt->sf,succ_le_succ->sg,le_of_not_lt->sq,le_of_eq->tK,le_succ_of_le->tO,add_left_comm->tQ,max_le->tR,lt_irrefl->vt,add_le_add_left->vu,lt_trans->vy,le_of_succ_le->vF,not_lt->vL,add_le_add->xx,mul_le_mul_left->zI,min_eq_right->zL,lt_succ_of_lt->zX,add_le_add_right->C3,succ_add_eq_add_succ->Dh,beq_refl->Dk,add_sub_of_le->Dq,min_le_right->Hq,le_max_left->HE,succ_mul->HJ,log2_lt->NL,min_eq_left->NR,lt_of_not_le->NT,succ_ne_self->Og,le_max_right->Oh,mul_comm->Oi,add_sub_cancel->Oj,digitChar->Ok,not_lt_zero->Ol,mul_succ->Os,le_of_add_right_le->OJ,zero_mul->OL,lt_succ_of_le->ZL,ne_of_beq_eq_false->Z0,pow_succ->aau,add_right_comm->aax,toDigits->aaz,div_lt_of_lt_mul->aaA,lt_of_succ_lt_succ->aaG,mul_zero->aa6,le_of_not_le->aa7,lt_add_of_pos_right->aa8,strongRecOn->abf
open Nat.succ renaming inj->xy
open Ne renaming symm->r9
open Option renaming some->ac,none->ae,rec->dL,casesOn->kC,map_eq_some_iff->C9
open Option.some renaming inj->eJ
open Prod.mk renaming inj->rc
open PyProof.Rows renaming StrsAre->sh,AllBare->tJ,subscriptTail->NX,Subscript_->N3,len_list->aas
open PySem renaming Shared->aC,Value->aF,wpAny->aG,Obj->aJ,Expr->aK,Str->aL,Params->aM,model->aQ,wpAny_bind->bv,Addr->bw,rawInt->bO,Stmt->bY,World->b7,wpAny_mono->cn,wpAny_pure->cq,Around->cH,Heap->cY,NameKind->dh,OsState->dl,callEnvC->dY,Pos->eF,Tok->fh,Builtin->fO,Sem->gw,Env->gX,typeLookup_type->iQ,builtinLookup_eq_fast->iR,Scope->iY,compareOp->jz,mainGlobals->j9,Slot->kD,argsOk->kE,treeTable->kK,binaryOp->ln,Model->lq,codeAny->lr,isSubtype_type->lu,sizeLine->lV,starEach->lY,getItem->mM,Program->nH,wpAny_standAt->nJ,argBest->nO,wpAny_toks_of->oC,DictEntry->qj,builtinsNs->qn,backTo->qo,wpAny_holding->qp,cellsFrom->qq,pushCells->qr,entryFor->qs,codeAmong->rU,wpAny_Name->rY,pyIter->rZ,entryFor_of_tree->si,typeOf->sj,TriplesOk->sr,sysModules->vr,wpAny_loadName_local->vD,wpAny_newObj_type->vE,Result->vG,getAttr->vK,bindL->vO,bindC->vP,typeLookup->xz,FuncData->xH,Arguments->xJ,Operator->zE,Const->zF,foldedForSure->zG,constantsAlone->zH,call_meets->zJ,typeIs_str->zN,loadGlobal->zQ,wpAny_BinOp->zR,wpAny_execs_nil->zU,wpAny_execs_cons->zV,codeAny_mono->zZ,newTuple->z9,preSum->Aa,wpAny_call->Ac,PlainAttrs->Ae,cStatics->Ak,genEnv->Al,BoolOp->CY,Comprehension->CZ,recursionLimit->C4,strKind_is->C6,wpAny_Constant_int->Db,standAt->Dc,assignEach->Dd,letOwnedTupleGo->De,wpAny_field->Dg,callWith->Di,valueAt->Ho,firstIterPos->Hv,wpAny_pyIter_list->Hx,wpAny_pyIter_tuple->Hz,seqItems?->HB,wpAny_seqItems->HC,getMethod->HG,codeAny_call_builtin->HK,GenState->HL,Keyword->HM,bindArgs->HN,InCallC->HO,wpAny_updateSeq->HU,wpAny_isNot_plain->NN,wpAny_specialOf->NO,wpAny_truthy_bool->NP,seqIndex?->NQ,slicePick->NU,sliceRange->NV,storeName->NY,evalPart_none->N0,closureFor->N5,IsL->N9,dictDisplay->Oa,builtinType->Ov,builtinType_eq_fast->Ow,isSubtype->Ox,importedModules->OB,Fin->OP,wpAny_Assign_Name->OT,intBits_le_iff->ZR,wpAny_getItem_list_slice->Z3,wpAny_storeName_local->Z7,wpAny_isTrue_Compare1->Z8,exec_Assign_Name->aah,wpAny_Return_some->aak,wpAny_callSpecial?_slot->aam,wpAny_call_entry->aan,wpAny_pyIter_enum->aar,stripSame->aaJ,stripped->aaK
open PySem.AutoSeq1 renaming wpAny_loadPart'->HD
open PySem.BoolOp renaming casesOn->NZ
open PySem.Builtin.Int renaming intBits->Hj
open PySem.Builtin.Range renaming rangeSize->Oc,small->abO
open PySem.Builtin.SmallTypes renaming nextOf->aal
open PySem.Builtin.Str renaming occurrences->Hu,tooLong->ZV,strSliceIndices->Z4,strKind->aaP
open PySem.Calls renaming spliced_cons->xG,spliced_nil->Dj,Constant_str->Dm,callWith_builtin->aaC,Name_function_global->abi
open PySem.Challenge renaming pw_xt0018_01->xI,rw_xt0018_01->aaX
open PySem.ClassData renaming mk->OA
open PySem.CmpOp renaming casesOn->Z2
open PySem.Code renaming quiet_builtin->aaS
open PySem.Const renaming casesOn->Da
open PySem.Data renaming fields->du,func->dE,seq->eD,dict->kH,plain->xK,cls->Oz
open PySem.Expr renaming casesOn->fw,Subscript->aa4
open PySem.F renaming plainAttrs_str->vN,slot_tuple_iterator_next->HA,slot_str_split->HI,entry_str_split->Op,args_str_split_2->Oq,slot_int_rmul->ZT,slot_list_append->aad,entry_tuple_iterator_next->aao,args_tuple_iterator_next_1->aap,slot_dict_items->aaQ,slot_dict_values->aaR,slot_str_join->aaT,type_str_join->aaU,plainAttrs_dict->aaV
open PySem.Flow renaming ret->N4,casesOn->aaa
open PySem.Heap renaming get?_push_of_some->eN,get?_push_size->fZ,lt_size->jy,SameBut->mO,size_push->nM,dictOf_iff->rW,get?_update_self->z8,get?_none_of_le->Af,nsMap->OH,get?_update_of_ne->OO
open PySem.Heap.IsSliceOf renaming new->Z9
open PySem.Heap.SameBut renaming update->xD
open PySem.IsL renaming update->N8
open PySem.Keeper renaming frame->aaD,machine->aaE,boundFrame->aaF
open PySem.NameKind renaming casesOn->jb,free->r8,rec->Hi,cell->aac
open PySem.Obj renaming mk->eC,mapSeq->nN,data_mapFields->aaq
open PySem.Operator renaming casesOn->Hl
open PySem.P renaming add_list->ZW,str_of_int->aaB
open PySem.PyData renaming keyHash->Dn,strOk->ZY
open PySem.Sre renaming forSearch->eM,Seen->eP,M->fY,Frame->iB,Loop->lD,accepts->oK,ops->vS,run->HQ,Kept->HR,forMatch->HS,inSet->OQ,itemWidth->abb,maxRepeat->abd
open PySem.Sre.M renaming runFor->lj,step->tU,word->tV,exec->xO,admitted->xP,afterRun->aa9,attempt->aba,until_->abc
open PySem.Sre.Outcome renaming rec->ZO
open PySem.Stmt renaming Assign->Dp
open PySem.Str renaming ofString->fi,length->tL,mk->Hk,join->Oo
open PySem.StrLaws renaming sliceText->xA,glued_eq_join->Ou,strSub_toList->aaL,found_one->abM
open PySem.Thread renaming mk->aaW
open PySem.Txt renaming split->Ad,startswith->On,join->Ot
open PySem.Unicode renaming isSpace->ZN
open PySem.Value renaming bool->d7,ref->j7,casesOn->vA,str->xE,none->z7,isStrOf_shape->Od,builtin->Oy
open PySem.W renaming emptyDict->jH,dictOf->j6,instObj->kG,getL->oH,topFrame->oI,segRunT->so,piecesOf->tP,putL->vI,kqdOk->zK,handedIn->zY,piece_app->Ag,segRun_of->Ah,findIn->Ai,looks_nsIn->Aj,lookIn_dict->OC,isFn->aaY
open PySem.W.CodeHd renaming of->abh
open PySem.W.Fast renaming sEq->ZM,lEq_iff->ZX
open PySem.Walks renaming list->Hy
open ToString renaming toString->HF
open PySem PySem.W PyProof.Rows
set_option Elab.async false
set_option maxRecDepth 100000
set_option maxHeartbeats 8000000
set_option linter.unusedVariables false
set_option genInjectivity false
set_option genSizeOf false
set_option compiler.extract_closed false
namespace Mine
noncomputable section
universe u v w t
@[elab_as_elim] theorem bG {α:Type u} {x r:α} {P:α->Prop} (h:ac x=ac r) (k:P x):P r:=eJ h▸k
@[elab_as_elim] theorem af {α:Sort u} {a b:α} {P:α->Prop} (e:a=b) (k:P b):P a:=e▸k
theorem bR {P:Prop} (h:am=ag):P:=nomatch h
theorem mD {α:Type u} {x:α} {P:Prop} (h:ac x=ae):P:=nomatch h
theorem QN {α:Type u} {x:α} {l:List α} {P:Prop} (h:[]=x::l):P:=nomatch h
theorem IH {α:Type u} {x:α} {l:List α} {P:Prop} (h:x::l=[]):P:=nomatch h
theorem ay {a b r:Prop} (h:a/\b) (k:a->b->r):r:=k h.1 h.2
theorem bu {a b c r:Prop} (h:a/\b/\c) (k:a->b->c->r):r:=k h.1 h.2.1 h.2.2
theorem dH {a b c d r:Prop} (h:a/\b/\c/\d) (k:a->b->c->d->r):r:=bu h.2 (k h.1)
theorem mq {a b c d e r:Prop} (h:a/\b/\c/\d/\e) (k:a->b->c->d->e->r):r:=dH h.2 (k h.1)
theorem gY {a b c d e f r:Prop} (h:a/\b/\c/\d/\e/\f) (k:a->b->c->d->e->f->r):r:=mq h.2 (k h.1)
theorem aw {α:Sort u} {p:α->Prop} {r:Prop} (h:∃x,p x) (k:∀x,p x->r):r:=h.elim k
theorem bV {α:Sort u} {β:Sort v} {p:α->β->Prop} {r:Prop} (h:∃x y,p x y) (k:∀x y,p x y->r):r:=h.elim λx h=>h.elim (k x)
theorem gB {α:Sort u} {β:Sort v} {γ:Sort w} {p:α->β->γ->Prop} {r:Prop} (h:∃x y z,p x y z) (k:∀x y z,p x y z->r):r:=h.elim λx h=>bV h (k x)
theorem d4 {α:Sort u} {β:Sort v} {γ:Sort w} {δ:Sort t} {p:α->β->γ->δ->Prop} {r:Prop} (h:∃x y z u,p x y z u) (k:∀x y z u,p x y z u->r):r:=h.elim λx h=>gB h (k x)
theorem T7 {k:Nat} (h:k<2):k=0\/k=1:=(by decide:∀k<2,k=0\/k=1) k h
theorem Dy {k:Nat} (h:k<3):k=0\/k=1\/k=2:=(by decide:∀k<3,k=0\/k=1\/k=2) k h
theorem I3 {k:Nat} (h:k<4):k=0\/k=1\/k=2\/k=3:=(by decide:∀k<4,k=0\/k=1\/k=2\/k=3) k h
theorem GQ {k:Nat} (h:k<5):k=0\/k=1\/k=2\/k=3\/k=4:=(by decide:∀k<5,k=0\/k=1\/k=2\/k=3\/k=4) k h
theorem Mm {k:Nat} (h:k<9):k=0\/k=1\/k=2\/k=3\/k=4\/k=5\/k=6\/k=7\/k=8:=(by decide:∀k<9,k=0\/k=1\/k=2\/k=3\/k=4\/k=5\/k=6\/k=7\/k=8) k h
theorem Me {k:Nat} (h:0<k) (h1:k<=5):k=1\/k=2\/k=3\/k=4\/k=5:=(by decide:∀k<6,0<k->(k=1\/k=2\/k=3\/k=4\/k=5)) k (ZL h1) h
local macro_rules
 | `(tactic|symm)=>let z:=Lean.mkIdent `zz;`(tactic|repeat (rename_i $z:ident;clear $z))
local macro_rules
 | `(tactic|left)=> `(tactic|kernel_rfl)
set_option backward.match.sparseCases false
inductive oM where
 |len|sum|max|isinstance|range|list|tuple|str
inductive fM where
 |tok|quo|val|esc|jtok|jesc|junk|ip4
abbrev T:=List Nat
inductive iw where
 |bf (f:oM)
 |pat (p:fM)
 |fn (k:Nat)
 |cls
inductive ak where
 |none
 |bool (b:Bool)
 |int (i:Int) (n:Nat)
 |str (s:T) (n:Nat)
 |tup (ds:List ak)
 |list (ds:List ak)
 |dict (ks:List T) (ds:List ak)
 |inst (ks:List T) (ds:List ak)
 |hd (h:iw)
 |mat (s:T) (n:Nat) (sp:List Nat)
 |rng (a b:Int)
 |items (ks:List T) (ds:List ak)
 |vals (ks:List T) (ds:List ak)
inductive bk where
 |fz (d:ak)
 |ow (d:ak)
noncomputable def bk.d:bk->ak
 |.fz d=>d
 |.ow d=>d
inductive cQ where
 |next|brk|cont
 |ret (d:ak)
abbrev aA:=List (aL×bk)
theorem aW{α:Type}{P:Prop}{r:α}(h:ae=ac r):P:=by cases h
def ob{α β:Type}(o:Option α)(f:α->Option β):Option β:=dL ae f o
def aS{α:Type}(b:Bool)(x:Option α):Option α:=aN ae x b
def bA{α:Type}(x y:Option α):Option α:=dL y ac x
theorem aX{α β:Type}{P:Prop}{o:Option α}{f:α->Option β}{b:β}(h:ob o f=ac b)(k:∀a,o=ac a->f a=ac b->P):P:=
 @dL α (λo=>ob o f=ac b->(∀a,o=ac a->f a=ac b->P)->P) (λh O=>aW h) (λa h k=>k a rfl h) o h k
theorem bj{α:Type}{P:Prop}{x:Option α}{r:α}(h:aS b x=ac r)(k:b=ag->x=ac r->P):P:=
 @aN (λb=>aS b x=ac r->(b=ag->x=ac r->P)->P) (λh O=>aW h) (λh k=>k rfl h) b h k
theorem dG{α:Type}{P:Prop}{x y:Option α}{r:α}(h:bA x y=ac r)(k:x=ac r->P)(l:y=ac r->P):P:=
 @dL α (λx=>bA x y=ac r->(x=ac r->P)->P) (λh O=>l h) (λa h k=>k h) x h k
theorem CO{α:Type}{a r:α}{P:α->Prop}(h:ac a=ac r)(k:P a):P r:=(eJ h)▸k
def fq{α β:Type}(l:List α)(f:Option β):Option β:=@bW α (λO=>Option β) f (λO O O=>ae) l
def aY{α β:Type}(l:List α)(f:α->Option β):Option β:=@bW α (λO=>Option β) ae (λa r O=>fq r (f a)) l
def b6{α β:Type}(l:List α)(f:α->α->Option β):Option β:=@bW α (λO=>Option β) ae (λa r O=>aY r (f a)) l
theorem jp{α β:Type}{P:Prop}{l:List α}{f:Option β}{b:β}(h:fq l f=ac b)(k:l=[]->f=ac b->P):P:=
 @bW α (λl=>fq l f=ac b->(l=[]->f=ac b->P)->P) (λh k=>k rfl h) (λO O O h O=>aW h) l h k
theorem fy{α β:Type}{P:Prop}{l:List α}{f:α->Option β}{b:β}(h:aY l f=ac b)(k:∀a,l=[a]->f a=ac b->P):P:=
 @bW α (λl=>aY l f=ac b->(∀a,l=[a]->f a=ac b->P)->P) (λh O=>aW h) (λa r O h k=>jp h λe h=>k a (e▸rfl) h) l h k
theorem oV{α β:Type}{P:Prop}{l:List α}{f:α->α->Option β}{b:β}(h:b6 l f=ac b)(k:∀a c,l=[a,c]->f a c=ac b->P):P:=
 @bW α (λl=>b6 l f=ac b->(∀a c,l=[a,c]->f a c=ac b->P)->P) (λh O=>aW h) (λa r O h k=>fy h λc e h=>k a c (e▸rfl) h) l h k
abbrev d8(a b:aL):Bool:=ZM a b
abbrev le(a b:T):Bool:=PySem.W.Fast.lEq a b
def ba{α:Type}(x:aL)(l:List (aL×α)):Option α:=@bW (aL×α) (λO=>Option α) ae (λp O ih=>aN ih (ac p.2) (d8 x p.1)) l
def put{α:Type}(x:aL)(b:α)(l:List (aL×α)):List (aL×α):=
 @bW (aL×α) (λO=>List (aL×α)) [(x,b)] (λp r ih=>aN (p::ih) ((p.1,b)::r) (d8 x p.1)) l
def has(x:aL)(l:List aL):Bool:=@bW aL (λO=>Bool) am (λy O ih=>aN ih ag (d8 x y)) l
def uV(x:T)(ks:List T):List ak->Option ak:=
 @bW T (λO=>List ak->Option ak) (λO=>ae) (λk O ih ds=>@bW ak (λO=>Option ak) ae (λd r O=>aN (ih r) (ac d) (le x k)) ds) ks
def uJ(x:T)(ks:List T):Bool:=@bW T (λO=>Bool) am (λk O ih=>aN ih ag (le x k)) ks
def jL(x:T)(v:ak)(ks:List T):List ak->List T×List ak:=
 @bW T (λO=>List ak->List T×List ak) (λO=>([x],[v]))
  (λk ks ih ds=>@bW ak (λO=>List T×List ak) ([x],[v]) (λd r O=>aN (k::(ih r).1,d::(ih r).2) (k::ks,v::r) (le x k)) ds) ks
def jk{α:Type}(a:Nat)(l:List (Nat×α)):Option α:=@bW (Nat×α) (λO=>Option α) ae (λp O ih=>aN ih (ac p.2) (bt a p.1)) l
noncomputable def dW(i:Int):Nat:=i.natAbs.log2+1
def zh(i:Int):Bool:=@CX (λO=>Bool) (λn=>bt n 0) (λO=>am) i
def eW{α:Type}(l:List α):Bool:=@bW α (λO=>Bool) ag (λO O O=>am) l
noncomputable def lim:Nat:=1048576
noncomputable def bB(a b:Nat):Bool:=ig a b
noncomputable def jQ{α:Type}(d:ak)(f:Int->Nat->Option α):Option α:=@ak.casesOn (λO=>Option α) d ae (λO=>ae) f (λO O=>ae) (λO=>ae) (λO=>ae) (λO O=>ae) (λO O=>ae) (λO=>ae) (λO O O=>ae) (λO O=>ae) (λO O=>ae) (λO O=>ae)
noncomputable def fB{α:Type}(d:ak)(f:T->Nat->Option α):Option α:=@ak.casesOn (λO=>Option α) d ae (λO=>ae) (λO O=>ae) f (λO=>ae) (λO=>ae) (λO O=>ae) (λO O=>ae) (λO=>ae) (λO O O=>ae) (λO O=>ae) (λO O=>ae) (λO O=>ae)
noncomputable def oT{α:Type}(d:ak)(f:List ak->Option α):Option α:=@ak.casesOn (λO=>Option α) d ae (λO=>ae) (λO O=>ae) (λO O=>ae) f (λO=>ae) (λO O=>ae) (λO O=>ae) (λO=>ae) (λO O O=>ae) (λO O=>ae) (λO O=>ae) (λO O=>ae)
noncomputable def gp{α:Type}(d:ak)(f:List ak->Option α):Option α:=@ak.casesOn (λO=>Option α) d ae (λO=>ae) (λO O=>ae) (λO O=>ae) (λO=>ae) f (λO O=>ae) (λO O=>ae) (λO=>ae) (λO O O=>ae) (λO O=>ae) (λO O=>ae) (λO O=>ae)
noncomputable def tE{α:Type}(d:ak)(f:List T->List ak->Option α):Option α:=@ak.casesOn (λO=>Option α) d ae (λO=>ae) (λO O=>ae) (λO O=>ae) (λO=>ae) (λO=>ae) f (λO O=>ae) (λO=>ae) (λO O O=>ae) (λO O=>ae) (λO O=>ae) (λO O=>ae)
noncomputable def Bo{α:Type}(d:ak)(f:List T->List ak->Option α):Option α:=@ak.casesOn (λO=>Option α) d ae (λO=>ae) (λO O=>ae) (λO O=>ae) (λO=>ae) (λO=>ae) (λO O=>ae) f (λO=>ae) (λO O O=>ae) (λO O=>ae) (λO O=>ae) (λO O=>ae)
noncomputable def AI{α:Type}(d:ak)(f:Bool->Option α):Option α:=@ak.casesOn (λO=>Option α) d ae f (λO O=>ae) (λO O=>ae) (λO=>ae) (λO=>ae) (λO O=>ae) (λO O=>ae) (λO=>ae) (λO O O=>ae) (λO O=>ae) (λO O=>ae) (λO O=>ae)
noncomputable def CS{α:Type}(d:ak)(f:Option α):Option α:=@ak.casesOn (λO=>Option α) d f (λO=>ae) (λO O=>ae) (λO O=>ae) (λO=>ae) (λO=>ae) (λO O=>ae) (λO O=>ae) (λO=>ae) (λO O O=>ae) (λO O=>ae) (λO O=>ae) (λO O=>ae)
noncomputable def sZ{α:Type}(d:ak)(f:iw->Option α):Option α:=@ak.casesOn (λO=>Option α) d ae (λO=>ae) (λO O=>ae) (λO O=>ae) (λO=>ae) (λO=>ae) (λO O=>ae) (λO O=>ae) f (λO O O=>ae) (λO O=>ae) (λO O=>ae) (λO O=>ae)
noncomputable def yr{α:Type}(d:ak)(f:T->Nat->List Nat->Option α):Option α:=@ak.casesOn (λO=>Option α) d ae (λO=>ae) (λO O=>ae) (λO O=>ae) (λO=>ae) (λO=>ae) (λO O=>ae) (λO O=>ae) (λO=>ae) f (λO O=>ae) (λO O=>ae) (λO O=>ae)
noncomputable def D4{α:Type}(d:ak)(f:Int->Int->Option α):Option α:=@ak.casesOn (λO=>Option α) d ae (λO=>ae) (λO O=>ae) (λO O=>ae) (λO=>ae) (λO=>ae) (λO O=>ae) (λO O=>ae) (λO=>ae) (λO O O=>ae) f (λO O=>ae) (λO O=>ae)
noncomputable def NG{α:Type}(d:ak)(f:List T->List ak->Option α):Option α:=@ak.casesOn (λO=>Option α) d ae (λO=>ae) (λO O=>ae) (λO O=>ae) (λO=>ae) (λO=>ae) (λO O=>ae) (λO O=>ae) (λO=>ae) (λO O O=>ae) (λO O=>ae) f (λO O=>ae)
noncomputable def Ks{α:Type}(d:ak)(f:List T->List ak->Option α):Option α:=@ak.casesOn (λO=>Option α) d ae (λO=>ae) (λO O=>ae) (λO O=>ae) (λO=>ae) (λO=>ae) (λO O=>ae) (λO O=>ae) (λO=>ae) (λO O O=>ae) (λO O=>ae) (λO O=>ae) f
def ox{α:Type}(i:Int)(f:Nat->Option α):Option α:=@CX (λO=>Option α) f (λO=>ae) i
theorem jw{α:Type}{P:Prop}{r:α}{f:Int->Nat->Option α}(h:jQ d f=ac r)(k:∀i n,d=.int i n->f i n=ac r->P):P:=by induction d using ak.casesOn<;>first|exact k _ _ rfl h|exact aW h
theorem ff{α:Type}{P:Prop}{r:α}{f:T->Nat->Option α}(h:fB d f=ac r)(k:∀i n,d=.str i n->f i n=ac r->P):P:=by induction d using ak.casesOn<;>first|exact k _ _ rfl h|exact aW h
theorem rR{α:Type}{P:Prop}{r:α}{f:List ak->Option α}(h:oT d f=ac r)(k:∀i,d=.tup i->f i=ac r->P):P:=by induction d using ak.casesOn<;>first|exact k _ rfl h|exact aW h
theorem iI{α:Type}{P:Prop}{r:α}{f:List ak->Option α}(h:gp d f=ac r)(k:∀i,d=.list i->f i=ac r->P):P:=by induction d using ak.casesOn<;>first|exact k _ rfl h|exact aW h
theorem rG{α:Type}{P:Prop}{r:α}{f:List T->List ak->Option α}(h:tE d f=ac r)(k:∀i n,d=.dict i n->f i n=ac r->P):P:=by induction d using ak.casesOn<;>first|exact k _ _ rfl h|exact aW h
theorem FC{α:Type}{P:Prop}{r:α}{f:List T->List ak->Option α}(h:Bo d f=ac r)(k:∀i n,d=.inst i n->f i n=ac r->P):P:=by induction d using ak.casesOn<;>first|exact k _ _ rfl h|exact aW h
theorem Eu{α:Type}{P:Prop}{r:α}{f:Bool->Option α}(h:AI d f=ac r)(k:∀b,d=.bool b->f b=ac r->P):P:=by induction d using ak.casesOn<;>first|exact k _ rfl h|exact aW h
theorem GF{α:Type}{P:Prop}{r:α}{f:Option α}(h:CS d f=ac r)(k:d=.none->f=ac r->P):P:=by induction d using ak.casesOn<;>first|exact k rfl h|exact aW h
theorem AP{α:Type}{P:Prop}{r:α}{f:iw->Option α}(h:sZ d f=ac r)(k:∀b,d=.hd b->f b=ac r->P):P:=by induction d using ak.casesOn<;>first|exact k _ rfl h|exact aW h
theorem wl{α:Type}{P:Prop}{r:α}{f:T->Nat->List Nat->Option α}(h:yr d f=ac r)(k:∀i n sp,d=.mat i n sp->f i n sp=ac r->P):P:=by induction d using ak.casesOn<;>first|exact k _ _ _ rfl h|exact aW h
theorem HW{α:Type}{P:Prop}{r:α}{f:Int->Int->Option α}(h:D4 d f=ac r)(k:∀i n,d=.rng i n->f i n=ac r->P):P:=by induction d using ak.casesOn<;>first|exact k _ _ rfl h|exact aW h
theorem Q3{α:Type}{P:Prop}{r:α}{f:List T->List ak->Option α}(h:NG d f=ac r)(k:∀i n,d=.items i n->f i n=ac r->P):P:=by induction d using ak.casesOn<;>first|exact k _ _ rfl h|exact aW h
theorem P9{α:Type}{P:Prop}{r:α}{f:List T->List ak->Option α}(h:Ks d f=ac r)(k:∀i n,d=.vals i n->f i n=ac r->P):P:=by induction d using ak.casesOn<;>first|exact k _ _ rfl h|exact aW h
theorem qK{α:Type}{P:Prop}{r:α}{f:Nat->Option α}(h:ox i f=ac r)(k:∀n:Nat,i=(n:Int)->f n=ac r->P):P:=
 @CX (λi=>ox i f=ac r->(∀n:Nat,i=(n:Int)->f n=ac r->P)->P) (λn h k=>k n rfl h) (λO h O=>aW h) i h k
def mG{α:Type}(a b:ak)(f:Int->Nat->Int->Nat->Option α):Option α:=jQ a λi n=>jQ b λj m=>f i n j m
def ss{α:Type}(a b:ak)(f:T->Nat->T->Nat->Option α):Option α:=fB a λi n=>fB b λj m=>f i n j m
def iO(s:T)(n:Nat):Option ak:=aS (bB n lim) (ac (.str s n))
def Cw(ds:List ak):Option ak:=aS (bB ds.length lim) (ac (.list ds))
noncomputable def dw{α:Type}(k:Nat)(l:List α):List α:=@gW (λO=>List α) [] (λO ih=>l++ih) k
def MY(a b:ak):Option ak:=bA (mG a b λi n j m=>ac (.int (i+j) (cK n m+1))) (bA (ss a b λs n t m=>iO (s++t) (n+m)) (gp a λxs=>gp b λys=>Cw (xs++ys)))
def JG(a b:ak):Option ak:=bA (mG a b λi n j m=>aS (bB (n+m) lim) (ac (.int (i*j) (n+m))))
 (bA (fB a λs O=>jQ b λj m=>aY s λe=>ox j λk=>aS (bB m 15) (iO (dw k [e]) (2^m)))
  (gp a λxs=>jQ b λj O=>ox j λk=>aS (bB k 100) (aS (bB xs.length 100) (Cw (dw k xs)))))
def Kh(a b:ak):Option ak:=bA (mG a b λi n j m=>aS (!zh j) (ac (.int (gJ i j) m))) (ss a b λf O s n=>aS (le f [34,37,115,34]) (aS (bB n 1000000) (ac (.str (34::(s++[34])) (n+2)))))
def um(op:zE)(a b:ak):Option ak:=match op with
 |.Add=>MY a b
 |.Sub=>mG a b λi n j m=>ac (.int (i-j) (cK n m+1))
 |.Mult=>JG a b
 |.FloorDiv=>mG a b λi n j m=>aS (!zh j) (aS (bB m 1000) (ac (.int (ij i j) n)))
 |.Mod=>Kh a b
 |.Pow=>mG a b λi n j O=>ox j λk=>aS (bB n 64) (aS (bB k 64) (ac (.int (i^k) (n*k+1))))
 |_=>ae
noncomputable def jY(i j:Int):Bool:=az (i<j)
noncomputable def ld(i j:Int):Bool:=az (i<=j)
noncomputable def kq(i j:Int):Bool:=az (i=j)
mutual
inductive rK:Nat->ak->ak->Prop
 |none {k:Nat}:rK k .none .none
 |int {k:Nat} {i:Int} {n m:Nat}:rK k (.int i n) (.int i m)
 |str {k:Nat} {s:T} {n m:Nat}:rK k (.str s n) (.str s m)
 |tup {k:Nat} {xs ys:List ak} (h:jW k xs ys):rK (k+1) (.tup xs) (.tup ys)
 |list {k:Nat} {xs ys:List ak} (h:jW k xs ys):rK (k+1) (.list xs) (.list ys)
inductive jW:Nat->List ak->List ak->Prop
 |nil {k:Nat}:jW k [] []
 |cons {k:Nat} {a b:ak} {as bs:List ak} (h:rK k a b) (r:jW k as bs):jW k (a::as) (b::bs)
end
open Classical in
def vo(xs ys:List ak):Option Bool:=if jW 8 xs ys then ac ag else if jW 8 xs xs/\ys=[]then ac am else ae
def G9(a b:ak):Option Bool:=bA (mG a b λi O j O=>ac (kq i j)) (bA (ss a b λs O t O=>ac (le s t)) (gp a λxs=>gp b λys=>vo xs ys))
def io(a:Nat)(s:T):Option Nat:=@bW Nat (λO=>Option Nat) ae (λb O ih=>aN (ob ih λk=>ac (k+1)) (ac 0) (bt a b)) s
def Am(a b:Bool):Bool:=aN b (!b) a
def lG(o:Option Nat):Bool:=dL am (λO=>ag) o
def qc(op:CmpOp)(a b:ak):Option Bool:=match op with
 |.Eq=>G9 a b
 |.NotEq=>ob (G9 a b) λv=>ac (!v)
 |.LtE=>mG a b λi O j O=>ac (ld i j)
 |.Gt=>mG a b λi O j O=>ac (jY j i)
 |.GtE=>mG a b λi O j O=>ac (ld j i)
 |.IsNot=>bA (AI a λx=>AI b λy=>ac (Am x y)) (CS b (bA (CS a (ac am)) (fB a λO O=>ac ag)))
 |.In=>bA (ss a b λs O t O=>aY s λc=>ac (lG (io c t))) (fB a λs O=>tE b λks O=>ac (uJ s ks))
 |_=>ae
def Ea(d:ak):Option Bool:=bA (AI d ac) (bA (jQ d λi O=>ac (!zh i)) (bA (fB d λs n=>aS (bB n lim) (ac (!eW s))) (bA (gp d λl=>aS (bB l.length lim) (ac (!eW l))) (bA (yr d λO O O=>ac ag) (CS d (ac am))))))
def t6(n:Nat)(i:Int):Nat:=@CX (λO=>Nat) (λk=>Nat.min k n) (λk=>n-(k+1)) i
noncomputable def im{α:Type}(l:List α)(lo hi:Nat):List α:=(l.drop lo).take (hi-lo)
def third{α:Type}(l:List α):Nat->List α:=@bW α (λO=>Nat->List α) (λO=>[]) (λa O ih k=>@gW (λO=>List α) (a::ih 2) (λk O=>ih k) k) l
def qE(i:Int)(n:Nat):Option Nat:=@CX (λO=>Option Nat) (λk=>aS (eK k n) (aS (bB k lim) (ac k))) (λk=>aS (eK k n) (aS (bB k lim) (ac (n-(k+1))))) i
def item(o i:ak):Option ak:=bA (jQ i λi O=>bA (gp o λds=>ob (qE i ds.length) λk=>ds[k]?) (bA (oT o λds=>ob (qE i ds.length) λk=>ds[k]?) (fB o λs O=>ob (qE i s.length) λk=>ob s[k]? λc=>ac (.str [c] 1))))
 (fB i λx O=>tE o λks ds=>uV x ks ds)
def Ik(o:ak)(lo hi:Option Int):Option ak:=bA (gp o λds=>aS (bB ds.length lim) (ac (.list (im ds (dL 0 (t6 ds.length) lo) (dL ds.length (t6 ds.length) hi)))))
 (fB o λs n=>aS (bB n lim) (dL (ob hi λb=>ox b λb=>ac (.str (s.take b) (Nat.min b n)))
  (λa=>dL (ox a λa=>ac (.str (s.drop a) n)) (λO=>ae) hi) lo))
def iW(l:List ak):Option (List T×Nat):=@bW ak (λO=>Option (List T×Nat)) (ac ([],0)) (λd O ih=>fB d λs n=>ob ih λp=>ac (s::p.1,n+p.2)) l
def l8(l:List ak):Option (List Int×Nat):=@bW ak (λO=>Option (List Int×Nat)) (ac ([],0)) (λd O ih=>jQ d λs n=>ob ih λp=>ac (s::p.1,cK n p.2)) l
def jc(l:List Int):Int->Int:=@bW Int (λO=>Int->Int) (λa=>a) (λb O ih a=>aN (ih a) (ih b) (jY a b)) l
def lI(l:List Int):Int->Int:=@bW Int (λO=>Int->Int) (λa=>a) (λb O ih a=>ih (a+b)) l
def fJ(n:Nat):Int->List ak:=@gW (λO=>Int->List ak) (λO=>[]) (λO ih a=>.int a (dW a)::ih (a+1)) n
noncomputable def fN(n:Nat):ak:=.int (n:Int) (n.log2+1)
noncomputable def gc(n:Nat):ak:=.int (n:Int) 15
noncomputable def eL(n:Nat):Nat:=64*(n/64+1)
def wD(l:List ak):Nat->List ak:=@bW ak (λO=>Nat->List ak) (λO=>[]) (λd O ih k=>.tup [fN k,d]::ih (k+1)) l
def jU(s:T):List ak:=@bW Nat (λO=>List ak) [] (λc O ih=>.str [c] 1::ih) s
noncomputable def Bu(k:T):ak:=.str k k.length
def uN(ks:List T):List ak->List ak:=@bW T (λO=>List ak->List ak) (λO=>[]) (λk O ih ds=>@bW ak (λO=>List ak) [] (λd r O=>.tup [Bu k,d]::ih r) ds) ks
def re(ks:List T):List ak:=@bW T (λO=>List ak) [] (λk O ih=>Bu k::ih) ks
def fD(f:Nat):Nat->T:=@gW (λO=>Nat->T) (λO=>[]) (λO ih n=>aN (ih (n/10)++[48+n% 10]) [48+n] (eK n 10)) f
noncomputable def rL(e:aK):Bool:=match e with|.Tuple .. =>ag|_=>am
def sP(t:aK)(d:ak):Option (List ak):=bA (gp d ac) (bA (oT d ac) (bA (fB d λs O=>ac (jU s)) (bA (tE d λks O=>ac (re ks)) (bA (D4 d λa b=>ac (fJ (b-a).toNat a))
 (bA (NG d λks ds=>aS (rL t) (ac (uN ks ds))) (Ks d λO ds=>ac ds))))))
def i6(f:oM)(args:List ak):Option ak:=match f with
 |.len=>aY args λd=>bA (gp d λds=>aS (bB ds.length 32767) (ac (gc ds.length))) (bA (oT d λds=>aS (bB ds.length 16384) (ac (gc ds.length))) (fB d λs n=>aS (bB n 32767) (ac (gc s.length))))
 |.sum=>aY args λd=>gp d λds=>ob (l8 ds) λp=>ac (.int (lI p.1 0) (eL (p.2+p.1.length+1)))
 |.max=>bA (aY args λd=>gp d λds=>ob (l8 ds) λp=>@bW Int (λO=>Option ak) ae (λi l O=>ac (.int (jc l i) p.2)) p.1) (b6 args λa b=>mG a b λi n j m=>ac (.int (jc [j] i) (cK n m)))
 |.isinstance=>b6 args λa b=>sZ b λh=>match h with
  |.bf .tuple=>jQ a λO O=>ac (.bool am)
  |.bf .str=>gp a λO=>ac (.bool am)
  |_=>ae
 |.range=>bA (aY args λd=>jQ d λb n=>aS (bB n 20) (ac (.rng 0 b))) (b6 args λa b=>mG a b λi n j m=>aS (bB n 20) (aS (bB m 20) (ac (.rng i j))))
 |.list=>aY args λd=>bA (D4 d λa b=>Cw (fJ (b-a).toNat a)) (tE d λks O=>Cw (re ks))
 |.tuple=>aY args λd=>gp d λds=>aS (bB ds.length lim) (ac (.tup ds))
 |.str=>aY args λd=>jQ d λi O=>ox i λk=>aS (eK k 10000) (ac (.str (fD 5 k) 5))
noncomputable def cG(c:Nat):Bool:=ZN c
def bE(p:Nat->Bool)(l:T):Nat:=@bW Nat (λO=>Nat) 0 (λc O ih=>aN 0 (ih+1) (p c)) l
def sK(c:Nat):Bool:= !(bt c 61||cG c||Nat.beq c 59||Nat.beq c 44)
def mZ(c:Nat):Bool:= !(cG c||Nat.beq c 59||Nat.beq c 44)
def sw(c:Nat):Bool:=bt c 61||cG c||Nat.beq c 59
noncomputable def pw(c:Nat):Bool:=bt c 33||(ig 35 c&&ig c 39)||Nat.beq c 42||Nat.beq c 43||Nat.beq c 45||Nat.beq c 46||
 (ig 48 c&&ig c 57)||(ig 65 c&&ig c 90)||(ig 94 c&&ig c 122)||Nat.beq c 124||Nat.beq c 126
noncomputable def gi(c:Nat):Bool:=bt c 34||Nat.beq c 92
def JK(l:T):Option (Option T):=@bW Nat (λO=>Option (Option T)) (ac ae) (λe r O=>aS (!cG e) (aN (ac ae) (@bW Nat (λO=>Option (Option T)) (ac (ac [])) (λf O O=>aS (!cG f) (ac (ac r))) r) (bt e 61))) l
def jv(l:T):Bool->Option Nat:=@bW Nat (λO=>Bool->Option Nat) (λO=>ae)
 (λe O ih b=>aN (aN (ob (ih (bt e 92)) λk=>ac (k+1)) (ac 0) (bt e 34)) (aS (!bt e 10) (ob (ih am) λk=>ac (k+1))) b) l
noncomputable def tj:List Nat:=[14,8,1,2,4294967295,1,1,46,0,16,46,24,9,1,4294967295,13,4,8,0,0,1,6,5,1]
def X3(o:Option Sre.Outcome)(m:fY):Option (Option (List Nat)):=ob o λo=>@ZO (λO=>Option (Option (List Nat))) (ac (ac [m.start,m.handed])) (ac ae) (λO=>ae) o
def Xy(l:T):Option (Option (List Nat)):=X3 (lj 4000 (eM tj.toArray l.toArray 0 0 l.toArray.size am)).outcome (lj 4000 (eM tj.toArray l.toArray 0 0 l.toArray.size am))
def rl(p:fM)(l:T):Option (Option (List Nat)):=match p with
 |.tok=>@gW (λO=>Option (Option (List Nat))) (aS (bt (bE cG l) 0) (ac ae)) (λj O=>ac (ac [0,bE cG l+(j+1),bE cG l,bE cG l+(j+1)])) (bE sK (l.drop (bE cG l)))
 |.quo=>ob (JK l) λo=>dL (ac ae) (λr=>@bW Nat (λO=>Option (Option (List Nat))) (ac ae) (λe r O=>aN (ac ae) (ob (jv r am) λj=>ac (ac [0,j+3,2,j+2])) (bt e 34)) r) o
 |.val=>ob (JK l) λo=>dL (ac ae) (λr=>ac (ac [0,1+bE mZ r,1,1+bE mZ r])) o
 |.ip4=>ob (Xy l) λr=>dL (ac ae) (λsp=>aS (sp.all λp=>bB p l.length) (ac (ac sp))) r
 |_=>ae
def cm(q:T)(l:T):T:=@bW Nat (λO=>T) [] (λc O ih=>aN (c::ih) (q++(c::ih)) (gi c)) l
def iH(q:T)(l:T):Bool->Option T:=@bW Nat (λO=>Bool->Option T) (λb=>aS (!b) (ac []))
 (λc O ih b=>aN (aN (ob (ih am) λr=>ac (c::r)) (ih ag) (bt c 92)) (aS (!bt c 10) (ob (ih am) λr=>ac (q++(c::r)))) b) l
def eR(a:Nat)(b:T)(l:T):T:=@bW Nat (λO=>T) [] (λc O ih=>aN (c::ih) (b++ih) (bt c a)) l
def c8(a:Nat)(l:T):T×List T:=@bW Nat (λO=>T×List T) ([],[]) (λc O ih=>aN (c::ih.1,ih.2) ([],ih.1::ih.2) (bt c a)) l
def cy(sep:T)(l:List T):T:=@bW T (λO=>T) [] (λx r ih=>@bW T (λO=>T) x (λO O O=>x++(sep++ih)) r) l
def nT(p:Nat->Bool)(l:T):T:=@bW Nat (λO=>T) [] (λc O ih=>@bW Nat (λO=>T) (aN [c] [] (p c)) (λe l O=>c::e::l) ih) l
def qR(l:List T):List ak:=@bW T (λO=>List ak) [] (λs O ih=>.str s s.length::ih) l
inductive mm where
 |find|lstrip|rstrip|startswith|split|join|items|values|search|subn|fullmatch|group|span
def Io(x:aL):Option mm:=ba x [("find",.find),("lstrip",.lstrip),("rstrip",.rstrip),("startswith",.startswith),("split",.split),("join",.join),
 ("items",.items),("values",.values),("search",.search),("subn",.subn),("fullmatch",.fullmatch),("group",.group),("span",.span)]
def ya{α:Type}(d:ak)(f:fM->Option α):Option α:=sZ d λh=>@iw.rec (λO=>Option α) (λO=>ae) f (λO=>ae) ae h
def BL{α:Type}(args:List ak)(f:Nat->Option α):Option α:=aY args λd=>fB d λy O=>aY y f
def meth(m:mm)(o:ak)(args:List ak):Option ak:=@mm.rec (λO=>Option ak)
 (fB o λs O=>BL args λy=>ac (dL (.int (-1) 1) fN (io y s)))
 (fB o λs n=>aS (bB n lim) (fq args (ac (.str (s.drop (bE cG s)) n))))
 (fB o λs n=>aS (bB n lim) (fq args (ac (.str (nT cG s) n))))
 (fB o λs O=>BL args λy=>ac (.bool (@bW Nat (λO=>Bool) am (λe O O=>bt y e) s)))
 (fB o λs n=>aS (bB n lim) (BL args λy=>ac (.list (qR ((c8 y s).1::(c8 y s).2)))))
 (fB o λsep n=>aY args λd=>gp d λds=>ob (iW ds) λp=>iO (cy sep p.1) (eL (p.2+n*p.1.length)))
 (tE o λks ds=>fq args (ac (.items ks ds)))
 (tE o λks ds=>fq args (ac (.vals ks ds)))
 (ya o λp=>aY args λd=>fB d λs n=>aS (bB n lim) (ob (rl p s) λr=>ac (dL .none (λsp=>.mat s n sp) r)))
 (ya o λp=>b6 args λa b=>fB a λe O=>fq e (fB b λs n=>aS (bB n lim) (@fM.rec (λO=>Option ak) ae ae ae ae ae ae (@gW (λO=>Option ak) ae (λj O=>ac (.tup [.str (s.drop (j+1)) n,fN 1])) (bE sw s)) ae p)))
 (ya o λp=>aY args λd=>fB d λs n=>aS (bB n lim) (@fM.rec (λO=>Option ak) ae ae ae ae (ac (aN .none (.mat s n [0,s.length]) (!eW s&&bt (bE pw s) s.length))) ae ae ae p))
 (yr o λs n sp=>aY args λd=>jQ d λi O=>ox i λk=>aS (bt k 1) (aS (bB n lim) (ob sp[2]? λa=>ob sp[3]? λb=>ac (.str (im s a b) n))))
 (yr o λs n sp=>aY args λd=>jQ d λi O=>ox i λk=>aS (bt k 0) (ob sp[0]? λa=>ob sp[1]? λb=>ac (.tup [fN a,fN b])))
 m
structure cC where
 names:List (aL×dh)
 wr:List aL
 fix:List aL
structure t8 where
 params:List aL
 body:List bY
 names:List (aL×dh)
structure eQ where
 glob:List (aL×iw)
 fns:List (Nat×t8)
 meths:List (aL×Nat)
 statics:List (aL×ak)
 attrs:List aL
 init:Nat
 lam:aK->Option T
 spec:Nat->List ak->Option ak
 nspec:List ak->Option ak
structure bQ where
 ev:cC->aA->aK->Option (ak×aA)
 ts:cC->aA->aK->Option (Bool×aA)
 ex:cC->aA->bY->Option (cQ×aA)
 call:Nat->List ak->Option ak
def GW(k:dh):Bool:=@Hi (λO=>Bool) ag am am am am k
def qD(k:dh):Bool:=@Hi (λO=>Bool) am ag am am am k
def pk(k:dh):Bool:=@Hi (λO=>Bool) am am ag am am k
def E1(k:dh):Bool:=@Hi (λO=>Bool) am am am am ag k
def ke(sc:cC)(x:aL):Bool:=dL am (λk=> !has x sc.fix&&(GW k||(qD k&&has x sc.wr))) (ba x sc.names)
def ji(sc:cC)(x:aL):Bool:=dL am (λk=>GW k||(qD k||pk k)) (ba x sc.names)
def iT(sc:cC)(σ:aA)(x:aL)(b:bk):Option aA:=aS (ke sc x) (ac (put x b σ))
noncomputable def kh{α:Type}(e:aK)(f:aL->eF->Option α):Option α:=(@fw (λO=>Option α) e (λO O O=>ae) (λO O O=>ae) (λO O O O=>ae) (λO O O=>ae) (λO O O O=>ae) (λO O O O=>ae) (λO O O=>ae) (λO O O=>ae) (λO O O O=>ae) (λO O O O=>ae) (λO O O O O=>ae) (λO O O O=>ae) (λO O=>ae) (λO O=>ae) (λO O=>ae) (λO O O O=>ae) (λO O O O=>ae) (λO O O O=>ae) (λO O=>ae) (λO O O=>ae) (λO O O=>ae) (λO O O=>ae) (λO O=>ae) (f) (λO O=>ae) (λO O O=>ae) (λO O O O=>ae))
def zt(sc:cC)(ts:List aK):aA->List ak->Option aA:=@bW aK (λO=>aA->List ak->Option aA) (λσ ds=>fq ds (ac σ))
 (λt O ih σ ds=>@bW ak (λO=>Option aA) ae (λd r O=>kh t λx O=>ob (iT sc σ x (.fz d)) λσ=>ih σ r) ds) ts
def i7(sc:cC)(σ:aA)(t:aK)(d:ak):Option aA:=(@fw (λO=>Option aA) t (λO O O=>ae) (λO O O=>ae) (λO O O O=>ae) (λO O O=>ae) (λO O O O=>ae) (λO O O O=>ae) (λO O O=>ae) (λO O O=>ae) (λO O O O=>ae) (λO O O O=>ae) (λO O O O O=>ae) (λO O O O=>ae) (λO O=>ae) (λO O=>ae) (λO O=>ae) (λO O O O=>ae) (λO O O O=>ae) (λO O O O=>ae) (λO O=>ae) (λO O O=>ae) (λO O O=>ae) (λO O O=>ae) (λO O=>ae) (λx O=>iT sc σ x (.fz d)) (λO O=>ae) (λts O O=>oT d λds=>zt sc ts σ ds) (λO O O O=>ae))
def pn(E:bQ)(sc:cC)(σ:aA)(e:aK):Option (ak×aA):=bA (kh e λx O=>aS (ji sc x) (ob (ba x σ) λb=>ac (b.d,σ))) (E.ev sc σ e)
def dQ(E:bQ)(sc:cC)(es:List aK):aA->Option (List ak×aA):=@bW aK (λO=>aA->Option (List ak×aA)) (λσ=>ac ([],σ))
 (λe O ih σ=>ob (E.ev sc σ e) λp=>ob (ih p.2) λq=>ac (p.1::q.1,q.2)) es
def oj(f:cQ):Bool:=@cQ.rec (λO=>Bool) ag am am (λO=>am) f
def b9(E:bQ)(sc:cC)(ss:List bY):aA->Option (cQ×aA):=@bW bY (λO=>aA->Option (cQ×aA)) (λσ=>ac (.next,σ))
 (λst O ih σ=>ob (E.ex sc σ st) λp=>aN (ac p) (ih p.2) (oj p.1)) ss
noncomputable def E9(op:CY):Bool:=match op with|.And=>ag|.Or=>am
def Cb(E:bQ)(sc:cC)(a:Bool)(es:List aK):aA->Option (Bool×aA):=@bW aK (λO=>aA->Option (Bool×aA)) (λσ=>ac (a,σ))
 (λe O ih σ=>ob (E.ts sc σ e) λp=>aN (ac p) (ih p.2) (aN (!a) a p.1)) es
def J6(k:aA->Option (cQ×aA))(p:cQ×aA):Option (cQ×aA):=@cQ.rec (λO=>Option (cQ×aA)) (k p.2) (ac (.next,p.2)) (k p.2) (λO=>ac p) p.1
def lO(E:bQ)(sc:cC)(t:aK)(body:List bY)(l:List ak):aA->Option (cQ×aA):=@bW ak (λO=>aA->Option (cQ×aA)) (λσ=>ac (.next,σ))
 (λd O ih σ=>ob (i7 sc σ t d) λσ=>ob (b9 E sc body σ) (J6 ih)) l
def sQ(E:bQ)(sc:cC)(t:aK)(body:List bY)(k:Nat):aA->Option (cQ×aA):=@gW (λO=>aA->Option (cQ×aA)) (λO=>ae)
 (λO ih σ=>ob (E.ts sc σ t) λp=>aN (ac (.next,p.2)) (ob (b9 E sc body p.2) (J6 ih)) p.1) k
noncomputable def nU(e:aK):Bool:=(@fw (λO=>Bool) e (λO O O=>am) (λO O O=>am) (λO O O O=>am) (λO O O=>am) (λO O O O=>am) (λO O O O=>am) (λO O O=>am) (λO O O=>ag) (λO O O O=>am) (λO O O O=>am) (λO O O O O=>am) (λO O O O=>am) (λO O=>am) (λO O=>am) (λO O=>am) (λO O O O=>am) (λO O O O=>am) (λO O O O=>am) (λO O=>am) (λO O O=>am) (λO O O=>am) (λO O O=>am) (λO O=>am) (λO O=>am) (λO O=>am) (λO O O=>am) (λO O O O=>am))
def uF(o l:List (aL×dh)):List (aL×dh):=@bW (aL×dh) (λO=>List (aL×dh)) [] (λp O ih=>(p.1,aN p.2 (aN p.2 .cell (dL am qD (ba p.1 o))) (pk p.2))::ih) l
def qW(l:List (aL×dh)):List aL:=@bW (aL×dh) (λO=>List aL) [] (λp O ih=>aN ih (p.1::ih) (qD p.2)) l
def frz1(x:aL)(l:aA):aA:=@bW (aL×bk) (λO=>aA) [] (λp r ih=>aN (p::ih) ((p.1,.fz p.2.d)::r) (d8 x p.1)) l
def frz(l:List (aL×dh)):aA->aA:=@bW (aL×dh) (λO=>aA->aA) (λσ=>σ) (λp O ih σ=>ih (aN σ (frz1 p.1 σ) (pk p.2))) l
def kN(l:List (aL×dh))(σ:aA):aA:=@bW (aL×dh) (λO=>aA) [] (λp O ih=>aN ih (dL ih (λb=>(p.1,.fz b.d)::ih) (ba p.1 σ)) (pk p.2)) l
def gK{β:Type}(sc:cC)(t:aK)(stp:aA->β->Option (aA×β))(l:List ak):aA->β->Option β:=@bW ak (λO=>aA->β->Option β) (λO b=>ac b) (λd O ih σ b=>ob (i7 sc σ t d) λσ=>ob (stp σ b) λp=>ih p.1 p.2) l
def iy(E:bQ)(sc:cC)(ifs:List aK)(elt:aK)(σ:aA)(b:List ak):Option (aA×List ak):=ob (Cb E sc ag ifs σ) λp=>aN (ac (p.2,b)) (ob (E.ev sc p.2 elt) λq=>aS (bB b.length lim) (ac (q.2,b++[q.1]))) p.1
def FK(E:bQ)(sc:cC)(key elt:aK)(σ:aA)(b:List T×List ak):Option (aA×(List T×List ak)):=ob (E.ev sc σ key) λp=>fB p.1 λx O=>ob (E.ev sc p.2 elt) λq=>aS (bB b.1.length lim) (ac (q.2,jL x q.1 b.1 b.2))
noncomputable def isFn(k:ScopeKind):Bool:=match k with|.function=>ag|_=>am
def pM(l:List (aL×dh)):Bool:=@bW (aL×dh) (λO=>Bool) ag (λp r ih=>dL ih (λO=>am) (ba p.1 r)) l
def wi(l:List (aL×dh)):Bool:=@bW (aL×dh) (λO=>Bool) ag (λp O ih=> !d8 p.1 "__debug__"&&(!d8 p.1 "__classdict__"&&ih)) l
def A5(o l:List (aL×dh)):Bool:=@bW (aL×dh) (λO=>Bool) ag (λp O ih=>aN ih (dL am (λk=>aN am ih (qD k||pk k)) (ba p.1 o)) (pk p.2)) l
def w6(sc:cC)(scope:iY)(it:aK):Bool:=isFn scope.kind&&(!nU it&&(A5 sc.names scope.names&&(pM scope.names&&wi scope.names)))
def mi(sc:cC)(scope:iY):cC:=⟨uF sc.names scope.names,qW scope.names,[]⟩
def uk(l:T):Bool:=@bW Nat (λO=>Bool) ag (λc O ih=>aN am ih (eK c 128)) l
def params(xs:List aL):List ak->Option aA:=@bW aL (λO=>List ak->Option aA) (λds=>fq ds (ac [])) (λx O ih ds=>@bW ak (λO=>Option aA) ae (λd r O=>ob (ih r) λσ=>ac ((x,.fz d)::σ)) ds) xs
def AD(f:cQ):Option ak:=@cQ.rec (λO=>Option ak) (ac .none) ae ae ac f
def Y7(C:eQ)(E:bQ)(a:Nat)(args:List ak):Option ak:=bA (C.spec a args) (ob (jk a C.fns) λf=>ob (params f.params args) λσ=>ob (b9 E ⟨f.names,qW f.names,[]⟩ f.body σ) λp=>AD p.1)
def Un(b:bk)(f:ak->Option ak):Option ak:=@bk.rec (λO=>Option ak) (λO=>ae) f b
def sX(C:eQ)(E:bQ)(args:List ak):Option ak:=bA (C.nspec args) (ob (jk C.init C.fns) λf=>aY args λd=>b6 f.params λme x=>ob (b9 E ⟨f.names,qW f.names,[me]⟩ f.body [(me,.ow (.inst [] [])),(x,.fz d)]) λp=>aS (oj p.1) (ob (ba me p.2) λb=>Un b ac))
def on(C:eQ)(E:bQ)(h:iw)(args:List ak):Option ak:=@iw.rec (λO=>Option ak) (λb=>i6 b args) (λO=>ae) (λa=>E.call a args) (sX C E args) h
def fk(C:eQ)(E:bQ)(o:ak)(m:aL)(args:List ak):Option ak:=bA (ob (Io m) λt=>meth t o args) (Bo o λks ds=>aS (!uJ m.cps.toList ks) (ob (ba m C.meths) λa=>E.call a (o::args)))
def Nc(p:fM)(q s:T)(n:Nat):Option ak:=@fM.rec (λO=>Option ak) ae ae ae (aS (eW q) (aS (bB n lim) (ob (iH q s am) λr=>ac (.str r n)))) ae (aS (bB q.length 1) (iO (cm q s) (2*n))) ae ae p
def Jc(k:zF):Option ak:=(@Da (λO=>Option ak) k (ac .none) (λb=>ac (.bool b)) (λi=>ac (.int i (dW i))) (λO=>ae) (λO O=>ae) (λs=>aS (uk s.cps.toList) (iO s.cps.toList s.cps.toList.length)) (λO=>ae) (ae))
def KD(C:eQ)(o:ak)(a:aL):Option ak:=bA (Bo o λks ds=>aS (has a C.attrs) (uV a.cps.toList ks ds)) (bA (sZ o λh=>@iw.rec (λO=>Option ak) (λO=>ae) (λO=>ae) (λO=>ae) (ba a C.statics) h) (yr o λs n O=>aS (d8 a "string") (ac (.str s n))))
def DH(E:bQ)(sc:cC)(σ:aA)(o:Option aK):Option (Option Int×aA):=dL (ac (ae,σ)) (λe=>ob (E.ev sc σ e) λp=>jQ p.1 λi O=>ac (ac i,p.2)) o
def Gs(E:bQ)(sc:cC)(σ:aA)(ks:List (Option aK))(vs:List aK):Option (ak×aA):=bA (fq ks (fq vs (ac (.dict [] [],σ))))
 (aY ks λk=>aY vs λv=>ob k λk=>ob (E.ev sc σ k) λp=>fB p.1 λx O=>ob (E.ev sc p.2 v) λq=>ac (.dict [x] [q.1],q.2))
inductive mA where
 |at(k:ak)
 |sl (l h:Option Int)
 |th (k:Nat)
def LR(e:aK):Bool:=(@fw (λO=>Bool) e (λO O O=>am) (λO O O=>am) (λO O O O=>am) (λO O O=>am) (λO O O O=>am) (λO O O O=>am) (λO O O=>am) (λO O O=>am) (λO O O O=>am) (λO O O O=>am) (λO O O O O=>am) (λO O O O=>am) (λO O=>am) (λO O=>am) (λO O=>am) (λO O O O=>am) (λO O O O=>am) (λO O O O=>am) (λO O=>am) (λk O O=>(@Da (λO=>Bool) k (am) (λO=>am) (λi=>kq i 3) (λO=>am) (λO O=>am) (λO=>am) (λO=>am) (am))) (λO O O=>am) (λO O O=>am) (λO O=>am) (λO O=>am) (λO O=>am) (λO O O=>am) (λO O O O=>am))
def tF(E:bQ)(sc:cC)(σ:aA)(i:aK):Option (mA×aA):=(@fw (λO=>Option (mA×aA)) i (λO O O=>ob (E.ev sc σ i) λp=>ac (.at p.1,p.2)) (λO O O=>ob (E.ev sc σ i) λp=>ac (.at p.1,p.2)) (λO O O O=>ob (E.ev sc σ i) λp=>ac (.at p.1,p.2)) (λO O O=>ob (E.ev sc σ i) λp=>ac (.at p.1,p.2)) (λO O O O=>ob (E.ev sc σ i) λp=>ac (.at p.1,p.2)) (λO O O O=>ob (E.ev sc σ i) λp=>ac (.at p.1,p.2)) (λO O O=>ob (E.ev sc σ i) λp=>ac (.at p.1,p.2)) (λO O O=>ob (E.ev sc σ i) λp=>ac (.at p.1,p.2)) (λO O O O=>ob (E.ev sc σ i) λp=>ac (.at p.1,p.2)) (λO O O O=>ob (E.ev sc σ i) λp=>ac (.at p.1,p.2)) (λO O O O O=>ob (E.ev sc σ i) λp=>ac (.at p.1,p.2)) (λO O O O=>ob (E.ev sc σ i) λp=>ac (.at p.1,p.2)) (λO O=>ob (E.ev sc σ i) λp=>ac (.at p.1,p.2)) (λO O=>ob (E.ev sc σ i) λp=>ac (.at p.1,p.2)) (λO O=>ob (E.ev sc σ i) λp=>ac (.at p.1,p.2)) (λO O O O=>ob (E.ev sc σ i) λp=>ac (.at p.1,p.2)) (λO O O O=>ob (E.ev sc σ i) λp=>ac (.at p.1,p.2)) (λO O O O=>ob (E.ev sc σ i) λp=>ac (.at p.1,p.2)) (λO O=>ob (E.ev sc σ i) λp=>ac (.at p.1,p.2)) (λO O O=>ob (E.ev sc σ i) λp=>ac (.at p.1,p.2)) (λO O O=>ob (E.ev sc σ i) λp=>ac (.at p.1,p.2)) (λO O O=>ob (E.ev sc σ i) λp=>ac (.at p.1,p.2)) (λO O=>ob (E.ev sc σ i) λp=>ac (.at p.1,p.2)) (λO O=>ob (E.ev sc σ i) λp=>ac (.at p.1,p.2)) (λO O=>ob (E.ev sc σ i) λp=>ac (.at p.1,p.2)) (λO O O=>ob (E.ev sc σ i) λp=>ac (.at p.1,p.2)) (λlo hi st O=>ob (DH E sc σ lo) λp=>dL (ob (DH E sc p.2 hi) λq=>ac (.sl p.1 q.1,q.2)) (λt=>aS (LR t) (dL (ob p.1 λi=>ox i λk=>ac (.th k,p.2)) (λO=>ae) hi)) st))
def pP(o:ak)(i:mA):Option ak:=@mA.rec (λO=>Option ak) (item o) (Ik o) (λk=>gp o λds=>aS (bB ds.length lim) (ac (.list (third (ds.drop k) 0)))) i
def Mq(E:bQ)(sc:cC)(σ:aA)(e i:aK):Option (ak×aA):=bA (kh e λx O=>aS (ji sc x) (ob (ba x σ) λO=>ob (tF E sc σ i) λq=>ob (ba x q.2) λb=>ob (pP b.d q.1) λd=>ac (d,q.2)))
 (ob (E.ev sc σ e) λp=>ob (tF E sc p.2 i) λq=>ob (pP p.1 q.1) λd=>ac (d,q.2))
noncomputable def xh(op:CmpOp):Bool:=match op with|.In=>ag|_=>am
def rC(E:bQ)(sc:cC)(σ:aA)(a:aK)(op:CmpOp)(b:aK):Option (Bool×aA):=aS (!nU b) (ob (E.ev sc σ a) λp=>ob (aN (E.ev sc p.2 b) (pn E sc p.2 b) (xh op)) λq=>ob (qc op p.1 q.1) λv=>ac (v,q.2))
noncomputable def lT(e:aK):Bool:=(@fw (λO=>Bool) e (λO O O=>am) (λO O O=>am) (λO O O O=>am) (λO O O=>am) (λO O O O=>am) (λO O O O=>am) (λO O O=>am) (λO O O=>am) (λO O O O=>am) (λO O O O=>am) (λO O O O O=>am) (λO O O O=>am) (λO O=>am) (λO O=>am) (λO O=>am) (λO O O O=>am) (λO O O O=>am) (λO O O O=>am) (λO O=>am) (λO O O=>am) (λO O O=>am) (λO O O=>am) (λO O=>ag) (λO O=>am) (λO O=>am) (λO O O=>am) (λO O O O=>am))
def gh(l:List aK):Bool:=@bW aK (λO=>Bool) ag (λe O ih=> !lT e&&ih) l
def DU{α:Type}(gs:List CZ)(f:aK->aK->List aK->Option α):Option α:=aY gs λg=>aS (kq g.is_async 0) (f g.target g.iter g.ifs)
def Na{α:Type}(e:aK)(f:aK->Option α):Option α:=(@fw (λO=>Option α) e (λO O O=>ae) (λO O O=>ae) (λO O O O=>ae) (λO O O=>ae) (λO O O O=>ae) (λO O O O=>ae) (λO O O=>ae) (λO O O=>ae) (λO O O O=>ae) (λO O O O=>ae) (λO O O O O=>ae) (λO O O O=>ae) (λO O=>ae) (λO O=>ae) (λO O=>ae) (λO O O O=>ae) (λg args kws O=>kh g λx O=>aS (d8 x "enumerate") (aS (gh args) (fq kws (aY args f)))) (λO O O O=>ae) (λO O=>ae) (λO O O=>ae) (λO O O=>ae) (λO O O=>ae) (λO O=>ae) (λO O=>ae) (λO O=>ae) (λO O O=>ae) (λO O O O=>ae))
def uw(C:eQ)(E:bQ)(sc:cC)(σ:aA)(t it:aK):Option (List ak×aA):=bA (ob (E.ev sc σ it) λp=>ob (sP t p.1) λl=>ac (l,p.2))
 (Na it λa=>aS (dL am E1 (ba "enumerate" sc.names)) (aS (rL t) (ob (E.ev sc σ a) λp=>oT p.1 λl=>ac (wD l 0,p.2))))
def Ay(C:eQ)(E:bQ)(sc:cC)(σ:aA)(elt:aK)(gs:List CZ)(scope:iY):Option (ak×aA):=DU gs λt it ifs=>aS (w6 sc scope it) (ob (uw C E sc σ t it) λp=>ob (gK (mi sc scope) t (iy E (mi sc scope) ifs elt) p.1 (kN scope.names (frz scope.names p.2)) []) λr=>ac (.list r,frz scope.names p.2))
def AX(C:eQ)(E:bQ)(sc:cC)(σ:aA)(key elt:aK)(gs:List CZ)(scope:iY):Option (ak×aA):=DU gs λt it ifs=>fq ifs (aS (w6 sc scope it) (ob (uw C E sc σ t it) λp=>ob (gK (mi sc scope) t (FK E (mi sc scope) key elt) p.1 (kN scope.names (frz scope.names p.2)) ([],[])) λr=>ac (.dict r.1 r.2,frz scope.names p.2)))
def EX(C:eQ)(sc:cC)(σ:aA)(x:aL):Option (ak×aA):=aN (ob (ba x C.glob) λh=>aS (dL am E1 (ba x sc.names)) (ac (.hd h,σ))) (ob (ba x σ) λb=>ac (b.d,frz1 x σ)) (ji sc x)
def ro(C:eQ)(E:bQ)(sc:cC)(σ:aA)(o:ak)(m:aL)(args:List aK):Option (ak×aA):=ya o λp=>aS (d8 m "sub") (b6 args λlam s=>ob (C.lam lam) λq=>ob (E.ev sc σ s) λr=>fB r.1 λs n=>ob (Nc p q s n) λd=>ac (d,r.2))
def xg(e:aK):Bool:=(@fw (λO=>Bool) e (λO O O=>ag) (λO O O=>ag) (λO O O O=>ag) (λO O O=>ag) (λO O O O=>ag) (λO O O O=>ag) (λO O O=>ag) (λO O O=>ag) (λO O O O=>ag) (λO O O O=>ag) (λO O O O O=>ag) (λO O O O=>ag) (λO O=>ag) (λO O=>ag) (λO O=>ag) (λO O O O=>ag) (λf args O O=>Bool.or (!eW args) (Option.isNone (kh f λO O=>ac ()))) (λO O O O=>ag) (λO O=>ag) (λO O O=>ag) (λO O O=>ag) (λO O O=>ag) (λO O=>ag) (λO O=>ag) (λO O=>ag) (λO O O=>ag) (λO O O O=>ag))
noncomputable def EZ{α:Type}(e:aK)(f:T->Option α):Option α:=(@fw (λO=>Option α) e (λO O O=>ae) (λO O O=>ae) (λO O O O=>ae) (λO O O=>ae) (λO O O O=>ae) (λO O O O=>ae) (λO O O=>ae) (λO O O=>ae) (λO O O O=>ae) (λO O O O=>ae) (λO O O O O=>ae) (λO O O O=>ae) (λO O=>ae) (λO O=>ae) (λO O=>ae) (λO O O O=>ae) (λO O O O=>ae) (λO O O O=>ae) (λO O=>ae) (λk O O=>(@Da (λO=>Option α) k (ae) (λO=>ae) (λO=>ae) (λO=>ae) (λO O=>ae) (λs=>f s.cps.toList) (λO=>ae) (ae))) (λO O O=>ae) (λO O O=>ae) (λO O=>ae) (λO O=>ae) (λO O=>ae) (λO O O=>ae) (λO O O O=>ae))
def tI(o:ak)(m:aL)(args:List aK):Option ak:=aS (d8 m "replace") (fB o λs n=>b6 args λa b=>EZ a λy=>EZ b λz=>aY y λy=>aS (uk z) (aS (!le [y] z) (aS (bB n lim) (aS (bB z.length 14) (ac (.str (eR y z s) (eR y z s).length))))))
def tH(h:iw):Bool:=@iw.rec (λO=>Bool) (λf=>@oM.rec (λO=>Bool) ag am am am am am am am f) (λO=>am) (λO=>am) am h
def V7(C:eQ)(E:bQ)(sc:cC)(σ:aA)(f:aK)(args:List aK)(pos:eF):Option (ak×aA):=aS (gh args) (aS (bB args.length 9) ((@fw (λO=>Option (ak×aA)) f (λO O O=>ae) (λO O O=>ae) (λO O O O=>ae) (λO O O=>ae) (λO O O O=>ae) (λO O O O=>ae) (λO O O=>ae) (λO O O=>ae) (λO O O O=>ae) (λO O O O=>ae) (λO O O O O=>ae) (λO O O O=>ae) (λO O=>ae) (λO O=>ae) (λO O=>ae) (λO O O O=>ae) (λO O O O=>ae) (λO O O O=>ae) (λO O=>ae) (λO O O=>ae) (λe m apos=>aS (xg e) (aS (bt apos.endLine pos.line) (ob (E.ev sc σ e) λp=>bA (ro C E sc p.2 p.1 m args) (bA (ob (tI p.1 m args) λd=>ac (d,p.2)) (ob (dQ E sc args p.2) λq=>ob (fk C E p.1 m q.1) λd=>ac (d,q.2)))))) (λO O O=>ae) (λO O=>ae) (λx np=>ob (E.ev sc σ (.Name x np)) λp=>sZ p.1 λh=>aN (ob (dQ E sc args p.2) λq=>ob (on C E h q.1) λd=>ac (d,q.2)) (aY args λa=>ob (pn E sc p.2 a) λq=>ob (i6 .len [q.1]) λd=>ac (d,q.2)) (tH h)) (λO O=>ae) (λO O O=>ae) (λO O O O=>ae))))
def Nv(C:eQ)(E:bQ)(sc:cC)(σ:aA)(e:aK):Option (ak×aA):=(@fw (λO=>Option (ak×aA)) e (λO O O=>ae) (λO O O=>ae) (λa op b O=>ob (E.ev sc σ a) λp=>ob (E.ev sc p.2 b) λq=>ob (um op p.1 q.1) λd=>ac (d,q.2)) (λop a O=>match op with|.USub=>ob (E.ev sc σ a) λp=>jQ p.1 λi n=>ac (.int (-i) n,p.2)|_=>ae) (λO O O O=>ae) (λt a b O=>ob (E.ts sc σ t) λp=>aN (E.ev sc p.2 b) (E.ev sc p.2 a) p.1) (λks vs O=>Gs E sc σ ks vs) (λO O O=>ae) (λelt gs scope O=>Ay C E sc σ elt gs scope) (λO O O O=>ae) (λkey elt gs scope O=>AX C E sc σ key elt gs scope) (λO O O O=>ae) (λO O=>ae) (λO O=>ae) (λO O=>ae) (λa ops bs O=>aY ops λop=>aY bs λb=>ob (rC E sc σ a op b) λp=>ac (.bool p.1,p.2)) (λf args kws pos=>fq kws (V7 C E sc σ f args pos)) (λv c o O=>aS (kq c 115) (dL (ob (E.ev sc σ v) λp=>fB p.1 λO n=>aS (bB n lim) (ac p)) (λO=>ae) o)) (λes O=>aS (bB 2 es.length) (ob (dQ E sc es σ) λp=>ob (iW p.1) λq=>ob (iO (cy [] q.1) q.2) λd=>ac (d,p.2))) (λk O O=>ob (Jc k) λd=>ac (d,σ)) (λe a O=>kh e λO O=>ob (pn E sc σ e) λp=>ob (KD C p.1 a) λd=>ac (d,p.2)) (λe i O=>Mq E sc σ e i) (λO O=>ae) (λx O=>EX C sc σ x) (λes O=>aS (gh es) (aS (bB es.length 1000) (ob (dQ E sc es σ) λp=>ac (.list p.1,p.2)))) (λes O O=>aS (gh es) (aS (bB es.length 1000) (ob (dQ E sc es σ) λp=>ac (.tup p.1,p.2)))) (λO O O O=>ae))
def BO(E:bQ)(sc:cC)(σ:aA)(e:aK):Option (Bool×aA):=ob (E.ev sc σ e) λp=>ob (Ea p.1) λb=>ac (b,p.2)
def NH(E:bQ)(sc:cC)(σ:aA)(e:aK):Option (Bool×aA):=(@fw (λO=>Option (Bool×aA)) e (λop es O=>Cb E sc (E9 op) es σ) (λO O O=>ae) (λO O O O=>ae) (λop x O=>match op with|.Not=>ob (E.ts sc σ x) λp=>ac (!p.1,p.2)|_=>ae) (λO O O O=>ae) (λO O O O=>ae) (λO O O=>ae) (λO O O=>ae) (λO O O O=>ae) (λO O O O=>ae) (λO O O O O=>ae) (λO O O O=>ae) (λO O=>ae) (λO O=>ae) (λO O=>ae) (λa ops bs O=>aY ops λop=>aY bs λb=>rC E sc σ a op b) (λf as ks p=>BO E sc σ (.Call f as ks p)) (λO O O O=>ae) (λO O=>ae) (λO O O=>ae) (λx m p=>BO E sc σ (.Attribute x m p)) (λO O O=>ae) (λO O=>ae) (λx p=>BO E sc σ (.Name x p)) (λO O=>ae) (λO O O=>ae) (λO O O O=>ae))
def nR(E:bQ)(sc:cC)(σ:aA)(e:aK):Option (ak×aA):=(@fw (λO=>Option (ak×aA)) e (λO O O=>ae) (λO O O=>ae) (λa op b O=>match op with|.Add=>ob (E.ev sc σ a) λp=>gp p.1 λxs=>ob (E.ev sc p.2 b) λq=>gp q.1 λys=>aS (bB (xs++ys).length lim) (ac (.list (xs++ys),q.2))|_=>ae) (λO O O=>ae) (λO O O O=>ae) (λO O O O=>ae) (λks vs O=>Gs E sc σ ks vs) (λO O O=>ae) (λO O O O=>ae) (λO O O O=>ae) (λO O O O O=>ae) (λO O O O=>ae) (λO O=>ae) (λO O=>ae) (λO O=>ae) (λO O O O=>ae) (λO O O O=>ae) (λO O O O=>ae) (λO O=>ae) (λO O O=>ae) (λO O O=>ae) (λO O O=>ae) (λO O=>ae) (λO O=>ae) (λes O=>aS (gh es) (aS (bB es.length 1000) (ob (dQ E sc es σ) λp=>ac (.list p.1,p.2)))) (λO O O=>ae) (λO O O O=>ae))
def nh(C:eQ)(E:bQ)(sc:cC)(σ:aA)(e:aK):Option (ak×aA):=(@fw (λO=>Option (ak×aA)) e (λO O O=>ae) (λO O O=>ae) (λO O O O=>ae) (λO O O=>ae) (λO O O O=>ae) (λO O O O=>ae) (λO O O=>ae) (λO O O=>ae) (λelt gs scope O=>Ay C E sc σ elt gs scope) (λO O O O=>ae) (λkey elt gs scope O=>AX C E sc σ key elt gs scope) (λO O O O=>ae) (λO O=>ae) (λO O=>ae) (λO O=>ae) (λO O O O=>ae) (λO O O O=>ae) (λO O O O=>ae) (λO O=>ae) (λO O O=>ae) (λO O O=>ae) (λO O O=>ae) (λO O=>ae) (λO O=>ae) (λO O=>ae) (λO O O=>ae) (λO O O O=>ae))
noncomputable def ty(e:aK):Bool:=(@fw (λO=>Bool) e (λO O O=>ag) (λO O O=>ag) (λO O O O=>ag) (λO O O=>ag) (λO O O O=>ag) (λO O O O=>ag) (λO O O=>ag) (λO O O=>ag) (λO O O O=>am) (λO O O O=>am) (λO O O O O=>am) (λO O O O=>ag) (λO O=>ag) (λO O=>ag) (λO O=>ag) (λO O O O=>ag) (λO O O O=>ag) (λO O O O=>ag) (λO O=>ag) (λO O O=>ag) (λO O O=>ag) (λO O O=>ag) (λO O=>ag) (λO O=>ag) (λO O=>ag) (λO O O=>ag) (λO O O O=>ag))
noncomputable def Vg(e:aK):Bool:=(@fw (λO=>Bool) e (λO O O=>ag) (λO O O=>ag) (λO O O O=>ag) (λO O O=>ag) (λO O O O=>ag) (λO O O O=>ag) (λO O O=>ag) (λO O O=>ag) (λO O O O=>am) (λO O O O=>am) (λO O O O O=>am) (λO O O O=>ag) (λO O=>ag) (λO O=>ag) (λO O=>ag) (λO O O O=>ag) (λO O O O=>ag) (λO O O O=>ag) (λO O=>ag) (λO O O=>ag) (λO O O=>ag) (λO O O=>ag) (λO O=>ag) (λO O=>ag) (λO O=>ag) (λO O O=>am) (λO O O O=>ag))
def An(sc:cC)(d:ak)(ts:List aK):aA->Option aA:=@bW aK (λO=>aA->Option aA) (λσ=>ac σ) (λt O ih σ=>kh t λx O=>ob (iT sc σ x (.fz d)) ih) ts
def mB(o k v:ak):Option ak:=bA (tE o λks ds=>fB k λx O=>aS (bB ks.length lim) (ac (.dict (jL x v ks ds).1 (jL x v ks ds).2))) (gp o λds=>jQ k λi O=>ob (qE i ds.length) λn=>ac (.list (ds.set n v)))
noncomputable def uI(e:aK):Bool:=(@fw (λO=>Bool) e (λO O O=>ag) (λO O O=>ag) (λO O O O=>ag) (λO O O=>ag) (λO O O O=>ag) (λO O O O=>ag) (λO O O=>ag) (λO O O=>ag) (λO O O O=>ag) (λO O O O=>ag) (λO O O O O=>ag) (λO O O O=>ag) (λO O=>ag) (λO O=>ag) (λO O=>ag) (λO O O O=>ag) (λO O O O=>ag) (λO O O O=>ag) (λO O=>ag) (λO O O=>ag) (λO O O=>ag) (λO O O=>ag) (λO O=>ag) (λO O=>ag) (λO O=>ag) (λO O O=>ag) (λO O O O=>am))
def pS(σ:aA)(x:aL)(f:ak->Option (cQ×aA)):Option (cQ×aA):=ob (ba x σ) λb=>@bk.rec (λO=>Option (cQ×aA)) (λO=>ae) f b
noncomputable def go(σ:aA):Option (cQ×aA):=ac (.next,σ)
def Lr(C:eQ)(E:bQ)(sc:cC)(σ:aA)(t e:aK):Option (cQ×aA):=(@fw (λO=>Option (cQ×aA)) t (λO O O=>ae) (λO O O=>ae) (λO O O O=>ae) (λO O O=>ae) (λO O O O=>ae) (λO O O O=>ae) (λO O O=>ae) (λO O O=>ae) (λO O O O=>ae) (λO O O O=>ae) (λO O O O O=>ae) (λO O O O=>ae) (λO O=>ae) (λO O=>ae) (λO O=>ae) (λO O O O=>ae) (λO O O O=>ae) (λO O O O=>ae) (λO O=>ae) (λO O O=>ae) (λo a O=>kh o λx O=>aS (ji sc x) (aS (has a C.attrs) (aS (ty e) (ob (E.ev sc σ e) λp=>pS p.2 x λo=>Bo o λks ds=>aS (bB ks.length 500) (go (put x (.ow (.inst (jL a.cps.toList p.1 ks ds).1 (jL a.cps.toList p.1 ks ds).2)) p.2)))))) (λo i O=>kh o λx O=>aS (ji sc x) (aS (uI i) (ob (E.ev sc σ e) λp=>ob (ba x p.2) λO=>ob (E.ev sc p.2 i) λq=>pS q.2 x λo=>ob (mB o q.1 p.1) λo=>go (put x (.ow o) q.2)))) (λO O=>ae) (λx O=>bA (ob (nR E sc σ e) λp=>ob (iT sc p.2 x (.ow p.1)) go) (bA (ob (nh C E sc σ e) λp=>ob (iT sc p.2 x (.fz p.1)) go) (aS (ty e) (ob (E.ev sc σ e) λp=>ob (iT sc p.2 x (.fz p.1)) go)))) (λO O=>ae) (λts O O=>aS (Vg e) (ob (E.ev sc σ e) λp=>oT p.1 λds=>ob (zt sc ts p.2 ds) go)) (λO O O O=>ae))
def Bd(sc:cC)(x:aL):Bool:=dL am (λk=> !has x sc.fix&&GW k) (ba x sc.names)
def J2{α:Type}(sc:cC)(t e:aK)(f:aL->aL->Option α):Option α:=(@fw (λO=>Option α) t (λO O O=>ae) (λO O O=>ae) (λO O O O=>ae) (λO O O=>ae) (λO O O O=>ae) (λO O O O=>ae) (λO O O=>ae) (λO O O=>ae) (λO O O O=>ae) (λO O O O=>ae) (λO O O O O=>ae) (λO O O O=>ae) (λO O=>ae) (λO O=>ae) (λO O=>ae) (λO O O O=>ae) (λO O O O=>ae) (λO O O O=>ae) (λO O=>ae) (λO O O=>ae) (λO O O=>ae) (λO O O=>ae) (λO O=>ae) (λO O=>ae) (λO O=>ae) (λts O O=>b6 ts λa b=>kh a λx px=>kh b λy py=>(@fw (λO=>Option α) e (λO O O=>ae) (λO O O=>ae) (λO O O O=>ae) (λO O O=>ae) (λO O O O=>ae) (λO O O O=>ae) (λO O O=>ae) (λO O O=>ae) (λO O O O=>ae) (λO O O O=>ae) (λO O O O O=>ae) (λO O O O=>ae) (λO O=>ae) (λO O=>ae) (λO O=>ae) (λO O O O=>ae) (λO O O O=>ae) (λO O O O=>ae) (λO O=>ae) (λO O O=>ae) (λO O O=>ae) (λO O O=>ae) (λO O=>ae) (λO O=>ae) (λO O=>ae) (λvs O O=>b6 vs λu w=>aS (!lT u) (aS (!lT w) (aS (Bd sc x) (aS (Bd sc y) (aS (bt px.line py.line) (aS (!d8 x y) (aS (!(zG 8 u&&zG 8 w)) (aS (!(zH 8 u&&zH 8 w)) (f x y))))))))) (λO O O O=>ae))) (λO O O O=>ae))
def Ex(a b:ak):Option ak:=mG a b λi n j m=>ac (.int (i+j) (cK n m+1))
def L6(E:bQ)(sc:cC)(σ:aA)(t e:aK):Option (cQ×aA):=(@fw (λO=>Option (cQ×aA)) t (λO O O=>ae) (λO O O=>ae) (λO O O O=>ae) (λO O O=>ae) (λO O O O=>ae) (λO O O O=>ae) (λO O O=>ae) (λO O O=>ae) (λO O O O=>ae) (λO O O O=>ae) (λO O O O O=>ae) (λO O O O=>ae) (λO O=>ae) (λO O=>ae) (λO O=>ae) (λO O O O=>ae) (λO O O O=>ae) (λO O O O=>ae) (λO O=>ae) (λO O O=>ae) (λO O O=>ae) (λo i O=>kh o λx O=>aS (ji sc x) (aS (uI i) (ob (ba x σ) λO=>ob (E.ev sc σ i) λp=>pS p.2 x λo=>ob (item o p.1) λd0=>ob (E.ev sc p.2 e) λq=>ob (Ex d0 q.1) λd=>pS q.2 x λo=>ob (mB o p.1 d) λo=>go (put x (.ow o) q.2)))) (λO O=>ae) (λx O=>aS (ji sc x) (ob (ba x σ) λb=>ob (E.ev sc σ e) λp=>ob (Ex b.d p.1) λd=>ob (iT sc p.2 x (.fz d)) go)) (λO O=>ae) (λO O O=>ae) (λO O O O=>ae))
def Iu(E:bQ)(sc:cC)(σ:aA)(e:aK):Option (cQ×aA):=(@fw (λO=>Option (cQ×aA)) e (λO O O=>ae) (λO O O=>ae) (λO O O O=>ae) (λO O O=>ae) (λO O O O=>ae) (λO O O O=>ae) (λO O O=>ae) (λO O O=>ae) (λO O O O=>ae) (λO O O O=>ae) (λO O O O O=>ae) (λO O O O=>ae) (λO O=>ae) (λO O=>ae) (λO O=>ae) (λO O O O=>ae) (λf args kws pos=>fq kws (aY args λe=>(@fw (λO=>Option (cQ×aA)) f (λO O O=>ae) (λO O O=>ae) (λO O O O=>ae) (λO O O=>ae) (λO O O O=>ae) (λO O O O=>ae) (λO O O=>ae) (λO O O=>ae) (λO O O O=>ae) (λO O O O=>ae) (λO O O O O=>ae) (λO O O O=>ae) (λO O=>ae) (λO O=>ae) (λO O=>ae) (λO O O O=>ae) (λO O O O=>ae) (λO O O O=>ae) (λO O=>ae) (λO O O=>ae) (λo m apos=>kh o λx O=>aS (d8 m "append") (aS (ji sc x) (aS (bt apos.endLine pos.line) (aS (!lT e) (pS σ x λo=>gp o λO=>ob (E.ev sc σ e) λp=>pS p.2 x λo=>gp o λds=>aS (bB ds.length lim) (go (put x (.ow (.list (ds++[p.1]))) p.2))))))) (λO O O=>ae) (λO O=>ae) (λO O=>ae) (λO O=>ae) (λO O O=>ae) (λO O O O=>ae)))) (λO O O O=>ae) (λO O=>ae) (λO O O=>ae) (λO O O=>ae) (λO O O=>ae) (λO O=>ae) (λO O=>ae) (λO O=>ae) (λO O O=>ae) (λO O O O=>ae))
def H1(C:eQ)(E:bQ)(sc:cC)(σ:aA)(st:bY):Option (cQ×aA):=(@PySem.Stmt.casesOn (λO=>Option (cQ×aA)) st (λO O O O O O O O O O=>ae) (λO O O O O O O O O O=>ae) (λO O O O O O O O O O O=>ae) (λo O=>ob o λe=>ob (E.ev sc σ e) λp=>ac (.ret p.1,p.2)) (λO O=>ae) (λts e O=>bA (aY ts λt=>bA (Lr C E sc σ t e) (J2 sc t e λx y=>ob (E.ev sc σ e) λp=>oT p.1 λds=>b6 ds λd1 d2=>ob (iT sc p.2 y (.fz d2)) λσ1=>ob (iT sc σ1 x (.fz d1)) go)) (aS (bB 2 ts.length) (ob (E.ev sc σ e) λp=>ob (An sc p.1 ts p.2) go))) (λO O O O O O O=>ae) (λt op e O=>match op with|.Add=>L6 E sc σ t e|_=>ae) (λO O O O O=>ae) (λt it body els O=>fq els (aS (!nU it) (ob (E.ev sc σ it) λp=>ob (sP t p.1) λl=>lO E sc t body l p.2))) (λO O O O O=>ae) (λt body els O=>fq els (sQ E sc t body 4000 σ)) (λt a b O=>ob (E.ts sc σ t) λp=>aN (b9 E sc b p.2) (b9 E sc a p.2) p.1) (λO O O=>ae) (λO O O=>ae) (λO O O=>ae) (λO O O=>ae) (λbody hs els fin O=>fq els (fq fin (aS (!eW hs) (b9 E sc body σ)))) (λO O O O O=>ae) (λt O O=>ob (E.ts sc σ t) λp=>aS p.1 (go p.2)) (λO O=>ae) (λO O O O=>ae) (λO O=>ae) (λO O=>ae) (λe O=>Iu E sc σ e) (λO=>ae) (λO=>ac (.brk,σ)) (λO=>ae))
def step(C:eQ)(E:bQ):bQ where
 ev:=Nv C E
 ts:=NH E
 ex:=H1 C E
 call:=Y7 C E
def run(C:eQ)(n:Nat):bQ:=@gW (λO=>bQ) ⟨λO O O=>ae,λO O O=>ae,λO O O=>ae,λO O=>ae⟩ (λO ih=>step C ih) n
abbrev bn:=bw->Option aJ
noncomputable def toS(s:T):aL:=⟨s.toArray⟩
def b8(s:T):Prop:=∀c∈s,c<128
structure yt where
 c:bw
 P:bw
 q:aL
 e:eF->aL
structure cg where
 prog:nH
 w:b7
 F0:bn
 tabs:List yt
 os:dl
 val:iw->aF
 wh:bw
 cx:eQ
noncomputable def eT(F:bn)(a:bw)(o:aJ):bn:=λb=>if b=a then ac o else F b
def sD(F:bn)(h:cY)(p:yt):Prop:=F p.P=ae/\(∃oc,F p.c=ac oc)/\∃ps,h.IsCode p.c p.P ps/\h.TableAt p.c p.P ps/\
  ∀pos c',rU pos ps.toList=ac c'->∃a o vs t,c'=.ref a/\F a=ac o/\o.data=.fields vs/\vs[1]? =ac (.str (p.e pos) t)
abbrev cJ(F F':bn):Prop:=∀a o,F a=ac o->F' a=ac o
theorem cJ.rfl:cJ F F:=λO O e=>e
theorem cJ.trans(x:cJ F F')(y:cJ F' F''):cJ F F'':=λa o e=>y a o (x a o e)
def wa(b:oM):aF:=@oM.rec (λO=>aF) (.builtin "len") (.builtin "sum") (.builtin "max") (.builtin "isinstance") (.type "range") (.type "list") (.type "tuple") (.type "str") b
noncomputable def jr(G:cg)(dx:bw):aJ:={cls:=.ref G.wh,dict:=ac dx,data:=.plain}
noncomputable def g8(l:List Nat):List aF:=l.map λn:Nat=>bO (n:Int)
noncomputable abbrev dg(vs:List aF)(k:Nat):aJ:={cls:=.type "list",data:=.seq vs.toArray k}
noncomputable abbrev gA(vs:List aF)(k:Nat):aJ:={cls:=.type "tuple",data:=.seq vs.toArray k}
def jS(G:cg)(o:aJ)(ks:List T)(vs:List aF)(a:bw):Prop:=o.IsDictOf (strKind G.prog G.w) ((ks.map toS).zip vs)/\(a==vr)=am/\ks.length=vs.length/\∀k∈ks,b8 k
inductive kR:List qj->List T->List aF->Prop
 |nil:kR [] [] []
 |cons {h:Int} {t:fh} {k:T} {v:aF} {es:List qj} {ks:List T} {vs:List aF} (r:kR es ks vs):kR (⟨h,.str (toS k) t,v⟩::es) (k::ks) (v::vs)
def Ca(o:aJ)(_dx:bw)(ks:List T)(vs:List aF):Prop:=∃es n,o=j6 es n/\kR es ks vs
abbrev rN(s:T)(t:fh)(pa:bw)(li:Int)(tp:bw):aJ:={cls:=.type "re.Match",data:=.fields #[.str (toS s) t,.ref pa,bO 0,bO s.length,bO li,.ref tp]}
noncomputable abbrev Bv(x y:Int)(t u w:fh):aJ:={cls:=.type "range",data:=.fields #[.int x t,.int y u,.int 1 w]}
def DictAt(G:cg)(F:bn)(a:bw)(ks:List T)(ih:List aF->Prop):Prop:=∃o vs,F a=ac o/\jS G o ks vs a/\ih vs
def vm(G:cg)(F:bn)(d:ak):aF->Prop:=@ak.rec (λO=>aF->Prop) (λO=>List aF->Prop)
 (λv=>v=.none) (λb v=>v=.bool b) (λi n v=>∃t,v=.int i t/\i.natAbs<2^n) (λs n v=>∃t,v=.str (toS s) t/\s.length<=n/\b8 s)
 (λds ih v=>∃a vs k,v=.ref a/\F a=ac (gA vs k)/\ih vs) (λds ih v=>∃a vs k,v=.ref a/\F a=ac (dg vs k)/\ih vs) (λks ds ih v=>∃a,v=.ref a/\DictAt G F a ks ih)
 (λks ds ih v=>∃a dx o vs,v=.ref a/\F a=ac (jr G dx)/\F dx=ac o/\dx≠a/\Ca o dx ks vs/\ih vs) (λh v=>v=G.val h)
 (λs n sp v=>∃a tp pa t li k,v=.ref a/\F a=ac (rN s t pa li tp)/\F tp=ac (gA (g8 sp) k)/\s.length<=n/\b8 s/\∀p∈sp,p<=s.length)
 (λx y v=>∃a t u w,v=.ref a/\F a=ac (Bv x y t u w)/\x.natAbs<2^20/\y.natAbs<2^20)
 (λks ds ih v=>∃a d,v=.ref a/\F a=ac {cls:=.type "dict_items",data:=.fields #[.ref d]}/\DictAt G F d ks ih) (λks ds ih v=>∃a d,v=.ref a/\F a=ac {cls:=.type "dict_values",data:=.fields #[.ref d]}/\DictAt G F d ks ih)
 (λvs=>vs=[]) (λd r ihd ihr vs=>∃v ws,vs=v::ws/\ihd v/\ihr ws) d
def uh(G:cg)(F:bn)(ds:List ak):List aF->Prop:=@ak.rec_1 (λO=>aF->Prop) (λO=>List aF->Prop)
 (λv=>v=.none) (λb v=>v=.bool b) (λi n v=>∃t,v=.int i t/\i.natAbs<2^n) (λs n v=>∃t,v=.str (toS s) t/\s.length<=n/\b8 s)
 (λds ih v=>∃a vs k,v=.ref a/\F a=ac (gA vs k)/\ih vs) (λds ih v=>∃a vs k,v=.ref a/\F a=ac (dg vs k)/\ih vs) (λks ds ih v=>∃a,v=.ref a/\DictAt G F a ks ih)
 (λks ds ih v=>∃a dx o vs,v=.ref a/\F a=ac (jr G dx)/\F dx=ac o/\dx≠a/\Ca o dx ks vs/\ih vs) (λh v=>v=G.val h)
 (λs n sp v=>∃a tp pa t li k,v=.ref a/\F a=ac (rN s t pa li tp)/\F tp=ac (gA (g8 sp) k)/\s.length<=n/\b8 s/\∀p∈sp,p<=s.length)
 (λx y v=>∃a t u w,v=.ref a/\F a=ac (Bv x y t u w)/\x.natAbs<2^20/\y.natAbs<2^20)
 (λks ds ih v=>∃a d,v=.ref a/\F a=ac {cls:=.type "dict_items",data:=.fields #[.ref d]}/\DictAt G F d ks ih) (λks ds ih v=>∃a d,v=.ref a/\F a=ac {cls:=.type "dict_values",data:=.fields #[.ref d]}/\DictAt G F d ks ih)
 (λvs=>vs=[]) (λd r ihd ihr vs=>∃v ws,vs=v::ws/\ihd v/\ihr ws) ds
abbrev aH(G:cg)(F:bn)(v:aF)(d:ak):Prop:=vm G F d v
abbrev br(G:cg)(F:bn)(vs:List aF)(ds:List ak):Prop:=uh G F ds vs
theorem br.nil:br G F [] []:=rfl
theorem br.cons(h:aH G F v d)(r:br G F vs ds):br G F (v::vs) (d::ds):=show∃v' ws,v::vs=v'::ws/\aH G F v' d/\br G F ws ds from⟨v,vs,rfl,h,r⟩
theorem aH.list(h:F a=ac (dg vs k))(r:br G F vs ds):aH G F (.ref a) (.list ds):=show∃b ws n,j7 a=.ref b/\F b=ac (dg ws n)/\br G F ws ds from⟨a,vs,k,rfl,h,r⟩
theorem aH.tup(h:F a=ac (gA vs k))(r:br G F vs ds):aH G F (.ref a) (.tup ds):=show∃b ws n,j7 a=.ref b/\F b=ac (gA ws n)/\br G F ws ds from⟨a,vs,k,rfl,h,r⟩
theorem aH.dict(h:F a=ac o)(p:jS G o ks vs a)(r:br G F vs ds):aH G F (.ref a) (.dict ks ds):=show∃b,j7 a=.ref b/\DictAt G F b ks λws=>br G F ws ds from⟨a,rfl,o,vs,h,p,r⟩
theorem aH.int{i:Int}{n:Nat}(h:i.natAbs<2^n):aH G F (.int i t) (.int i n):=⟨t,rfl,h⟩
theorem aH.str{s:T}{n:Nat}(h:s.length<=n)(ha:b8 s):aH G F (.str (toS s) t) (.str s n):=⟨t,rfl,h,ha⟩
theorem DictAt.mono(hs:cJ F F'){p q:List aF->Prop}(h:∀vs,p vs->q vs):DictAt G F a ks p->DictAt G F' a ks q:=λx=>x.elim λo x=>x.elim λvs x=>⟨o,vs,hs _ _ x.1,x.2.1,h vs x.2.2⟩
theorem aH.mono(hs:cJ F F'):aH G F v d->aH G F' v d:=by
 refine@ak.rec (λd=>∀v,vm G F d v->vm G F' d v) (λds=>∀vs,uh G F ds vs->uh G F' ds vs) (λO h=>h) (λO O h=>h) (λO O O h=>h) (λO O O h=>h)
  (λO ih O h=>h.elim λa h=>h.elim λvs h=>h.elim λk h=>⟨a,vs,k,h.1,hs _ _ h.2.1,ih vs h.2.2⟩) (λO ih O h=>h.elim λa h=>h.elim λvs h=>h.elim λk h=>⟨a,vs,k,h.1,hs _ _ h.2.1,ih vs h.2.2⟩)
  (λO O ih O h=>h.elim λa h=>⟨a,h.1,h.2.mono hs ih⟩)
  (λO O ih O=>?_) (λO O h=>h) (λO O O O=>?_)
  (λO O O=>?_) (λO O ih O h=>h.elim λa h=>h.elim λd h=>⟨a,d,h.1,hs _ _ h.2.1,h.2.2.mono hs ih⟩) (λO O ih O h=>h.elim λa h=>h.elim λd h=>⟨a,d,h.1,hs _ _ h.2.1,h.2.2.mono hs ih⟩)
  (λO h=>h) (λO O ihd ihr O h=>h.elim λv h=>h.elim λws h=>⟨v,ws,h.1,ihd v h.2.1,ihr ws h.2.2⟩) d v
 ·rintro ⟨a,dx,o,vs,h⟩;exact⟨a,dx,o,vs,h.1,hs _ _ h.2.1,hs _ _ h.2.2.1,h.2.2.2.1,h.2.2.2.2.1,ih vs h.2.2.2.2.2⟩
 ·rintro ⟨a,tp,pa,t,li,k,h⟩;exact⟨a,tp,pa,t,li,k,h.1,hs _ _ h.2.1,hs _ _ h.2.2.1,h.2.2.2⟩
 ·rintro ⟨a,t,u,w,h⟩;exact⟨a,t,u,w,h.1,hs _ _ h.2.1,h.2.2⟩
theorem br.mono(hs:cJ F F'):br G F vs ds->br G F' vs ds:=
 @bW ak (λds=>∀vs,uh G F ds vs->uh G F' ds vs) (λO h=>h) (λd r ih O h=>h.elim λv h=>h.elim λws h=>⟨v,ws,h.1,aH.mono hs h.2.1,ih ws h.2.2⟩) ds vs
theorem br.cons_er{P:Prop}(h:br G F vs (d::r))(k:∀v ws,vs=v::ws->aH G F v d->br G F ws r->P):P:=(show∃v ws,vs=v::ws/\aH G F v d/\br G F ws r from h).elim λv h=>h.elim λws h=>k v ws h.1 h.2.1 h.2.2
theorem br.nil_er(h:br G F vs []):vs=[]:=h
theorem br.length(h:br G F vs ds):vs.length=ds.length:=
 @bW ak (λds=>∀vs,br G F vs ds->vs.length=ds.length) (λvs h=>congrArg _ h.nil_er) (λd r ih vs h=>h.cons_er λv ws e O r=>e▸congrArg (· +1) (ih ws r)) ds vs h
theorem br.append(h:br G F vs ds)(k:br G F ws es):br G F (vs++ws) (ds++es):=
 @bW ak (λds=>∀vs,br G F vs ds->br G F (vs++ws) (ds++es)) (λvs h=>h.nil_er▸k) (λd r ih vs h=>h.cons_er λv ws' e a r=>e▸.cons a (ih ws' r)) ds vs h
theorem br.get(h:br G F vs ds){k:Nat}(aB:ds[k]? =ac d):∃v,vs[k]? =ac v/\aH G F v d:=
 @bW ak (λds=>∀vs k,br G F vs ds->ds[k]? =ac d->∃v,vs[k]? =ac v/\aH G F v d) (λvs k O aB=>aW aB)
  (λe r ih vs k h=>h.cons_er λv ws eq a r=>eq▸gW (λaB=>⟨v,rfl,(eJ aB)▸a⟩) (λk O aB=>ih ws k r aB) k) ds vs k h aB
theorem br.drop(h:br G F vs ds)(k:Nat):br G F (vs.drop k) (ds.drop k):=
 @gW (λk=>∀vs ds,br G F vs ds->br G F (vs.drop k) (ds.drop k)) (λvs ds h=>h) (λk ih vs ds h=>by induction ds using dD with|nil=>exact(br.nil_er h)▸.nil|cons d r=>exact h.cons_er λv ws e a q=>e▸ih _ _ q) k vs ds h
theorem br.take(h:br G F vs ds)(k:Nat):br G F (vs.take k) (ds.take k):=
 @gW (λk=>∀vs ds,br G F vs ds->br G F (vs.take k) (ds.take k)) (λvs ds h=>.nil) (λk ih vs ds h=>by induction ds using dD with|nil=>exact(br.nil_er h)▸.nil|cons d r=>exact h.cons_er λv ws e a q=>e▸.cons a (ih _ _ q)) k vs ds h
theorem br.rep(h:br G F vs ds)(k:Nat):br G F (rV k vs).flatten (dw k ds):=
 @gW (λk=>br G F (rV k vs).flatten (dw k ds)) .nil (λk ih=>by refine af ZP (af ZQ ?_);exact h.append ih) k
theorem br.set(h:br G F vs ds)(hr:aH G F v d)(k:Nat):br G F (vs.set k v) (ds.set k d):=
 @bW ak (λds=>∀vs k,br G F vs ds->br G F (vs.set k v) (ds.set k d)) (λvs k h=>h.nil_er▸.nil)
  (λe r ih vs k h=>h.cons_er λv ws eq a r=>eq▸gW (.cons hr r) (λk O=>.cons a (ih ws k r)) k) ds vs k h
theorem br.third(h:br G F vs ds)(j:Nat):br G F (third vs j) (third ds j):=
 @bW ak (λds=>∀vs j,br G F vs ds->br G F (Mine.third vs j) (Mine.third ds j)) (λvs j h=>h.nil_er▸.nil)
  (λe r ih vs j h=>h.cons_er λv ws eq a r=>eq▸gW (.cons a (ih ws 2 r)) (λk O=>ih ws k r) j) ds vs j h
theorem aH.int_el{P:Prop}(h:aH G F v (.int i n))(k:∀t,v=.int i t->i.natAbs<2^n->P):P:=h.elim λt h=>k t h.1 h.2
theorem aH.str_el{P:Prop}(h:aH G F v (.str i n))(k:∀t,v=.str (toS i) t->i.length<=n->b8 i->P):P:=h.elim λt h=>k t h.1 h.2.1 h.2.2
theorem aH.list_el{P:Prop}(h:aH G F v (.list ds))(k:∀a vs n,v=.ref a->F a=ac (dg vs n)->br G F vs ds->P):P:=(show∃a vs n,v=.ref a/\F a=ac (dg vs n)/\br G F vs ds from h).elim λa h=>h.elim λvs h=>h.elim λn h=>k a vs n h.1 h.2.1 h.2.2
theorem aH.tup_el{P:Prop}(h:aH G F v (.tup ds))(k:∀a vs n,v=.ref a->F a=ac (gA vs n)->br G F vs ds->P):P:=(show∃a vs n,v=.ref a/\F a=ac (gA vs n)/\br G F vs ds from h).elim λa h=>h.elim λvs h=>h.elim λn h=>k a vs n h.1 h.2.1 h.2.2
theorem DictAt.el{P:Prop}(h:DictAt G F a ks p)(k:∀o vs,F a=ac o->jS G o ks vs a->p vs->P):P:=h.elim λo h=>h.elim λvs h=>k o vs h.1 h.2.1 h.2.2
theorem aH.dict_el{P:Prop}(h:aH G F v (.dict ks ds))(k:∀a o vs,v=.ref a->F a=ac o->jS G o ks vs a->br G F vs ds->P):P:=(show∃a,v=.ref a/\DictAt G F a ks λvs=>br G F vs ds from h).elim λa h=>h.2.el λo vs=>k a o vs h.1
structure bD(G:cg)(F:bn)(s:aC):Prop where
 base:cJ G.F0 F
 sat:∀a o,F a=ac o->s.heap.get? a=ac o
 tabs:∀p∈G.tabs,sD F s.heap p
 os:s.os=G.os
 gens:tJ s.gens
 tk:0<s.toks
structure iD(s s':aC):Prop where
 keep:∀a o,s.heap.get? a=ac o->s'.heap.get? a=ac o
 os:s'.os=s.os
 gens:s'.gens=s.gens
 toks:s.toks<=s'.toks
structure Pass(G:cg)(F:bn)(s:aC)(F':bn)(s':aC):Prop where
 le:cJ F F'
 ok:bD G F' s'
 keep:∀a o,s.heap.get? a=ac o->(∀p∈G.tabs,p.P≠a)->s'.heap.get? a=ac o
 new:∀a o,F' a=ac o->F a=ac o\/s.heap.get? a=ae
inductive be{α:Type}(J:bn->aC->Prop)(F:bn)(P:bn->α->Prop)(v:α)(s:aC):Prop
 |mk (F':bn) (le:cJ F F') (j:J F' s) (p:P F' v)
def aU:aF->aC->Prop:=λO O=>False
theorem be.seq{α:Type}{t:gw α}{P:bn->α->Prop}{Q:α->aC->Prop}(H:aG M A t (be J F P) aU s)(k:∀v F' s',cJ F F'->J F' s'->P F' v->Q v s'):aG M A t Q E s:=
 cn H (λv s' o=>@be.rec α J F P v s' (λO=>Q v s') (k v · s') o) λO O z=>z.elim
theorem be.weak{α:Type}{P:bn->α->Prop}{v:α}(l:cJ F0 F)(o:be J F P v s):be J F0 P v s:=@be.rec α J F P v s (λO=>be J F0 P v s) (λF' le j p=>⟨F',l.trans le,j,p⟩) o
theorem nu{α:Type}{t:gw α}{Q:α->aC->Prop}(h:aG M A t Q aU s):aG M A t Q E s:=cn h (λO O z=>z) λO O z=>z.elim
theorem Pass.refl(h:bD G F s):Pass G F s F s:=⟨.rfl,h,λO O e O=>e,λO O e=>.inl e⟩
theorem Pass.trans(x:Pass G F s F' s')(y:Pass G F' s' F'' s''):Pass G F s F'' s'':=
 ⟨x.le.trans y.le,y.ok,λa o e n=>y.keep a o (x.keep a o e n) n,λa o e=>(y.new a o e).elim (x.new a o) λe'=>.inr (by
  cases hq:s.heap.get? a with
  |none=>rfl
  |some oo=>rw [x.keep a oo hq λp hp hpa=>by have:=(y.ok.tabs p hp).1;rw [hpa,e]at this;cases this]at e';exact mD e')⟩
theorem sD.mono{h':cY}(x:sD F h p)(le:cJ F F')(hP:F' p.P=ae)(aB:∀a o,a=p.c\/a=p.P->h.get? a=ac o->h'.get? a=ac o):sD F' h' p:=
 ⟨hP,x.2.1.imp λO=>le _ _,x.2.2.imp λps q=>by
  refine bu q λz0 z1 c=>d4 z0 λo vs file tf q2'=>d4 q2' λflags tg inF text q0'=>bV q0' λtt op q1'=>gY q1' λa r1 r2 r3 r4 q2'=>dH q2' λr5 r6 b r=>ay z1 λz0 t=>bV z0 λo' vs' q0'=>ay q0' λe r'=>?_;clear q z0 q2' q0' q1' z1;exact⟨⟨o,vs,file,tf,flags,tg,inF,text,tt,op,aB _ _ (.inl rfl) a,r1,r2,r3,r4,r5,r6,aB _ _ (.inr rfl) b,r⟩,⟨⟨o',vs',aB _ _ (.inl rfl) e,r'⟩,aB _ _ (.inr rfl) t⟩,
   λpos c' e=>by refine d4 (c pos c' e) λa' o vs t q1'=>bu q1' λe1 e2 e3=>?_;clear q1';exact⟨a',o,vs,t,e1,le _ _ e2,e3⟩⟩⟩
structure iK(ad:List bw)(s s':aC):Prop where
 keep:∀a o,a∉ad->s.heap.get? a=ac o->s'.heap.get? a=ac o
 os:s'.os=s.os
 gens:s'.gens=s.gens
 toks:s.toks<=s'.toks
theorem iD.moves(k:iD s s')(ad:List bw):iK ad s s':=⟨λa o O=>k.keep a o,k.os,k.gens,k.toks⟩
theorem iD.tk(s:aC){k:Nat}(h:s.toks<=k):iD s {s with toks:=k}:=⟨λO O e=>e,rfl,rfl,h⟩
theorem iK.trans{ad:List bw}{s s' s'':aC}(x:iK ad s s')(y:iK ad s' s''):iK ad s s'':=⟨λa o h e=>y.keep a o h (x.keep a o h e),y.os.trans x.os,y.gens.trans x.gens,bM x.toks y.toks⟩
theorem Ej{h:cY}(x:h.IsCode c P ps):∃o,h.get? P=ac o:=by
 refine d4 x λo vs file tf q0'=>d4 q0' λflags tg inF text q1'=>bV q1' λtt op q2'=>gY q2' λa r1 r2 r3 r4 q0'=>dH q0' λr5 r6 b r=>?_;clear x q0' q1' q2';exact⟨op,b⟩
theorem bD.moves{G:cg}{F:bn}{s s':aC}{ad:List bw}(h:bD G F s)(hm:iK ad s s')(hF:∀a∈ad,F a=ae)(hP:∀p∈G.tabs,p.P∉ad):bD G F s':=
 ⟨h.base,λa o e=>hm.keep a o (λq=>nomatch (hF a q).symm.trans e) (h.sat a o e),λp hp=>(h.tabs p hp).mono .rfl (h.tabs p hp).1 λa o q e=>hm.keep a o (λhq=>by
  rcases q with rfl|rfl
  ·refine bu (h.tabs p hp) λO z1 O=>aw z1 λoc hoc=>?_;clear z1;exact nomatch (hF _ hq).symm.trans hoc
  ·exact hP p hp hq) e,hm.os.trans h.os,hm.gens▸h.gens,kA h.tk hm.toks⟩
theorem bD.keeps{G:cg}{F:bn}{s s':aC}(h:bD G F s)(aB:iD s s'):bD G F s':=h.moves (aB.moves []) (λO h=>nomatch h) λO O h=>nomatch h
theorem bD.pass(h:bD G F s)(aB:iD s s'):Pass G F s F s':=⟨.rfl,h.keeps aB,λa o e O=>aB.keep a o e,λO O e=>.inl e⟩
theorem fj(hn:F a=ae):cJ F (eT F a o):=λb o' e=>by
 unfold eT;split
 ·rename_i q;subst q;rw [e]at hn;exact mD hn
 ·exact e
theorem jj:eT F a o a=ac o:=if_pos rfl
theorem qV(e:eT F a o b=ac o'):F b=ac o'\/b=a:=by
 unfold eT at e;split at e
 ·exact .inr ‹_›
 ·exact .inl e
theorem bD.add(h:bD G F s)(hn:F a=ae)(hs:s.heap.get? a=ac o)(ht:∀p∈G.tabs,p.P≠a):bD G (eT F a o) s:=
 ⟨h.base.trans (fj hn),λb o' e=>by
  unfold eT at e;split at e
  ·rename_i q;subst q;refine bG e ?_;exact hs
  ·exact h.sat b o' e,λp hp=>(h.tabs p hp).mono (fj hn) (by unfold eT;refine af (if_neg (ht p hp)) ?_;exact(h.tabs p hp).1) λO O O e=>e,h.os,h.gens,h.tk⟩
theorem bD.fresh(h:bD G F s)(hn:s.heap.get? a=ae):F a=ae:=by
 cases hf:F a with
 |none=>rfl
 |some o=>rw [h.sat a o hf]at hn;exact mD hn
theorem bD.notab(h:bD G F s)(hn:s.heap.get? a=ae):∀p∈G.tabs,p.P≠a:=λp hp e=>by
 refine bu (h.tabs p hp) λO O q1'=>aw q1' λps q2'=>ay q2' λc O=>?_;clear q1' q2';refine aw (Ej c) λo ho=>?_;rw [e,hn]at ho;exact aW ho
theorem bD.pass1(h:bD G F s)(aB:iD s s')(hn:s.heap.get? a=ae)(ha:s'.heap.get? a=ac o):Pass G F s (eT F a o) s':=
 ⟨fj (h.fresh hn),(h.keeps aB).add (h.fresh hn) ha (h.notab hn),λa o e O=>aB.keep a o e,λb o' e=>(qV e).imp id λq=>by refine af q ?_;exact hn⟩
theorem fW(h:cY):h.get? h.objs.size=ae:=by
 cases hq:h.get? h.objs.size with
 |none=>rfl
 |some o=>exact absurd (jy hq) (vt _)
structure bX(n:Nat)(A:cH):Prop where
 hh:A.handled=ae
 depth:A.depth+3*n<900
 units:A.units+40*n<9000
theorem bX.mono{k:Nat}(h:bX n A)(aB:k<=n):bX k A:=⟨h.hh,mH (vu (zI 3 aB) _) h.depth,mH (vu (zI 40 aB) _) h.units⟩
theorem bX.d{d n:Nat}(R:bX (n+1) A)(h:d<=A.depth+3):d+3*n<900:=mH (bM (C3 h _) (tK (by rw [nI,kB 3];rfl))) R.depth
theorem bX.u{d n:Nat}(R:bX (n+1) A)(h:d<=A.units+40):d+40*n<9000:=mH (bM (C3 h _) (tK (by rw [nI,kB 40];rfl))) R.units
theorem bX.down{n:Nat}(h:bX (n+1) A):bX n A:=h.mono (mK n)
theorem W3:cLine=9900:=by decide
theorem Du:C4=1000:=by decide
theorem gM:lV=16777216:=by decide
abbrev aZ(G:cg)(d:ak):bn->aF->Prop:=λF v=>aH G F v d
abbrev aP(G:cg)(A:cH){α:Type}(t:gw α)(F:bn)(s:aC)(P:bn->α->Prop):Prop:=aG (aQ G.prog G.w) A t (be (Pass G F s) F P) aU s
theorem aP.of{α:Type}{t:gw α}{P:bn->α->Prop}(hf:bD G F s)(h:aG (aQ G.prog G.w) A t (λv s'=>(∀a o,s.heap.get? a=ac o->s'.heap.get? a=ac o)/\s'.os=s.os/\s'.gens=s.gens/\P F v) aU s):aP G A t F s P:=
 cn (oC (bZ _) h) (λv s' x=>⟨F,.rfl,hf.pass ⟨x.2.1,x.2.2.1,x.2.2.2.1,x.1⟩,x.2.2.2.2⟩) λO O x=>x.2
theorem aP.of1{α:Type}{t:gw α}{P:bn->α->Prop}(hf:bD G F s)(h:aG (aQ G.prog G.w) A t (λv s'=>(∀a o,s.heap.get? a=ac o->s'.heap.get? a=ac o)/\s'.os=s.os/\s'.gens=s.gens/\∃a o,s.heap.get? a=ae/\s'.heap.get? a=ac o/\P (eT F a o) v) aU s):aP G A t F s P:=
 cn (oC (bZ _) h) (λv s' x=>by
  refine mq x λht aB ho hg q2'=>bV q2' λa o q0'=>bu q0' λhn ha p=>?_;clear x q2' q0';exact⟨_,fj (hf.fresh hn),hf.pass1 ⟨aB,ho,hg,ht⟩ hn ha,p⟩) λO O x=>x.2
theorem hJ{α:Type}{s:aC}{v:α}{P:bn->α->Prop}(p:P F v){k:Nat}:(∀a o,s.heap.get? a=ac o->({s with toks:=k}:aC).heap.get? a=ac o)/\({s with toks:=k}:aC).os=s.os/\({s with toks:=k}:aC).gens=s.gens/\P F v:=⟨λO O e=>e,rfl,rfl,p⟩
theorem xp{α:Type}{s:aC}{v:α}{P:bn->α->Prop}{o:aJ}(hf:o.isFreed=am){k:Nat}(p:P (eT F s.heap.objs.size o) v):
  (∀a o',s.heap.get? a=ac o'->({s with heap:=s.heap.push o,toks:=k}:aC).heap.get? a=ac o')/\({s with heap:=s.heap.push o,toks:=k}:aC).os=s.os/\({s with heap:=s.heap.push o,toks:=k}:aC).gens=s.gens/\
   ∃a o',s.heap.get? a=ae/\({s with heap:=s.heap.push o,toks:=k}:aC).heap.get? a=ac o'/\P (eT F a o') v:=
 ⟨λO O e=>eN _ e,rfl,rfl,_,_,fW _,fZ _ hf,p⟩
theorem B7(hf:bD G F s)(r:br G F vs ds){k:Nat}:
  (∀a o',s.heap.get? a=ac o'->({s with heap:=s.heap.push (dg vs 0),toks:=k}:aC).heap.get? a=ac o')/\({s with heap:=s.heap.push (dg vs 0),toks:=k}:aC).os=s.os/\({s with heap:=s.heap.push (dg vs 0),toks:=k}:aC).gens=s.gens/\
   ∃a o',s.heap.get? a=ae/\({s with heap:=s.heap.push (dg vs 0),toks:=k}:aC).heap.get? a=ac o'/\aZ G (.list ds) (eT F a o') (.ref s.heap.objs.size):=
 xp rfl (.list jj (r.mono (fj (hf.fresh (fW _)))))
theorem H9(hf:bD G F s)(r:br G F vs ds){k:Nat}:
  (∀a o',s.heap.get? a=ac o'->({s with heap:=s.heap.push (gA vs 0),toks:=k}:aC).heap.get? a=ac o')/\({s with heap:=s.heap.push (gA vs 0),toks:=k}:aC).os=s.os/\({s with heap:=s.heap.push (gA vs 0),toks:=k}:aC).gens=s.gens/\
   ∃a o',s.heap.get? a=ae/\({s with heap:=s.heap.push (gA vs 0),toks:=k}:aC).heap.get? a=ac o'/\aZ G (.tup ds) (eT F a o') (.ref s.heap.objs.size):=
 xp rfl (.tup jj (r.mono (fj (hf.fresh (fW _)))))
theorem og{x:Int}{n:Nat}(h:x.natAbs<2^n):Hj x<=n:=ZR.mpr h
theorem tw{n:Nat}(h:Hj x<=n):x.natAbs<2^n:=ZR.mp h
theorem Dz(h:(!zh j)=ag):j≠0:=by
 rintro rfl;exact bR h
theorem blt(h:bB a b=ag):a<=b:=ll h
theorem fH(x:T):(toS x).length=x.length:=by simp [toS,tL]
theorem rM(x y:T):toS x++toS y=toS (x++y):=by
 refine(?_:Hk (x.toArray++y.toArray)=_);simp [toS]
theorem b8.append(hx:b8 x)(hy:b8 y):b8 (x++y):=λc h=>(vw.mp h).elim (hx c) (hy c)
theorem b8.nil:b8 []:=λO h=>(oE h).elim
theorem b8.cons{c:Nat}(hc:c<128)(hx:b8 x):b8 (c::x):=λd h=>(cI.mp h).elim (λe=>e▸hc) (hx d)
theorem b8.sub(hx:b8 x)(h:∀c∈y,c∈x):b8 y:=λc hc=>hx c (h c hc)
theorem nz{P:aF->aF->Prop}{α:Type}{r:α}{f:Int->Nat->Int->Nat->Option α}(h:mG a b f=ac r)(ra:aH G F va a)(rb:aH G F vb b)(k:∀i n j m t u,i.natAbs<2^n->j.natAbs<2^m->f i n j m=ac r->P (.int i t) (.int j u)):P va vb:=
 jw h λi n e h=>jw h λj m e' h=>by(symm;subst e e');exact aH.int_el ra λt q hi=>aH.int_el rb λu q' hj=>by subst q q';exact k i n j m t u hi hj h
theorem FV{P:aF->aF->Prop}{α:Type}{r:α}{f:T->Nat->T->Nat->Option α}(h:ss a b f=ac r)(ra:aH G F va a)(rb:aH G F vb b)(k:∀i n j m t u,i.length<=n->b8 i->j.length<=m->b8 j->f i n j m=ac r->P (.str (toS i) t) (.str (toS j) u)):P va vb:=
 ff h λi n e h=>ff h λj m e' h=>by(symm;subst e e');exact aH.str_el ra λt q hi ai=>aH.str_el rb λu q' hj aj=>by subst q q';exact k i n j m t u hi ai hj aj h
theorem W5{P:aF->aF->Prop}{α:Type}{r:α}{f:List ak->List ak->Option α}(h:(gp a λxs=>gp b λys=>f xs ys)=ac r)(ra:aH G F va a)(rb:aH G F vb b)(k:∀xs ys a b vs ws n m,F a=ac (dg vs n)->F b=ac (dg ws m)->br G F vs xs->br G F ws ys->f xs ys=ac r->P (.ref a) (.ref b)):P va vb:=
 iI h λxs e h=>iI h λys e' h=>by(symm;subst e e');exact aH.list_el ra λa vs n q hF r=>aH.list_el rb λb ws m q' hF' r'=>by subst q q';exact k xs ys a b vs ws n m hF hF' r r' h
theorem aP.ret(h:ac x=ac d)(k:aP G A t F s (aZ G x)):aP G A t F s (aZ G d):=CO (P:=λd=>aP G A t F s (aZ G d)) h k
theorem aP.int{i:Int}{n k:Nat}(hf:bD G F s)(hn:i.natAbs<2^n)(h:∀Q:aF->aC->Prop,Q (.int i tk) {s with toks:=k}->aG (aQ G.prog G.w) A t Q aU s):aP G A t F s (aZ G (.int i n)):=
 aP.of hf (h _ (hJ (P:=aZ G (.int i n)) (aH.int hn)))
theorem aP.str{x:T}{n:Nat}(hf:bD G F s)(hn:x.length<=n)(ha:b8 x)(h:∀Q:aF->aC->Prop,(∀t' k,Q (.str (toS x) t') {s with toks:=k})->aG (aQ G.prog G.w) A t Q aU s):aP G A t F s (aZ G (.str x n)):=
 aP.of hf (h _ λt' k=>hJ (P:=aZ G (.str x n)) (aH.str hn ha))
theorem aP.bool(hf:bD G F s)(h:∀Q:aF->aC->Prop,(∀k,Q (.bool b) {s with toks:=k})->aG (aQ G.prog G.w) A t Q aU s):aP G A t F s (aZ G (.bool b)):=
 aP.of hf (h _ λk=>hJ (P:=aZ G (.bool b)) rfl)
theorem aP.list(hf:bD G F s)(r:br G F vs ds)(h:∀Q:aF->aC->Prop,(∀k,Q (.ref s.heap.objs.size) {s with heap:=s.heap.push (dg vs 0),toks:=k})->aG (aQ G.prog G.w) A t Q aU s):aP G A t F s (aZ G (.list ds)):=
 aP.of1 hf (h _ λk=>B7 hf r)
theorem aP.tup(hf:bD G F s)(r:br G F vs ds)(h:∀Q:aF->aC->Prop,(∀k,Q (.ref s.heap.objs.size) {s with heap:=s.heap.push (gA vs 0),toks:=k})->aG (aQ G.prog G.w) A t Q aU s):aP G A t F s (aZ G (.tup ds)):=
 aP.of1 hf (h _ λk=>H9 hf r)
theorem Tn(ls:List (List aF)):∀acc:Array aF,NJ (λx1 x2=>x1++x2) acc (ls.map ZS)=acc++ls.flatten.toArray:=by
 induction ls with
 |nil=>intro acc;simp
 |cons l ls ih=>intro acc;simp only [qm,NK,ih,ZQ];simp [Array.append_assoc]
theorem YU(vs:List aF)(k:Nat):NJ (λx1 x2=>x1++x2) #[] (rV (if vs.toArray.isEmpty=ag then 0 else k) vs.toArray)=(rV k vs).flatten.toArray:=by
 have e:∀j,rV j vs.toArray=(rV j vs).map ZS:=λj=>by simp
 rw [e,Tn];induction vs using dD<;>simp
theorem Vz{s:aC}{x:Int}{Q:aF->aC->Prop}(ho:s.heap.get? a=ac (dg vs k))(hlo:-(2^63:Int)<=x)(hhi:x<2^63)(hsz':vs.toArray.size*x.toNat<=10000)(h:Q (.ref s.heap.objs.size) {s with heap:=s.heap.push (dg (rV x.toNat vs).flatten 0),toks:=s.toks}):
  aG (aQ prog w) A (ln .Mult (.ref a) (.int x u)) Q E s:=by
 refine wpAny_binaryOp_repeat_ref (T:="list") (U:="int") (by decide) ⟨_,ho,rfl⟩ (λs'=>typeIs_int s' x u) noFill_list_mul PySem.F.fills_int_mul ZT repeat_list PySem.F.slot_int_index.lookup
  (zJ ZT (typeIs_int s x u) PySem.F.entry_int_rmul (PySem.F.args_int_rmul_2 _ _) (lm_int_rmul_list_any x u a vs.toArray k ae #[])
   ⟨ho,rfl,⟨_,ho,rfl⟩,zJ PySem.F.slot_list_mul ⟨_,ho,rfl⟩ PySem.F.entry_list_mul (PySem.F.args_list_mul_2 _ _)
    (lm_list_mul_any a vs.toArray k ae #[] x u (by simp [Builtin.List.listFitsIndex];exact And.symm ⟨hhi,hlo⟩) (by lia) (by simp [Builtin.List.listTooLong,lV];simp at hsz';exact bM hsz' (ik 10000 16767216)))
    ⟨ho,?_⟩⟩)
 rw [YU];exact h
theorem Bj(e:Nat):∀k,dw k [e]=rV k e
 |0=>rfl
 |k+1=>by refine(?_:[e]++dw k [e]=_);refine af (Bj e k) ?_;rfl
theorem mul_one(e k:Nat):Txt.mul (toS [e]) (k:Int)=toS (dw k [e]):=by
 have aux:∀(k:Nat)(acc:T),(rV k (#[e]:Array Nat)).foldl (· ++·) acc.toArray=(acc++rV k e).toArray:=by
  intro k;induction k with
  |zero=>intro acc;simp
  |succ k ih=>
   intro acc;refine af ZP (af NK ?_);have:acc.toArray++ #[e]=(acc++[e]).toArray:=by simp
   rw [this,ih,ja];congr 1
 unfold Txt.mul;by_cases h0:k=0
 ·subst h0;rfl
 ·refine af (if_neg (by omega)) ?_
  by_cases h1:k=1
  ·subst h1;rfl
  ·rw [if_neg (by simp [toS,tL];omega),Bj]
   have:=aux k [];simpa [toS]using this
theorem Wo(t u:fh):∀z:PySem.Str,z.length<=1000000->Meets (fO.«str.__mod__» ⟨[.str (Hk #[34,37,115,34]) t,.str z u],[]⟩) (λO R s=>∀t' k,R (.ok (.ret (.str (fi "\""++z++fi "\"") t'))) {s with toks:=k}):=by
 kpc_run_s
theorem RV(x:T):fi "\""++toS x++fi "\""=toS (34::(x++[34])):=by
 have e:fi "\""=toS [34]:=by decide+kernel
 rw [e,rM,rM];rfl
theorem GG{a n m:Nat}(h:a<2^n)(hm:n<=m):a<2^m:=kA h (q7 (mK 1) hm)
theorem Vb{e k m:Nat}(he:b8 [e])(hf:bD G F s)(hj:k<2^m)(aB:k<2^15):aP G A (ln .Mult (.str (toS [e]) t) (.int (k:Int) u)) F s (aZ G (.str (dw k [e]) (2^m))):=by
 have aB:k<32768:=aB;have h1:(az ((k:Int)< -(2^63:Int))||decide ((k:Int)>=2^63))=am:=by
  rw [Bool.or_eq_false_iff];exact⟨decide_eq_false (by omega),decide_eq_false (by omega)⟩
 refine aP.str hf (by rw [Bj,List.length_replicate];exact lW hj) (he.sub λc hc=>by rw [Bj]at hc;exact dm.mpr (List.mem_replicate.mp hc).2) λQ h=>SB.mul (n:=(k:Int)) ⟨h1,?_,?_⟩ λt' k'=>?_
 ·intro h1 h2
  simp only [fH,ZU];have:(2^63-1:Int)/(k:Int)>=1:=by
   apply Int.le_ediv_of_mul_le<;>omega
  omega
 ·intro h1 h2
  rw [fH,ZU,ZV,gM,C5];exact decide_eq_false (by omega)
 ·rw [mul_one];exact h t' k'
theorem I7(vs ws:List aF):vs.toArray++ws.toArray=(vs++ws).toArray:=by simp
theorem YQ(hf:bD G F s)(ra:aH G F va a)(rb:aH G F vb b)(h:MY a b=ac d):aP G A (ln .Add va vb) F s (aZ G d):=
 dG h (λh=>nz (P:=λva vb=>aP G A (ln .Add va vb) F s (aZ G d)) h ra rb λi n j m t u hi hj h=>aP.ret h (aP.int hf (tw (intBits_add_le (og hi) (og hj))) λQ h=>P.add_int h))
  λh=>dG h (λh=>FV (P:=λva vb=>aP G A (ln .Add va vb) F s (aZ G d)) h ra rb λi n j m t u hi ai hj aj h=>bj h λhb h=>aP.ret h
    (aP.str hf (by rw [gx];exact xx hi hj) (ai.append aj) λQ h=>SB.add (λt' k=>by rw [rM];exact h t' k) (by rw [fH,fH,gM];have:=blt hb;simp only [lim]at this;lia)))
   λh=>W5 (P:=λva vb=>aP G A (ln .Add va vb) F s (aZ G d)) h ra rb λxs ys a b vs ws n m hF hF' r r' h=>bj h λhb h=>aP.ret h
    (aP.list hf (r.append r') λQ h=>ZW (hf.sat _ _ hF) (hf.sat _ _ hF') (by rw [I7];exact h _) (by
     have h1:=r.length;have h2:=r'.length;have:=blt hb;refine af gM ?_;simp [lim]at this⊢;lia))
theorem ZC(hf:bD G F s)(ra:aH G F va a)(rb:aH G F vb b)(h:JG a b=ac d):aP G A (ln .Mult va vb) F s (aZ G d):=
 dG h (λh=>nz (P:=λva vb=>aP G A (ln .Mult va vb) F s (aZ G d)) h ra rb λi n j m t u hi hj h=>bj h λhb h=>aP.ret h
   (aP.int hf (tw (intBits_mul_le (og hi) (og hj))) λQ h=>P.mul_int h (IntMulOk.of_le (og hi) (og hj) (by have:=blt hb;simp only [lim]at this;exact bM this (ik 1048576 133169152)))))
  λh=>dG h (λh=>ff h λx n e h=>jw h λj m e' h=>fy h λc ec h=>qK h λk ek h=>bj h λhb h=>bj h λO h=>aP.ret h (by
    (symm;subst e e' ec ek);exact aH.str_el ra λt q O ax=>aH.int_el rb λu q' hj=>by(symm;subst q q');exact Vb ax hf hj (GG hj (blt hb))))
   λh=>iI h λxs e h=>jw h λj m e' h=>qK h λk ek h=>bj h λhb h=>bj h λhb2 h=>bj h λO h=>aP.ret h (by
    (symm;subst e e' ek);refine aH.list_el ra λa vs n q hF r=>aH.int_el rb λu q' hj=>?_;subst q q';have h1:=r.length;have hb:=blt hb;have hb2:=blt hb2;exact aP.list hf (r.rep k) λQ h=>Vz (hf.sat _ _ hF) (by simp) (by lia) (by
     rw [eO,C5];exact Nat.mul_le_mul (h1▸hb2) hb) (by rw [C5];exact h _))
theorem VA(hf:bD G F s)(ra:aH G F va a)(rb:aH G F vb b)(h:Kh a b=ac d):aP G A (ln .Mod va vb) F s (aZ G d):=
 dG h (λh=>nz (P:=λva vb=>aP G A (ln .Mod va vb) F s (aZ G d)) h ra rb λi n j m t u hi hj h=>bj h λhz h=>aP.ret h
   (aP.int hf (mH (natAbs_fmod_le _ _ (Dz hz)) hj) λQ h=>PyProof.Rows.mod_int' (Dz hz) h))
  λh=>FV (P:=λva vb=>aP G A (ln .Mod va vb) F s (aZ G d)) h ra rb λi n j m t u hi ai hj aj h=>bj h λhe h=>bj h λhb h=>aP.ret h (by
    have he:=ZX.mp he;(symm;subst he);refine aP.str hf (by simp;omega) (b8.cons (by decide) (aj.append (b8.cons (by decide) b8.nil))) λQ h=>PySem.W.KPc.mod_str (X':=Hk #[34,37,115,34]) (T:=λz=>fi "\""++z++fi "\"") rfl (by rw [fH];have:=blt hb;exact bM hj this) (Wo t u) λt' k=>?_;rw [RV];exact h t' k)
theorem Zp(hf:bD G F s)(ra:aH G F va a)(rb:aH G F vb b)(h:um op a b=ac d):aP G A (ln op va vb) F s (aZ G d):=by
 induction op using Hl<;>first|exact aW h|skip
 ·exact YQ hf ra rb h
 ·exact nz (P:=λva vb=>aP G A (ln .Sub va vb) F s (aZ G d)) h ra rb λi n j m t u hi hj h=>aP.ret h (aP.int hf (tw (intBits_sub_le (og hi) (og hj))) λQ h=>P.sub_int h)
 ·exact ZC hf ra rb h
 ·exact VA hf ra rb h
 ·exact nz (P:=λva vb=>aP G A (ln .Pow va vb) F s (aZ G d)) h ra rb λi n j m t u hi hj h=>qK h λk ek h=>bj h λhb1 h=>bj h λhb2 h=>aP.ret h (by
   (symm;subst ek);exact aP.int hf (tw (intBits_pow_le (og hi) _)) λQ h=>PyProof.Rows.pow_int_small (Hm _) (by have:=blt hb2;lia) (GG hi (blt hb1)) h)
 ·exact nz (P:=λva vb=>aP G A (ln .FloorDiv va vb) F s (aZ G d)) h ra rb λi n j m t u hi hj h=>bj h λhz h=>bj h λhb h=>aP.ret h
   (aP.int hf (tw (intBits_fdiv_le (og hi))) λQ h=>floordiv_int (Dz hz) h (.inl (PyProof.noPylong_of_log2 (by
    have h1:j.natAbs<2^1000:=GG hj (blt hb);by_cases h0:j.natAbs=0
    ·refine af h0 ?_;decide
    ·exact vy ((NL h0).mpr h1) (by decide)))))
set_option backward.match.sparseCases true
theorem G0:toS x=toS y↔x=y:=by simp [toS]
theorem lS:le x y=ag↔x=y:=ZX
theorem I1:le x y=(x==y):=Hn.mpr (lS.trans beq_iff_eq.symm)
theorem abt:kq i j=(i==j):=rfl
theorem Y2(h:b8 x):ZY (toS x)=ag:=by
 simp only [ZY,toS,ZZ,eV,decide_eq_true_eq];intro c hc;have:=h c hc;exact bM this (ik 128 1113984)
def pL(F:bn)(news:List (bw×aJ)):Prop:=∀p∈news,F p.1=ac p.2
theorem pL.append(h:pL F n)(k:pL F m):pL F (n++m):=λp hp=>(vw.mp hp).elim (h p) (k p)
theorem pL.cons(h:F a=ac o)(k:pL F n):pL F ((a,o)::n):=λp hp=>(cI.mp hp).elim (λe=>by subst e;exact h) (k p)
def Q0(F:bn)(k:Nat)(v w:aF):Prop:=∃t news,zK k t=ag/\pL F news/\DatIn news v t/\DatIn news w t
def LY(F:bn)(k:Nat)(vs ws:List aF):Prop:=∃ts news,(∀t∈ts,zK k t=ag)/\pL F news/\DatAll news vs ts/\DatAll news ws ts
theorem Jn{n m:List (bw×aJ)}{p:bw×aJ}(h:p∈n):p∈n++m:=List.mem_append_left _ h
theorem Nb{n m:List (bw×aJ)}{p:bw×aJ}(h:p∈m):p∈n++m:=List.mem_append_right _ h
theorem Mu(h:jW k as bs):∀vs ws,br G F vs as->br G F ws bs->LY F k vs ws:=by
 refine@jW.rec (λk a b O=>∀v w,aH G F v a->aH G F w b->Q0 F k v w) (λk as bs O=>∀vs ws,br G F vs as->br G F ws bs->LY F k vs ws) ?_ ?_ ?_ ?_ ?_ ?_ ?_ k as bs h
 ·intro k v w h1 h2;subst h1;subst h2
  exact⟨.none,[],by induction k using j8<;>rfl,(λO h=>nomatch h),.none,.none⟩
 ·intro k i n m v w h1 h2
  exact aH.int_el h1 λt e O=>aH.int_el h2 λu e' O=>by(symm;subst e e');exact⟨.int i,[],by induction k using j8<;>rfl,(λO h=>nomatch h),.int i t,.int i u⟩
 ·intro k x n m v w h1 h2
  exact aH.str_el h1 λt e O ha=>aH.str_el h2 λu e' O O=>by(symm;subst e e');exact⟨.str (toS x),[],by induction k using j8<;>exact Y2 ha,(λO h=>nomatch h),.str _ t,.str _ u⟩
 ·intro k xs ys _ ih v w h1 h2
  exact aH.tup_el h1 λa vs n e hF r=>aH.tup_el h2 λb ws m e' hF' r'=>by
   (symm;subst e e');refine bV (ih vs ws r r') λts news q2'=>dH q2' λok o d1 d2=>?_;clear q2';exact⟨.tuple ts,(a,gA vs n)::(b,gA ws m)::news,by simpa [zK]using ok,.cons hF (.cons hF' o),.tuple (.head _) (d1.mono λp hp=>.tail _ (.tail _ hp)),.tuple (.tail _ (.head _)) (d2.mono λp hp=>.tail _ (.tail _ hp))⟩
 ·intro k xs ys _ ih v w h1 h2
  exact aH.list_el h1 λa vs n e hF r=>aH.list_el h2 λb ws m e' hF' r'=>by
   (symm;subst e e');refine bV (ih vs ws r r') λts news q1'=>dH q1' λok o d1 d2=>?_;clear q1';exact⟨.list ts,(a,dg vs n)::(b,dg ws m)::news,by simpa [zK]using ok,.cons hF (.cons hF' o),.list (.head _) (d1.mono λp hp=>.tail _ (.tail _ hp)),.list (.tail _ (.head _)) (d2.mono λp hp=>.tail _ (.tail _ hp))⟩
 ·intro k vs ws h1 h2;subst h1;subst h2
  exact⟨[],[],(λO h=>nomatch h),(λO h=>nomatch h),.nil,.nil⟩
 ·intro k a b as bs _ _ ih1 ih2 vs ws h1 h2
  exact h1.cons_er λv vs e r q=>h2.cons_er λw ws e' r' q'=>by
   subst e e';refine bV (ih1 v w r r') λt n q0'=>dH q0' λok o d1 d2=>?_;clear q0';refine bV (ih2 vs ws q q') λts m q2'=>dH q2' λoks os e1 e2=>?_;clear q2';exact⟨t::ts,n++m,λx hx=>(cI.mp hx).elim (λe=>e▸ok) (oks x),o.append os,.cons (d1.mono λp=>Jn) (e1.mono λp=>Nb),.cons (d2.mono λp=>Jn) (e2.mono λp=>Nb)⟩
theorem Zi(hf:bD G F s)(h:pL F news):News {} s.heap.objs.size s.heap news:=λp hp=>
 ⟨hf.sat _ _ (h p hp),iP (jy (hf.sat _ _ (h p hp))),rfl⟩
open Classical in
theorem Vn(hr:bX n A)(hf:bD G F s)(ra:aH G F va (.list xs))(rb:aH G F vb (.list ys))(h:vo xs ys=ac b):
  ∀Q:aF->aC->Prop,(Q (.bool b) s->aG (aQ G.prog G.w) A (jz .Eq va vb) Q aU s)/\(Q (.bool (!b)) s->aG (aQ G.prog G.w) A (jz .NotEq va vb) Q aU s):=by
 have hu:A.units+64<cLine:=by have:=hr.units;refine af W3 ?_;lia
 have key:∀(a c:bw)(vs ws:List aF)(i j:Nat)(ds es:List Dat)(news:List (bw×aJ)),F a=ac (dg vs i)->F c=ac (dg ws j)->pL F news->DatAll news vs ds->DatAll news ws es->(∀t∈ds,zK 8 t=ag)->(∀t∈es,zK 8 t=ag)->(∀i:Decidable (ds=es),@az _ i=b)->
   ∀Q:aF->aC->Prop,(Q (.bool b) s->aG (aQ G.prog G.w) A (jz .Eq (.ref a) (.ref c)) Q aU s)/\(Q (.bool (!b)) s->aG (aQ G.prog G.w) A (jz .NotEq (.ref a) (.ref c)) Q aU s):=λa c vs ws i j ds es news ha hc o d1 d2 k1 k2 e Q=>by
  have N:=Zi hf (.cons ha (.cons hc o));exact⟨λh=>kqd_eq N (.head _) rfl rfl d1 (λp hp=>.tail _ (.tail _ hp)) (.tail _ (.head _)) rfl rfl d2 (λp hp=>.tail _ (.tail _ hp)) k1 k2 hu (by rw [e];exact h),
   λh=>kqd_ne N (.head _) rfl rfl d1 (λp hp=>.tail _ (.tail _ hp)) (.tail _ (.head _)) rfl rfl d2 (λp hp=>.tail _ (.tail _ hp)) k1 k2 hu (by rw [e];exact h)⟩
 refine aH.list_el ra λa vs i ea ha r=>aH.list_el rb λc ws j ec hc r'=>?_;subst ea ec;unfold vo at h;split at h
 ·rename_i hl
  refine bV (Mu hl vs ws r r') λts news q1'=>dH q1' λok o d1 d2=>?_;clear q1';cases h;exact key a c vs ws i j ts ts news ha hc o d1 d2 ok ok (λO=>decide_eq_true rfl)
 ·rename_i hn
  split at h
  ·rename_i hl
   refine ay hl ?_;clear hl;intro hl z1;subst z1;refine bV (Mu hl vs vs r r) λts news q0'=>dH q0' λok o d1 O=>?_;clear q0';cases h;cases r';refine key a c vs [] i j ts [] news ha hc o d1 .nil ok (λO h=>nomatch h) (λO=>decide_eq_false λe=>?_);(symm;subst e);cases d1;cases xs with
   |nil=>exact hn .nil
   |cons x xs=>exact r.cons_er λv ws e O O=>nomatch e
  ·exact aW h
theorem Xp(x:T):lG (io y x)=ag↔y∈x:=by
 induction x with
 |nil=>exact⟨(nomatch ·),λh=>(oE h).elim⟩
 |cons b x ih=>
  refine(?_:lG (@aN (λO=>Option Nat) (ob (io y x) λk=>ac (k+1)) (ac 0) (bt y b))=ag↔_);rw [cI];cases h:bt y b with
  |true=>exact⟨λO=>.inl (f0 h),λO=>rfl⟩
  |false=>
   have e:lG (ob (io y x) λk=>ac (k+1))=lG (io y x):=by cases io y x<;>rfl
   refine(?_:lG (ob (io y x) λk=>ac (k+1))=ag↔_);rw [e,ih];exact⟨.inr,λq=>q.elim (λe=>absurd e (Z0 h)) id⟩
theorem MR(h:le x k=am):az (toS k=toS x)=am:=decide_eq_false λe=>by rw [lS.mpr (G0.mp e).symm]at h;cases h
theorem TR(ks:List T):∀{vs:List aF},ks.length=vs.length->(Ho ((ks.map toS).zip vs) (toS y)).isSome=uJ y ks:=by
 induction ks with
 |nil=>intro vs _;rfl
 |cons k ks ih=>
  intro vs h;induction vs using dD with
  |nil=>cases h
  |cons v vs=>
   have ih:=@ih vs (xy h);unfold Ho at ih⊢;simp only [qm,Z1,NM];refine(?_:_=@aN (λO=>Bool) (uJ y ks) ag (le y k));cases aB:le y k with
   |true=>refine af (lS.mp aB) (af (decide_eq_true rfl) ?_);rfl
   |false=>refine af (MR aB) ?_;exact ih
theorem Wl(ks:List T):∀{vs:List aF} {ds:List ak},br G F vs ds->ks.length=vs.length->uV y ks ds=ac d->∃v,Ho ((ks.map toS).zip vs) (toS y)=ac v/\aH G F v d:=by
 induction ks with
 |nil=>intro vs ds _ _ h;exact aW h
 |cons k ks ih=>
  intro vs ds h hl aB;induction ds using dD with
  |nil=>exact aW aB
  |cons e ds=>
   refine h.cons_er λv ws eq r q=>?_;subst eq;unfold Ho;simp only [qm,Z1,NM];change@aN (λO=>Option ak) (uV y ks ds) (ac e) (le y k)=ac d at aB;cases hb:le y k with
   |true=>rw [hb]at aB;refine bG aB ?_;refine af (lS.mp hb) (af (decide_eq_true rfl) ?_);exact⟨v,rfl,r⟩
   |false=>rw [hb]at aB;refine af (MR hb) ?_;exact ih q (xy hl) aB
theorem QM:(d7 a==d7 b)= !(Am a b):=by induction a using hO<;>induction b using hO<;>rfl
theorem M3(hf:bD G F s)(ho:s.heap.get? a=ac o)(hd:jS G o ks vs a):aP G A (jz .In (.str (toS y) t) (.ref a)) F s (aZ G (.bool (uJ y ks))):=
 aP.bool hf λQ h=>wpAny_in_of (C6 _ _ _ _) hd.2.1 (rW.mpr ⟨_,ho,hd.1⟩).mapOf (by refine af (TR ks hd.2.2.1) ?_;exact h _)
theorem aP.retB(h:ac x=ac b)(k:aP G A t F s (aZ G (.bool x))):aP G A t F s (aZ G (.bool b)):=CO (P:=λb=>aP G A t F s (aZ G (.bool b))) h k
theorem Kz(hf:bD G F s)(ra:aH G F va a)(rb:aH G F vb b)(hr:bX n A)(h:G9 a b=ac r):aP G A (jz .Eq va vb) F s (aZ G (.bool r))/\aP G A (jz .NotEq va vb) F s (aZ G (.bool (!r))):=
 dG h (λh=>nz (P:=λva vb=>aP G A (jz .Eq va vb) F s (aZ G (.bool r))/\aP G A (jz .NotEq va vb) F s (aZ G (.bool (!r)))) h ra rb λi n j m t u hi hj h=>
   CO (P:=λr=>aP G A (jz .Eq (.int i t) (.int j u)) F s (aZ G (.bool r))/\aP G A (jz .NotEq (.int i t) (.int j u)) F s (aZ G (.bool (!r)))) h ⟨aP.bool hf λQ h=>P.eq_int (h _),aP.bool hf λQ h=>P.ne_int (h _)⟩)
  λh=>dG h (λh=>FV (P:=λva vb=>aP G A (jz .Eq va vb) F s (aZ G (.bool r))/\aP G A (jz .NotEq va vb) F s (aZ G (.bool (!r)))) h ra rb λi n j m t u hi ai hj aj h=>
   CO (P:=λr=>aP G A (jz .Eq (.str (toS i) t) (.str (toS j) u)) F s (aZ G (.bool r))/\aP G A (jz .NotEq (.str (toS i) t) (.str (toS j) u)) F s (aZ G (.bool (!r)))) h
    ⟨aP.bool hf λQ h=>P.eq_str (by rw [I1]at h;exact h s.toks),aP.bool hf λQ h=>P.ne_str (by rw [I1]at h;exact h s.toks)⟩)
   λh=>iI h λxs e h=>iI h λys e' h=>by
    (symm;subst e e');have k:=Vn hr hf ra rb h;exact⟨aP.bool hf λQ h=>(k Q).1 (h s.toks),aP.bool hf λQ h=>(k Q).2 (h s.toks)⟩
theorem OX(hf:bD G F s)(ra:aH G F va a)(rb:aH G F vb b)(hr:bX n A)(hn:xh op=am)(h:qc op a b=ac r):aP G A (jz op va vb) F s (aZ G (.bool r)):=by
 induction op using Z2<;>first|exact aW h|(cases hn;done)|skip
 ·exact(Kz hf ra rb hr h).1
 ·exact aX h λv hv h=>aP.retB h (Kz hf ra rb hr hv).2
 ·exact nz (P:=λva vb=>aP G A (jz .LtE va vb) F s (aZ G (.bool r))) h ra rb λi n j m t u hi hj h=>aP.retB h (aP.bool hf λQ h=>P.le_int (h s.toks))
 ·exact nz (P:=λva vb=>aP G A (jz .Gt va vb) F s (aZ G (.bool r))) h ra rb λi n j m t u hi hj h=>aP.retB h (aP.bool hf λQ h=>P.gt_int (h s.toks))
 ·exact nz (P:=λva vb=>aP G A (jz .GtE va vb) F s (aZ G (.bool r))) h ra rb λi n j m t u hi hj h=>aP.retB h (aP.bool hf λQ h=>P.ge_int (h s.toks))
 ·refine dG h (λh=>Eu h λx e h=>Eu h λy e' h=>aP.retB h ?_) λh=>GF h λe' h=>dG h (λh=>GF h λe h=>aP.retB h ?_) λh=>ff h λx n e h=>aP.retB h ?_
  ·(symm;subst e e');subst ra;subst rb
   exact aP.bool hf λQ h=>NN rfl (by rw [QM,Bool.not_not];exact h s.toks)
  ·(symm;subst e e');subst ra;subst rb
   exact aP.bool hf λQ h=>NN rfl (h s.toks)
  ·(symm;subst e e');subst rb
   exact aH.str_el ra λt q O O=>by(symm;subst q);exact aP.bool hf λQ h=>NN rfl (h s.toks)
theorem RZ:xz (.type "re.Match") "__bool__"=pure ae:=by rw [iQ,iR];left
theorem T8:xz (.type "re.Match") "__len__"=pure ae:=by rw [iQ,iR];left
theorem R8{s:aC}{Q:Bool->aC->Prop}(hT:s.TypeIs (.ref a) "re.Match")(h:Q ag s):aG M A (truthy (.ref a)) Q Er s:=by
 unfold truthy;refine bv (wpAny_callSpecial?_none (name:=fi "__bool__") hT RZ ?_);refine bv (NO (name:=fi "__len__") hT T8 ?_);exact cq h
theorem abu{α:Type}(l:List α):(!eW l)=az (0<l.length):=by induction l using dD<;>rfl
theorem abz{α:Type}(l:List α):(!eW l)=(l.length !=0):=by induction l using dD<;>rfl
theorem UX{α:Type}(l:List α):(!eW l)=((l.length:Int) !=0):=by induction l using dD<;>rfl
theorem Ty{α:Type}(l:List α):eW l=l.isEmpty:=by induction l using dD<;>rfl
theorem VE{α β:Type}{l:List α}{r:List β}(h:l.length=r.length):eW l=eW r:=by induction l using dD<;>induction r using dD<;>first|rfl|cases h
theorem XA(i:Int):(!zh i)=(i !=0):=by
 cases i with
 |ofNat k=>induction k using j8<;>rfl
 |negSucc k=>rfl
theorem PI(hf:bD G F s)(hr:aH G F v d)(h:Ea d=ac b):aP G A (truthy v) F s (λO c=>c=b):=by
 have fin:∀{t:gw Bool} {x:Bool},ac x=ac b->(∀Q:Bool->aC->Prop,(∀k,Q x {s with toks:=k})->aG (aQ G.prog G.w) A t Q aU s)->aP G A t F s (λO c=>c=b):=λe k=>
  aP.of hf (k _ λk=>⟨λO O e=>e,rfl,rfl,eJ e⟩)
 refine dG h (λh=>Eu h λx e hh=>?_) λh=>dG h (λh=>jw h λi n e hh=>?_) λh=>dG h (λh=>ff h λx n e h=>bj h λhb hh=>?_) λh=>
  dG h (λh=>iI h λl e h=>bj h λhb hh=>?_) λh=>dG h (λh=>wl h λx n sp e hh=>?_) λh=>GF h λe hh=>?_
 ·(symm;subst e);subst hr
  exact fin hh λQ h=>NP (h s.toks)
 ·(symm;subst e)
  exact aH.int_el hr λt q O=>by(symm;subst q);exact fin hh λQ h=>P.truthy_int (by have:=h s.toks;rw [XA]at this;exact this)
 ·(symm;subst e)
  exact aH.str_el hr λt q hl O=>by
   (symm;subst q);have hb:=blt hb;simp only [lim]at hb;exact fin hh λQ h=>PySem.P.truthy_str (by rw [fH];lia) (by rw [fH];rw [UX]at h;exact h _)
 ·(symm;subst e)
  exact aH.list_el hr λa vs n q hF r=>by
   subst q;have hb:=blt hb;simp only [lim]at hb;have hl:=r.length;rw [<-VE hl]at hh;exact fin hh λQ h=>wpAny_truthy_list (l:=a) (items:=vs.toArray) ⟨_,hf.sat _ _ hF,rfl,_,rfl⟩ (by simp;lia) (by rw [Ty]at h;simpa using h _)
 ·(symm;subst e)
  refine d4 hr λa tp pa t q0'=>bV q0' λli k q1'=>bu q1' λz0 hF O=>?_;clear hr q0' q1';subst z0;exact fin hh λQ h=>R8 ⟨_,hf.sat _ _ hF,rfl⟩ (h s.toks)
 ·(symm;subst e);subst hr
  exact fin hh λQ h=>truthy_none (h s.toks)
theorem xm(h:qE i n=ac j):(i=(j:Int)\/i=(j:Int)-(n:Int)/\i<0)/\j<n/\-(2^63:Int)<=i/\i<2^63:=by
 cases i with
 |ofNat k=>
  exact bj h λh1 h=>bj h λh2 h=>by
   have h2:=blt h2;have h1:k<n:=by simpa using h1
   cases h;simp only [lim]at h2;exact⟨.inl rfl,h1,by refine(?_:-(2^63:Int)<=((j:Nat):Int));simp,by refine(?_:((j:Nat):Int)<2^63);lia⟩
 |negSucc k=>
  exact bj h λh1 h=>bj h λh2 h=>by
   have h2:=blt h2;have h1:k<n:=by simpa using h1
   cases h;simp only [lim]at h2;exact⟨.inr ⟨by omega,by simp⟩,by omega,by lia,by lia⟩
theorem JL(h:qE i n=ac j):NQ i n=ac j:=by
 refine dH (xm h) λh1 h2 h3 h4=>?_;rcases h1 with rfl|⟨rfl,h1⟩
 ·have e:(if((j:Nat):Int)<0 then((j:Nat):Int)+(n:Int)else((j:Nat):Int))=((j:Nat):Int):=if_neg (by exact Int.not_ofNat_neg j)
  simp only [NQ,e];simp [h2]
 ·have e:(if(j:Int)-(n:Int)<0 then(j:Int)-(n:Int)+(n:Int)else(j:Int)-(n:Int))=(j:Int):=by refine af (if_pos h1) ?_;exact Int.sub_add_cancel ↑j ↑n
  simp only [NQ,e];simp [h2]
theorem PF{s:aC}{Q:aF->aC->Prop}(ho:s.heap.get? a=ac (dg vs c))(hj:qE i vs.length=ac j)(hv:vs[j]? =ac v)(h:Q v s):aG (aQ prog w) A (mM (.ref a) (.int i u)) Q E s:=by
 have hl:s.heap.IsList a vs.toArray:=⟨_,ho,rfl,_,rfl⟩;refine dH (xm hj) λh1 h2 h3 h4=>?_;rcases h1 with rfl|⟨rfl,h1⟩
 ·exact wpAny_getItem_list hl (Hm _) h4 (by simpa using hv) h
 ·have e:(((j:Int)-(vs.length:Int))+(vs.length:Int)).toNat=j:=by simp
  exact wpAny_getItem_list_neg hl h1 (by simp;lia) h3 (by simpa [e]using hv) h
theorem Ki{s:aC}{Q:aF->aC->Prop}(ho:s.heap.get? a=ac (gA vs c))(hj:qE i vs.length=ac j)(hv:vs[j]? =ac v)(h:Q v s):aG (aQ prog w) A (mM (.ref a) (.int i u)) Q E s:=
 PyProof.Rows.getItem_tuple (t:=a) (items:=vs.toArray) ⟨_,ho,rfl,_,rfl⟩ (xm hj).2.2.1 (xm hj).2.2.2 (by simpa using JL hj) (by simpa using hv) h
theorem Ut{s:aC}{Q:aF->aC->Prop}{x:T}(hj:qE i x.length=ac j)(hv:x[j]? =ac c)(h:Q (.str (toS [c]) s.toks) {s with toks:=s.toks+1}):aG (aQ prog w) A (mM (.str (toS x) t) (.int i u)) Q E s:=by
 have h1:=JL hj;have h2:=(xm hj).2.2;have e:Txt.charAt (toS x) i=ac c:=by
  unfold Txt.charAt;rw [fH,h1];simpa [toS]using hv
 refine SB.getItem (by simp [PySem.fitsSsize];assumption) (by refine af e ?_;rfl) ?_;have:Txt.item (toS x) i=toS [c]:=by unfold Txt.item;refine af e ?_;rfl
 refine af this ?_;exact h
theorem Kt(n:Nat)(i:Int):clipAt n i=t6 n i:=by
 cases i with
 |ofNat k=>exact clipAt_nat n k
 |negSucc k=>exact clipAt_neg n (k+1) (oF k)
def wu(o:Option (Int×fh)):aF:=@dL (Int×fh) (λO=>aF) .none (λp=>.int p.1 p.2) o
theorem Ld:∀l:Option (Int×fh),IsPart (wu l) (l.map (·.1))
 |none=>.none
 |some p=>.int p.1 p.2
theorem Rr(hf:bD G F s)(ho:s.heap.get? a=ac (dg vs c))(hv:br G F vs ds)(hs:s.heap.IsSliceOf sl (wu l) (wu h) .none)(hb:bB ds.length lim=ag):
  aP G A (mM (.ref a) (.ref sl)) F s (aZ G (.list (im ds (dL 0 (t6 ds.length) (l.map (·.1))) (dL ds.length (t6 ds.length) (h.map (·.1)))))):=by
 have hlen:=hv.length;refine aP.list hf ((hv.drop _).take _) λQ hq=>Z3 (st:=ae) ⟨_,ho,rfl,_,rfl⟩ hs (lo:=l.map (·.1)) (hi:=h.map (·.1)) (Ld l) (Ld h) .none (by simp) ?_ ?_
 ·rw [slicePick_plain]
  have e1:(l.map (·.1)).elim 0 (clipAt vs.toArray.size)=dL 0 (t6 ds.length) (l.map (·.1)):=by
   induction l using kC<;>simp [Kt,hlen]
  have e2:(h.map (·.1)).elim vs.toArray.size (clipAt vs.toArray.size)=dL ds.length (t6 ds.length) (h.map (·.1)):=by
   induction h using kC<;>simp [Kt,hlen]
  rw [e1,e2];exact hq _
 ·have:=blt hb
  simp only [lim]at this;refine af gM ?_;simp;lia
theorem Wj(h:l=x):(⟨l.toArray⟩:aL)=toS x:=by refine af h ?_;rfl
theorem IJ(a l:Nat):max (0:Int) (min (a:Int) (l:Int))=max (0:Int) (min ((min a l:Nat):Int) (l:Int)):=by rw [Lean.Omega.Int.ofNat_min,Int.min_assoc,Int.min_self]
theorem VR(x:aL)(b:Nat):xA x ae (ac (b:Int))=xA x ae (ac ((min b x.length:Nat):Int)):=by
 have h2:¬((b:Int)<0):=by lia
 have h3:¬(((min b x.length:Nat):Int)<0):=by simp
 have e:max (0:Int) (min (b:Int) (x.length:Int))=max (0:Int) (min ((min b x.length:Nat):Int) (x.length:Int)):=IJ b x.length;unfold xA;simp only [Z4,h2,h3,if_false,e,show((1:Int)>0)=True from by simp,if_true]
theorem Pw(x:aL)(a:Nat):xA x (ac (a:Int)) ae=xA x (ac ((min a x.length:Nat):Int)) ae:=by
 have h2:¬((a:Int)<0):=by lia
 have h3:¬(((min a x.length:Nat):Int)<0):=by lia
 have e:max (0:Int) (min (a:Int) (x.length:Int))=max (0:Int) (min ((min a x.length:Nat):Int) (x.length:Int)):=IJ a x.length;unfold xA;simp only [Z4,h2,h3,if_false,e,show((1:Int)>0)=True from by simp,if_true]
theorem QR{x:T}{n:Nat}(hf:bD G F s)(hx:x.length<=n)(ha:b8 x)(hs:s.heap.IsSlice sl l h ae)(hd:Ik (.str x n) (l.map (·.1)) (h.map (·.1))=ac d):aP G A (mM (.str (toS x) t) (.ref sl)) F s (aZ G d):=by
 have key:∀(y:T)(m:Nat),y.length<=m->y.length<=1048576->(∀c∈y,c∈x)->xA (toS x) (l.map (·.1)) (h.map (·.1))=toS y->aP G A (mM (.str (toS x) t) (.ref sl)) F s (aZ G (.str y m)):=by
  intro y m hy hn hc e;refine aP.str hf hy (ha.sub hc) λQ hq=>wpAny_getItem_str_slice hs rfl ?_;refine post_val_or_str ?_;have e':(if((Option.map (λx=>x.1) (ae:Option (Int×fh))).getD 1==1&&(slicePicked (toS x) l h ae).length==(toS x).length)=ag then toS x else(⟨((slicePicked (toS x) l h ae).filterMap ((toS x).cps[·]?)).toArray⟩:aL))=toS y:=e;refine af e' ?_;exact⟨by rw [fH,gM];exact bM hn (ik 1048576 15728640),hq⟩
 refine dG hd (λh=>aW h) λhd=>bj hd λhb hd=>?_;induction l using kC with
 |none=>
  exact aX hd λb eb hd=>qK hd λb' e2 hd=>aP.ret hd (by
   (symm;subst e2);have hb:n<=1048576:=blt hb;refine key _ _ (by refine af Hp ?_;exact Nat.le_min.mpr ⟨Nat.min_le_left _ _,bM (Hq _ _) hx⟩) (by refine af Hp ?_;exact bM (Hq _ _) (bM hx hb)) (λc hc=>Z5 hc) ?_;rw [eb];refine(VR _ _).trans ((StrLaws.sliceText_to (x:=toS x) (j:=((min b' (toS x).length:Nat):Int)) ⟨by simp,by simp [toS,tL];exact Hq b' (fF x)⟩).trans ?_);simp [toS,tL,List.take_eq_take_iff])
 |some p=>
  induction h using kC with
  |some q=>exact aW hd
  |none=>
   exact qK hd λa e1 hd=>aP.ret hd (by
    obtain⟨i,t⟩:=p;have e1:i=(a:Int):=e1;(symm;subst e1);have hb:n<=1048576:=blt hb;refine key _ _ (by refine af jA ?_;exact bM (oG _ _) hx) (by refine af jA ?_;exact bM (oG _ _) (bM hx hb)) (λc hc=>xC hc) ?_;refine(Pw _ _).trans ((StrLaws.sliceText_from (x:=toS x) (i:=((min a (toS x).length:Nat):Int)) ⟨by lia,by simp [toS,tL];lia⟩).trans ?_);refine Wj ?_;refine(?_:(x.drop (min a (toS x).length)).take _=x.drop a);rw [fH,Hr (by rw [jA];refine(?_:x.length-min a x.length<=((x.length:Int)-((min a x.length:Nat):Int)).toNat);lia)];by_cases q:a<=x.length
    ·exact af (NR q) rfl
    ·exact af (zL (lW (NT q))) (af List.drop_length (af (q8 (lW (NT q))) rfl)))
theorem Q7{α:Type}(l:List α):∀j,third l j=third (l.drop j) 0:=by
 induction l with
 |nil=>intro j;refine af List.drop_nil ?_;rfl
 |cons a l ih=>
  intro j;induction j using j8 with
  |zero=>rfl
  |succ j=>exact ih j
theorem JA{α:Type}(l:List α):∀(c k:Nat),l.length<=k+3*c->((bP c).map λj=>k+3*j).filterMap (l[·]?)=third (l.drop k) 0
 |0,k,h=>by
  refine af (q8 (by omega)) ?_;rfl
 |c+1,k,h=>by
  have e:(bP (c+1)).map (λj=>k+3*j)=k::(bP c).map (λj=>(k+3)+3*j):=by
   refine af List.range_succ_eq_map (af qm (af jB ?_));congr 1;apply Ht;intro j _;simp only [Function.comp];lia
  refine af e (af List.filterMap_cons (af (JA l c (k+3) (by lia)) ?_));cases aB:l[k]? with
  |none=>
   have hle:l.length<=k:=by simpa using aB
   exact af (q8 hle) (af (q8 (by exact Nat.le_add_right_of_le hle)) rfl)
  |some a=>
   have hlt:k<l.length:=(C7.mp aB).1;have:l.drop k=a::l.drop (k+1):=by
    refine af (C8 hlt) ?_;congr 1;rw [rX hlt]at aB;exact eJ aB
   refine af this ?_;refine(?_:a::third (l.drop (k+3)) 0=a::third (l.drop (k+1)) 2);exact af (Q7 _ 2) (af zM rfl)
theorem R5(vs:List aF)(k:Nat):NU vs.toArray (ac (k:Int)) ae (ac 3)=(third (vs.drop k) 0).toArray:=by
 have hb:sliceBounds (ac (k:Int)) ae (ac 3) vs.length=(((min k vs.length:Nat):Int),(vs.length:Int),3):=by
  have e1:(if(k:Int)<0 then(k:Int)+(vs.length:Int)else(k:Int))=(k:Int):=if_neg (by lia);simp only [sliceBounds,e1];simp;refine af (Lean.Omega.Int.ofNat_min k vs.length).symm ?_;exact Int.max_eq_right (Hm _)
 have e:NU vs.toArray (ac (k:Int)) ae (ac 3)=((NV (min k vs.length:Nat) (vs.length:Int) 3).filterMap (vs[·]?)).toArray:=by
  simp [NU,hb]
 refine af e ?_;have hr:NV (min k vs.length:Nat) (vs.length:Int) 3=(bP ((vs.length-min k vs.length+2)/3)).map λj=>min k vs.length+3*j:=by
  unfold NV;have hc:((if(3:Int)>0 then(if((min k vs.length:Nat):Int)<(vs.length:Int)then((vs.length:Int)-((min k vs.length:Nat):Int)+3-1)/3 else 0)else(if((min k vs.length:Nat):Int)>(vs.length:Int)then(((min k vs.length:Nat):Int)-(vs.length:Int)-3-1)/(-3)else 0)):Int).toNat=(vs.length-min k vs.length+2)/3:=by
   refine af (if_pos (by decide)) ?_;generalize min k vs.length=m;split<;>lia
  simp only [hc];apply Ht;intro j _;rfl
 refine af hr (af (JA vs _ _ (by generalize min k vs.length=m;lia)) ?_);by_cases h:k<=vs.length
 ·exact af (NR h) rfl
 ·exact af (zL (by exact Nat.le_of_not_ge h)) (af (q8 (bZ _)) (af (q8 (by lia)) rfl))
def wI(G:cg)(F:bn)(s:aC)(iv:aF)(ix:mA):Prop:=@mA.rec (λO=>Prop) (λk=>aH G F iv k) (λl h=>∃a lo hi,iv=.ref a/\s.heap.IsSliceOf a (wu lo) (wu hi) .none/\lo.map (·.1)=l/\hi.map (·.1)=h)
 (λk=>∃a t u,iv=.ref a/\s.heap.IsSliceOf a (.int (k:Int) t) .none (.int 3 u)) ix
def tu(v:aF)(s:aC):Prop:=∃T id,s.TypeIs v T/\xz (.type T) "__getitem__"=pure (ac (.builtin id))
theorem FO(hf:bD G F s)(ho:s.heap.get? a=ac (dg vs c))(hr:br G F vs ds)(hi:wI G F s iv ix)(h:pP (.list ds) ix=ac d):
  aP G A (mM (.ref a) iv) F s (aZ G d)/\tu (.ref a) s:=by
 refine⟨?_,"list",_,⟨_,ho,rfl⟩,list_getitem_lookup⟩;induction ix using mA.casesOn with
 |«at» k=>
  exact dG h (λh=>jw h λi n e h=>dG h (λh=>aX h λj hj hh=>by
   (symm;subst e);refine aw (hr.get hh) λv q1'=>ay q1' λhv rv=>?_;clear q1';refine aH.int_el (show aH G F iv (.int i n)from hi) λt q O=>?_;(symm;subst q);exact aP.of hf (PF ho (by refine af hr.length ?_;exact hj) hv (hJ (P:=aZ G d) rv (k:=s.toks)))) λh=>dG h (λh=>aW h) λh=>aW h) λh=>ff h λx n O h=>aW h
 |sl l hh=>
  refine gB hi λsl lo hi' q0'=>dH q0' λz0 hs z2 z3=>?_;clear hi q0';subst z0;subst z2;subst z3;exact dG h (λh=>bj h λhb h=>aP.ret h (Rr hf ho hr hs hb)) λh=>aW h
 |th k0=>
  refine gB hi λsl t u q2'=>ay q2' λz0 hs=>?_;clear hi q2';subst z0;refine bj h λhb h=>aP.ret h (aP.list hf ((hr.drop k0).third 0) λQ hq=>Z3 ⟨_,ho,rfl,_,rfl⟩ hs (.int _ _) .none (.int _ _) (by simp) (by rw [R5];exact hq _) ?_);have:=blt hb;have:=hr.length;simp only [lim]at*;refine af gM ?_;simp;lia
theorem G7{G:cg}{A:cH}{F:bn}{s:aC}{a:bw}{ob:aJ}{ks:List T}{vs:List aF}{ds:List ak}{iv:aF}{ix:mA}{d:ak}(hf:bD G F s)(ho:s.heap.get? a=ac ob)(hd:jS G ob ks vs a)(hr:br G F vs ds)(hi:wI G F s iv ix)(h:pP (.dict ks ds) ix=ac d):
  aP G A (mM (.ref a) iv) F s (aZ G d)/\tu (.ref a) s:=by
 refine⟨?_,"dict",_,⟨_,ho,?_⟩,PySem.slot_dict_getitem.lookup⟩
 ·induction ix using mA.casesOn with
  |«at» k=>
   exact dG h (λh=>jw h λi n e h=>dG h (λh=>aW h) λh=>dG h (λh=>aW h) λh=>aW h) λh=>ff h λx n e hh=>by
    (symm;subst e);refine aw (Wl ks hr hd.2.2.1 hh) λv q1'=>ay q1' λhv rv=>?_;clear q1';refine aH.str_el (show aH G F iv (.str x n)from hi) λt q O O=>?_;(symm;subst q);exact aP.of hf (wpAny_getItem_of (C6 _ _ _ _) (rW.mpr ⟨_,ho,hd.1⟩).mapOf hv (hJ (P:=aZ G d) rv))
  |sl l hh=>exact aW (r:=d) h
  |th k0=>exact aW (r:=d) h
 ·refine ay hd λz0 O=>bV z0 λes ep q0'=>ay q0' λhx O=>?_;clear hd z0 q0'
  exact hx.1
theorem Mo(hf:bD G F s)(hv:aH G F v o)(hi:wI G F s iv ix)(h:pP o ix=ac d):aP G A (mM v iv) F s (aZ G d)/\tu v s:=by
 have onT:∀{l:List ak},o=.tup l->∀{k:ak},ix=.at k->∀{i:Int} {n j:Nat},k=.int i n->qE i l.length=ac j->l[j]? =ac d->aP G A (mM v iv) F s (aZ G d)/\tu v s:=by
  intro l e k ek i n j en hj hd;subst e ek en;refine aH.tup_el hv λa vs n' q hF r=>aH.int_el (show aH G F iv (.int i n)from hi) λt q' O=>?_;(symm;subst q q');refine aw (r.get hd) λv q2'=>ay q2' λhv rv=>?_;clear q2';have ho:=hf.sat _ _ hF;exact⟨aP.of hf (Ki ho (by refine af r.length ?_;exact hj) hv (hJ (P:=aZ G d) rv (k:=s.toks))),"tuple",_,⟨_,ho,rfl⟩,PySem.F.slot_tuple_getitem.lookup⟩
 have onL:∀{l:List ak},o=.list l->aP G A (mM v iv) F s (aZ G d)/\tu v s:=by
  intro l e;subst e;refine aH.list_el hv λa vs n q hF r=>?_;subst q;exact FO hf (hf.sat _ _ hF) r hi h
 have sS:∀{x:T} {t:fh},tu (.str (toS x) t) s:=⟨"str",_,zN _ _ _,PySem.F.slot_str_getitem.lookup⟩;induction ix using mA.casesOn with
 |«at» k=>
  refine dG h (λh=>jw h λi n e h=>dG h (λh=>iI h λl e' O=>onL e') λh=>dG h (λh=>rR h λl e' h=>aX h λj hj h=>onT e' rfl e hj h) λh=>ff h λx m e' h=>aX h λj hj h=>aX h λc hc hh=>?_) λh=>ff h λx n e h=>rG h λks ds e' aB=>?_
  ·(symm;subst e e')
   refine aH.str_el hv λt q O ha=>aH.int_el (show aH G F iv (.int i n)from hi) λt' q' O=>?_;(symm;subst q q');exact⟨aP.ret hh (aP.of hf (Ut hj hc (hJ (P:=aZ G (.str [c] 1)) (aH.str (bZ _) (b8.cons (ha c (vz hc)) b8.nil))))),sS⟩
  ·(symm;subst e')
   refine aH.dict_el hv λa o vs q hF hd r=>?_;subst q;exact G7 (d:=d) hf (hf.sat _ _ hF) hd r hi (by refine af e ?_;exact aB)
 |sl l hh=>
  refine dG h (λh=>iI h λl e' O=>onL e') λh'=>ff h' λx m e' h'=>?_;(symm;subst e');refine aH.str_el hv λt q hl ha=>?_;subst q;refine gB hi λsl lo hi' q0'=>dH q0' λz0 z1 z2 z3=>?_;clear hi q0';subst z0;refine aw z1 λo q1'=>bu q1' λh1 h2 h3=>?_;clear z1 q1';subst z2;subst z3;exact⟨QR hf hl ha ⟨o,h1,h2,by refine af h3 ?_;induction lo using kC<;>induction hi' using kC<;>rfl⟩ h,sS⟩
 |th k0=>exact iI h λl e' O=>onL e'
theorem JR(hT:tu o s)(h:aG (aQ prog w) A (mM o i) Q Er s):
  aG (aQ prog w) A (NX value slice o i) Q Er s:=by
 refine bV hT ?_;clear hT;intro T id q2';refine ay q2' λhT hl=>?_;clear q2';have hs:∃ops,subscripted slice am o i=operate ops (mM o i):=by
  induction slice using fw with
  |Slice a b c p=>induction c using kC<;>exact⟨_,rfl⟩
  |_=>exact⟨_,rfl⟩
 refine aw hs ?_;clear hs;intro ops hs;unfold NX;refine bv ?_;refine af (getitemInPython_of_ne hT.not_modules) ?_;refine bv (NO hT hl ?_);have fin:aG (aQ prog w) A (subscripted slice am o i) (λr s₃=>aG (aQ prog w) A (letTemporaryGo value o r>>=λO=>pure r) Q Er s₃) Er s:=by
  refine af hs ?_;exact wpAny_operating (cn h (λr s₃ h₃=>bv (wpAny_letTemporaryGo (cq h₃))) λO O x=>x)
 first
  |exact cq (bv fin)
  |exact bv (cq (bv fin))
  |exact bv fin
set_option backward.match.sparseCases false
theorem jq:d8 a b=ag↔a=b:=PySem.W.Fast.sEq_iff
theorem abw(a:aL):d8 a a=ag:=jq.mpr rfl
theorem yZ(h:a≠b):d8 a b=am:=by
 cases q:d8 a b with
 |false=>rfl
 |true=>exact absurd (jq.mp q) h
theorem IU(h:d8 a b=am):a≠b:=λe=>by rw [jq.mpr e]at h;cases h
theorem g9{α:Type}(x y:aL)(b:α)(r:List (aL×α)):ba x ((y,b)::r)=if x=y then ac b else ba x r:=by
 refine(?_:@aN (λO=>Option α) (ba x r) (ac b) (d8 x y)=_);by_cases h:x=y
 ·exact af (jq.mpr h) (af (if_pos h) rfl)
 ·exact af (yZ h) (af (if_neg h) rfl)
theorem yK{α:Type}(x:aL)(l:List (aL×α)):ba x l=l.lookup x:=by
 induction l with
 |nil=>rfl
 |cons p r ih=>
  rw [g9,zO];by_cases h:x=p.1
  ·rw [if_pos h,beq_iff_eq.mpr h]
  ·rw [if_neg h,beq_eq_false_iff_ne.mpr h];exact ih
theorem Il{α:Type}{b:α}(l:List (aL×α))(y:aL):ba y (put x b l)=if y=x then ac b else ba y l:=by
 induction l with
 |nil=>exact g9 y x b []
 |cons p r ih=>
  refine(?_:ba y (@aN (λO=>List (aL×α)) (p::put x b r) ((p.1,b)::r) (d8 x p.1))=_);by_cases h:x=p.1
  ·rw [jq.mpr h,g9,g9,h]
   by_cases q:y=p.1
   ·rw [if_pos q,if_pos q]
   ·rw [if_neg q,if_neg q,if_neg q]
  ·rw [yZ h,g9,g9,ih]
   by_cases q:y=p.1
   ·rw [if_pos q,if_pos q,if_neg λe=>h (e.symm.trans q)]
   ·rw [if_neg q,if_neg q]
theorem abr:ba x (put x b σ)=ac b:=by rw [Il,if_pos rfl]
theorem yW(l:List aL):has x l=ag↔x∈l:=by
 induction l with
 |nil=>exact⟨(nomatch ·),(nomatch ·)⟩
 |cons y r ih=>
  refine(?_:@aN (λO=>Bool) (has x r) ag (d8 x y)=ag↔_);rw [cI];by_cases h:x=y
  ·rw [jq.mpr h];exact⟨λO=>.inl h,λO=>rfl⟩
  ·rw [yZ h];exact ih.trans ⟨.inr,λq=>q.elim (λe=>(h e).elim) id⟩
structure bU where
 A:cH
 env:gX
 sc:cC
 K:bn
 m:aL->Option aF
 fx:Option (aL×aF)
noncomputable def bU.kp(c:bU)(K:bn):bU:={c with K:=K}
noncomputable def bU.vl(c:bU)(m:aL->Option aF):bU:={c with m:=m}
structure rg(c:bU):Prop where
 kind:c.env.scope.kind=.function
 names:c.env.scope.names=c.sc.names
 globals:c.env.globals=j9
 builtins:c.env.builtins=qn
 cells:∀x k,ba x c.sc.names=ac k->k=.cell\/k=.free->∃a,c.env.cells.lookup x=ac a
 inj:∀x y a,c.env.cells.lookup x=ac a->c.env.cells.lookup y=ac a->x=y
 only:∀x a,c.env.cells.lookup x=ac a->ba x c.sc.names≠ac .local
 plain:∀x k,ba x c.sc.names=ac k->(x==("__debug__":aL))=am/\(x==("__classdict__":aL))=am
inductive gg(G:cg)(F:bn)(h:cY):aF->ak->Prop
 |list {a:bw} {vs:List aF} {k:Nat} {ds:List ak} (ho:h.get? a=ac (dg vs k)) (r:br G F vs ds):gg G F h (.ref a) (.list ds)
 |dict {a:bw} {o:aJ} {ks:List T} {vs:List aF} {ds:List ak} (ho:h.get? a=ac o) (p:jS G o ks vs a) (r:br G F vs ds):gg G F h (.ref a) (.dict ks ds)
 |inst {a dx:bw} {o:aJ} {ks:List T} {vs:List aF} {ds:List ak} (ho:h.get? a=ac (jr G dx)) (h2:h.get? dx=ac o) (ne:dx≠a) (p:Ca o dx ks vs) (r:br G F vs ds):gg G F h (.ref a) (.inst ks ds)
def Bz(o:Option aJ):List bw:=@dL aJ (λO=>List bw) [] (λo=>o.dict.toList) o
def dZ(h:cY)(v:aF):List bw:=match v with
 |.ref a=>a::Bz (h.get? a)
 |_=>[]
def y0(G:cg)(F K:bn)(a:bw):Prop:=F a=ae/\K a=ae/\∀p∈G.tabs,p.P≠a
def qx(G:cg)(F:bn)(c:bU)(h:cY)(v:aF):Prop:=∀a∈dZ h v,y0 G F c.K a/\a≠c.env.locals
def uq(G:cg)(F:bn)(c:bU)(h:cY)(v:aF)(b:bk):Prop:=@bk.rec (λO=>Prop) (λd=>aH G F v d) (λd=>gg G F h v d/\qx G F c h v) b
structure aO(G:cg)(c:bU)(σ:aA)(F:bn)(s:aC):Prop where
 eo:rg c
 ok:bD G F s
 kept:∀a o,c.K a=ac o->s.heap.get? a=ac o
 apart:∀a o,F a=ac o->c.K a=ae
 tbK:∀p∈G.tabs,c.K p.P=ae
 ns:∃mL,s.heap.Ns c.env.locals mL/\∀x,ba x c.sc.names=ac .local->mL x=c.m x
 loc:y0 G F c.K c.env.locals
 cells:∀x a,c.env.cells.lookup x=ac a->s.heap.IsCell a (c.m x)/\F a=ae/\(∀p∈G.tabs,p.P≠a)/\(has x c.sc.wr=ag->c.K a=ae)
 names:∀x b,ba x σ=ac b->∃v,c.m x=ac v/\uq G F c s.heap v b
 own:∀x y dx dy v u,ba x σ=ac (.ow dx)->ba y σ=ac (.ow dy)->x≠y->c.m x=ac v->c.m y=ac u->∀a∈dZ s.heap v,a∉dZ s.heap u
 fix:∀x v,c.fx=ac (x,v)->has x c.sc.fix=ag/\c.m x=ac v
 tb:∃p∈G.tabs,c.env.code=.ref p.c/\c.env.qual=p.q
theorem gg.mono(hs:cJ F F')(x:gg G F h v d):gg G F' h v d:=x.rec (λho r=>.list ho (r.mono hs)) (λho p r=>.dict ho p (r.mono hs)) λho h2 ne p r=>.inst ho h2 ne p (r.mono hs)
theorem JQ(p:jS G o ks vs a):o.dict=ae:=by refine ay p λz0 O=>bV z0 λes ep q0'=>ay q0' λhx O=>?_;clear p z0 q0';exact hx.2.1
theorem El{h:cY}(ho:h.get? a=ac o):dZ h (.ref a)=a::o.dict.toList:=by refine(?_:a::Bz (h.get? a)=_);refine af ho ?_;rfl
theorem qB{h:cY}(ho:h.get? a=ac (dg vs k)):dZ h (.ref a)=[a]:=El ho
theorem s9{h:cY}(ho:h.get? a=ac o)(p:jS G o ks vs a):dZ h (.ref a)=[a]:=by refine af (El ho) (af (JQ p) ?_);rfl
theorem sJ{h:cY}(ho:h.get? a=ac (jr G dx)):dZ h (.ref a)=[a,dx]:=El ho
theorem gg.objs(x:gg G F h v d):∀a∈dZ h v,∃o,h.get? a=ac o/\∀w,o.data≠.cell w:=by
 cases x with
 |list ho r=>refine af (qB ho) ?_;exact λb hb=>by refine af (dm.mp hb) ?_;exact⟨_,ho,λw e=>nomatch e⟩
 |dict ho p r=>
  refine af (s9 ho p) ?_;exact λb hb=>by
   refine af (dm.mp hb) ?_;refine ay p λz0 O=>bV z0 λes ep q2'=>bu q2' λO hd O=>?_;clear p z0 q2';exact⟨_,ho,λw e=>by rw [hd]at e;cases e⟩
 |inst ho h2 ne p r=>
  refine af (sJ ho) ?_;exact λb hb=>(cI.mp hb).elim (λe=>by refine af e ?_;exact⟨_,ho,λw e=>nomatch e⟩) λe=>by
   refine af (dm.mp e) ?_;refine bV p λes n q1'=>ay q1' λz0 O=>?_;clear p q1';subst z0;exact⟨_,h2,λw e=>nomatch e⟩
theorem gg.notCell(x:gg G F h v d)(ha:a∈dZ h v):¬h.IsCell a w:=λ⟨oc,h1,h2⟩=>by
 refine aw (x.objs a ha) λo q0'=>ay q0' λh3 h4=>?_;clear q0';rw [h3]at h1;cases h1;exact h4 _ h2
theorem gg.here(x:gg G F h v d):∀a∈dZ h v,∃o,h.get? a=ac o:=λa ha=>(x.objs a ha).imp λO q=>q.1
theorem mx{h':cY}(aB:∀a∈dZ h v,h'.get? a=h.get? a):dZ h' v=dZ h v:=by
 induction v using vA with
 |ref a=>
  have:h'.get? a=h.get? a:=aB a (ck);refine(?_:a::Bz (h'.get? a)=a::Bz (h.get? a));exact af this rfl
 |_=>rfl
theorem gg.keep{h':cY}(x:gg G F h v d)(aB:∀a∈dZ h v,h'.get? a=h.get? a):gg G F h' v d:=by
 cases x with
 |list ho r=>exact .list ((aB _ (by refine af (qB ho) ?_;exact ck)).trans ho) r
 |dict ho p r=>exact .dict ((aB _ (by refine af (s9 ho p) ?_;exact ck)).trans ho) p r
 |inst ho h2 ne p r=>exact .inst ((aB _ (by refine af (sJ ho) ?_;exact ck)).trans ho) ((aB _ (by refine af (sJ ho) ?_;exact cW _ ck)).trans h2) ne p r
theorem aO.step(S:aO G c σ F s)(ok:bD G F' s')(le:cJ F F')(Z:bw->Prop)(aB:∀a o,¬Z a->s.heap.get? a=ac o->s'.heap.get? a=ac o)(hZ:∀a o,s.heap.get? a=ac o->c.K a=ae->(∀p∈G.tabs,p.P≠a)->F a=ae->¬Z a/\F' a=ae)(hcell:∀a o w,s.heap.get? a=ac o->o.data=.cell w->F a=ae->¬Z a/\F' a=ae)(kept:∀a o,K' a=ac o->s'.heap.get? a=ac o)(apart:∀a o,F' a=ac o->K' a=ae)(tbK:∀p∈G.tabs,K' p.P=ae)(hK:∀a o,s.heap.get? a=ac o->c.K a=ae->K' a=ae):aO G (c.kp K') σ F' s':=by
 have free:∀a o,s.heap.get? a=ac o->y0 G F c.K a->¬Z a/\y0 G F' K' a:=λa o ho q=>⟨(hZ a o ho q.2.1 q.2.2 q.1).1,(hZ a o ho q.2.1 q.2.2 q.1).2,hK a o ho q.2.1,q.2.2⟩;have hL:∃o,s.heap.get? c.env.locals=ac o:=by refine aw S.ns λmL q1'=>ay q1' λz0 O=>gB z0 λo es ep q2'=>ay q2' λho O=>?_;clear q1' z0 q2';exact⟨o,ho⟩
 have same:∀{v d},gg G F s.heap v d->qx G F c s.heap v->∀a∈dZ s.heap v,s'.heap.get? a=s.heap.get? a:=λo f a ha=>by
  refine aw (o.here a ha) λob ho=>?_;refine af ho ?_;exact aB a ob (free a ob ho (f a ha).1).1 ho
 refine⟨⟨S.eo.kind,S.eo.names,S.eo.globals,S.eo.builtins,S.eo.cells,S.eo.inj,S.eo.only,S.eo.plain⟩,ok,kept,apart,tbK,?_,?_,λx a e=>?_,λx b e=>?_,λx y dx dy v u hx hy hxy hv hu=>?_,S.fix,S.tb⟩
 ·refine aw S.ns λmL q0'=>ay q0' λhn hm=>?_;clear q0'
  exact⟨mL,hn.at' λo ho=>aB _ o (free _ o ho S.loc).1 ho,hm⟩
 ·refine aw hL λo ho=>?_;clear hL
  exact(free _ o ho S.loc).2
 ·refine dH (S.cells x a e) λz0 h1 h2 h3=>aw z0 λo q2'=>ay q2' λho hd=>?_;clear z0 q2'
  have q:=hcell a o _ ho hd h1;exact⟨⟨o,aB _ o q.1 ho,hd⟩,q.2,h2,λw=>hK a o ho (h3 w)⟩
 ·refine aw (S.names x b e) λv q1'=>ay q1' λhv hb=>?_;clear q1'
  refine⟨v,hv,?_⟩;induction b using bk.casesOn with
  |fz d=>exact aH.mono le hb
  |ow d=>
   have sm:=same hb.1 hb.2;refine⟨(hb.1.mono le).keep sm,λa ha=>?_⟩;rw [mx sm]at ha;refine aw (hb.1.here a ha) λo ho=>?_;exact⟨(free a o ho (hb.2 a ha).1).2,(hb.2 a ha).2⟩
 ·refine aw (S.names x _ hx) λv' q0'=>ay q0' λhv' hbx=>?_;clear q0'
  refine aw (S.names y _ hy) λu' q2'=>ay q2' λhu' hby=>?_;clear q2';have ev:v'=v:=eJ (hv'.symm.trans hv);have eu:u'=u:=eJ (hu'.symm.trans hu);subst ev eu;refine af (mx (same hbx.1 hbx.2)) (af (mx (same hby.1 hby.2)) ?_);exact S.own x y dx dy v' u' hx hy hxy hv hu
theorem aO.pass(S:aO G c σ F s)(P:Pass G F s F' s'):aO G c σ F' s':=by
 have fr:∀a o,s.heap.get? a=ac o->F a=ae->F' a=ae:=λa o ho hf=>by
  cases hq:F' a with
  |none=>rfl
  |some oo=>exact(P.new a oo hq).elim (λe=>nomatch hf.symm.trans e) λe=>nomatch e.symm.trans ho
 exact S.step P.ok P.le (λa=>∃p∈G.tabs,p.P=a) (λa o n e=>P.keep a o e λp hp q=>n ⟨p,hp,q⟩) (λa o ho O t f=>⟨λ⟨p,hp,q⟩=>t p hp q,fr a o ho f⟩)
  (λa o w ho hd f=>⟨λx=>x.elim λp hp=>(by
   refine bu (S.ok.tabs p hp.1) λO O q0'=>aw q0' λps q1'=>bu q1' λO z1 O=>ay z1 λO t=>?_;clear q0' q1' z1;rw [hp.2,ho]at t;cases t;cases hd),fr a o ho f⟩)
  (λa o e=>P.keep a o (S.kept a o e) λp hp q=>by have:=S.tbK p hp;rw [q,e]at this;cases this) (λa o e=>(P.new a o e).elim (S.apart a o) λq=>by
   cases hq:c.K a with
   |none=>rfl
   |some oo=>rw [S.kept a oo hq]at q;exact mD q) S.tbK λO O O e=>e
theorem aO.yd{α:Type}{t:gw α}{P:bn->α->Prop}(S:aO G c σ F s)(y:aP G A t F s P):aG (aQ G.prog G.w) A t (be (aO G c σ) F P) aU s:=
 cn y (λv s' o=>o.rec λF' le j p=>⟨F',le,S.pass j,p⟩) λO O z=>z
theorem gg.freeze(hok:bD G F s)(x:gg G F s.heap v d)(hf:∀a∈dZ s.heap v,F a=ae/\∀p∈G.tabs,p.P≠a):
  ∃F',bD G F' s/\cJ F F'/\(∀a o,F' a=ac o->F a=ac o\/a∈dZ s.heap v)/\aH G F' v d:=by
 cases x with
 | @list a vs k ds ho r=>
  rw [qB ho]at hf⊢;have ha:=hf a ck;exact⟨_,hok.add ha.1 ho ha.2,fj ha.1,λb o e=>(qV e).imp id λq=>by refine af q ?_;exact ck,.list jj (r.mono (fj ha.1))⟩
 | @dict a o ks vs ds ho p r=>
  rw [s9 ho p]at hf⊢;have ha:=hf a ck;exact⟨_,hok.add ha.1 ho ha.2,fj ha.1,λb o e=>(qV e).imp id λq=>by refine af q ?_;exact ck,.dict jj p (r.mono (fj ha.1))⟩
 | @inst a dx o ks vs ds ho h2 ne p r=>
  rw [sJ ho]at hf⊢;have ha:=hf a ck;have hd:=hf dx (cW _ ck);have hd':eT F a (jr G dx) dx=ae:=by unfold eT;refine af (if_neg ne) ?_;exact hd.1
  refine⟨eT (eT F a (jr G dx)) dx o,(hok.add ha.1 ho ha.2).add hd' h2 hd.2,(fj ha.1).trans (fj hd'),λb o' e=>?_,a,dx,o,vs,rfl,fj hd' _ _ jj,jj,ne,p,r.mono ((fj ha.1).trans (fj hd'))⟩;exact(qV e).elim (λe=>(qV e).imp id λq=>by refine af q ?_;exact ck) λq=>.inr (by refine af q ?_;exact cW _ ck)
theorem aO.freeze(S:aO G c σ F s)(x:gg G F s.heap v d)(f:qx G F c s.heap v)(hn:∀y dy u,ba y σ=ac (.ow dy)->c.m y=ac u->∀a∈dZ s.heap v,a∉dZ s.heap u):
  ∃F',cJ F F'/\aO G c σ F' s/\aH G F' v d:=by
 refine aw (x.freeze S.ok λa ha=>⟨(f a ha).1.1,(f a ha).1.2.2⟩) λF' q2'=>dH q2' λok' le new rd=>?_;clear q2';have fr:∀a,F a=ae->a∉dZ s.heap v->F' a=ae:=λa h1 h2=>by
  cases hq:F' a with
  |none=>rfl
  |some o=>exact(new a o hq).elim (λe=>nomatch h1.symm.trans e) λe=>absurd e h2
 refine⟨F',le,⟨S.eo,ok',S.kept,λa o e=>(new a o e).elim (S.apart a o) λe=>(f a e).1.2.1,S.tbK,S.ns,⟨fr _ S.loc.1 λe=>(f _ e).2 rfl,S.loc.2⟩,λy a e=>?_,λy b e=>?_,S.own,S.fix,S.tb⟩,rd⟩
 ·refine bu (S.cells y a e) λh0 h1 h2=>?_
  exact⟨h0,fr _ h1 λq=>x.notCell q h0,h2⟩
 ·refine aw (S.names y b e) λu q1'=>ay q1' λhu hb=>?_;clear q1'
  refine⟨u,hu,?_⟩;induction b using bk.casesOn with
  |fz d'=>exact aH.mono le hb
  |ow d'=>exact⟨hb.1.mono le,λa ha=>⟨⟨fr a (hb.2 a ha).1.1 λq=>hn y d' u e hu a q ha,(hb.2 a ha).1.2⟩,(hb.2 a ha).2⟩⟩
theorem uC(σ:aA):ba y (frz1 x σ)=if y=x then(ba y σ).map (λb=>.fz b.d)else ba y σ:=by
 induction σ with
 |nil=>exact(ite_self _).symm
 |cons p r ih=>
  refine(?_:ba y (@aN (λO=>aA) (p::frz1 x r) ((p.1,.fz p.2.d)::r) (d8 x p.1))=_);by_cases h:x=p.1
  ·rw [jq.mpr h,g9,g9,h]
   by_cases q:y=p.1
   ·rw [if_pos q,if_pos q,if_pos q];rfl
   ·rw [if_neg q,if_neg q,if_neg q]
  ·rw [yZ h,g9,g9,ih]
   by_cases q:y=p.1
   ·rw [if_pos q,if_pos q,if_neg λe=>h (e.symm.trans q)]
   ·rw [if_neg q,if_neg q]
theorem aO.frz1(S:aO G c σ F s)(x:aL):∃F',cJ F F'/\aO G c (frz1 x σ) F' s:=by
 have lk:∀y b,ba y (Mine.frz1 x σ)=ac b->∃b0,ba y σ=ac b0/\(b=b0\/y=x/\b=.fz b0.d):=λy b e=>by
  rw [uC]at e;by_cases h:y=x
  ·rw [if_pos h]at e
   refine aw (C9.mp e) λb0 q0'=>ay q0' λh0 z1=>?_;clear q0';subst z1;exact⟨b0,h0,.inr ⟨h,rfl⟩⟩
  ·rw [if_neg h]at e;exact⟨b,e,.inl rfl⟩
 have lo:∀y d,ba y (Mine.frz1 x σ)=ac (.ow d)->ba y σ=ac (.ow d)/\y≠x:=λy d e=>by
  rw [uC]at e;by_cases h:y=x
  ·rw [if_pos h]at e
   refine aw (C9.mp e) λb0 q2'=>ay q2' λO q=>?_;clear q2';cases q
  ·rw [if_neg h]at e;exact⟨e,h⟩
 have build:∀F',cJ F F'->(∀y b,ba y (Mine.frz1 x σ)=ac b->∃v,c.m y=ac v/\uq G F' c s.heap v b)->bD G F' s->(∀a o,F' a=ac o->c.K a=ae)->F' c.env.locals=ae->(∀y a,c.env.cells.lookup y=ac a->F' a=ae)->∃F',cJ F F'/\aO G c (Mine.frz1 x σ) F' s:=λF' le nm ok ap lc ce=>
  ⟨F',le,S.eo,ok,S.kept,ap,S.tbK,S.ns,⟨lc,S.loc.2⟩,λy a e=>⟨(S.cells y a e).1,ce y a e,(S.cells y a e).2.2⟩,nm,λy z dy dz v u hy hz=>S.own y z dy dz v u (lo y dy hy).1 (lo z dz hz).1,S.fix,S.tb⟩
 by_cases hx:∃d,ba x σ=ac (.ow d)
 ·refine aw hx ?_;clear hx;intro d hx
  refine aw (S.names x _ hx) λv q1'=>bu q1' λhv ho hf=>?_;clear q1';refine aw (ho.freeze S.ok λa ha=>⟨(hf a ha).1.1,(hf a ha).1.2.2⟩) λF' q0'=>dH q0' λok' le new rd=>?_;clear q0';have fr:∀a,F a=ae->a∉dZ s.heap v->F' a=ae:=λa h1 h2=>by
   cases hq:F' a with
   |none=>rfl
   |some o=>exact(new a o hq).elim (λe=>nomatch h1.symm.trans e) λe=>absurd e h2
  refine build F' le (λy b e=>?_) ok' (λa o e=>(new a o e).elim (S.apart a o) λe=>(hf a e).1.2.1) (fr _ S.loc.1 λe=>(hf _ e).2 rfl) λy a e=>fr _ (S.cells y a e).2.1 λq=>ho.notCell q (S.cells y a e).1;refine aw (lk y b e) λb0 q2'=>ay q2' λh0 hb=>?_;clear q2';by_cases q:y=x
  ·subst q
   rw [hx]at h0;cases h0;refine⟨v,hv,?_⟩;rcases hb with rfl|⟨_,rfl⟩
   ·exact absurd rfl (lo y d e).2
   ·exact rd
  ·rcases hb with rfl|⟨e,_⟩
   ·refine aw (S.names y b h0) λu q1'=>ay q1' λhu hb=>?_;clear q1'
    refine⟨u,hu,?_⟩;cases b with
    |fz d'=>exact aH.mono le hb
    |ow d'=>exact⟨hb.1.mono le,λa ha=>⟨⟨fr a (hb.2 a ha).1.1 λh=>S.own y x d' d u v h0 hx q hu hv a ha h,(hb.2 a ha).1.2⟩,(hb.2 a ha).2⟩⟩
   ·exact absurd e q
 ·refine build F .rfl (λy b e=>?_) S.ok S.apart S.loc.1 λy a e=>(S.cells y a e).2.1
  refine aw (lk y b e) λb0 q0'=>ay q0' λh0 hb=>?_;clear q0';refine aw (S.names y b0 h0) λv q2'=>ay q2' λhv hbv=>?_;clear q2';refine⟨v,hv,?_⟩;rcases hb with rfl|⟨rfl,rfl⟩
  ·exact hbv
  ·cases b0 with
   |fz d=>exact hbv
   |ow d=>exact(hx ⟨d,h0⟩).elim
def dT(K:bn)(ad:List bw)(h:cY):bn:=λa=>@aN (λO=>Option aJ) (K a) (h.get? a) (ad.contains a)
theorem pv{K:bn}{h:cY}{ad:List bw}{a:bw}(ha:a∈ad):dT K ad h a=h.get? a:=by unfold dT;exact af (Z6.mpr ha) rfl
theorem kW{K:bn}{h:cY}{ad:List bw}{a:bw}(ha:a∉ad):dT K ad h a=K a:=by
 unfold dT;rw [show ad.contains a=am from by
  cases q:ad.contains a with
  |false=>rfl
  |true=>exact absurd (Z6.mp q) ha]
theorem aO.asideP{G:cg}{c:bU}{F F':bn}{σ:aA}{s s':aC}{ad:List bw}(S:aO G c σ F s)(P:Pass G F s F' s')(hnew:∀a∈ad,s.heap.get? a=ae)(hF:∀a∈ad,F' a=ae):(∀a∈ad,c.K a=ae)/\aO G (c.kp (dT c.K ad s'.heap)) σ F' s':=by
 have out:∀a o,s.heap.get? a=ac o->a∉ad:=λa o e ha=>by rw [hnew a ha]at e;exact aW e
 have nK:∀a∈ad,c.K a=ae:=λa ha=>by
  cases hq:c.K a with
  |none=>rfl
  |some o=>exact absurd ha (out a o (S.kept a o hq))
 have S':=S.pass P;have outF:∀a o,F' a=ac o->a∉ad:=λa o e ha=>by rw [hF a ha]at e;exact aW e
 have le:∀a,a∉ad->dT c.K ad s'.heap a=c.K a:=λa ha=>kW ha;refine⟨nK,⟨⟨S.eo.kind,S.eo.names,S.eo.globals,S.eo.builtins,S.eo.cells,S.eo.inj,S.eo.only,S.eo.plain⟩,S'.ok,λa o e=>?_,λa o e=>(le a (outF a o e)).trans (S'.apart a o e),λp hp=>(le _ λq=>S.ok.notab (hnew _ q) p hp rfl).trans (S.tbK p hp),S'.ns,⟨S'.loc.1,?_,S'.loc.2.2⟩,λx a e=>?_,λx b e=>?_,S'.own,S.fix,S.tb⟩⟩
 ·by_cases ha:a∈ad
  ·exact(pv ha).symm.trans e
  ·exact S'.kept a o ((le a ha).symm.trans e)
 ·refine aw S.ns λmL q1'=>ay q1' λz0 O=>gB z0 λo es ep q2'=>ay q2' λho O=>?_;clear q1' z0 q2'
  exact(le _ (out _ o ho)).trans S'.loc.2.1
 ·refine ay (S.cells x a e) λz0 O=>aw z0 λo q0'=>ay q0' λho O=>?_;clear z0 q0'
  refine dH (S'.cells x a e) λh1 h2 h3 h4=>?_;exact⟨h1,h2,h3,λw=>(le _ (out _ o ho)).trans (h4 w)⟩
 ·refine aw (S.names x b e) λv q2'=>ay q2' λhv hb=>?_;clear q2'
  refine aw (S'.names x b e) λv' q1'=>ay q1' λhv' hb'=>?_;clear q1';have ev:v'=v:=eJ (hv'.symm.trans hv);subst ev;refine⟨v',hv',?_⟩;induction b using bk.casesOn with
  |fz d=>exact hb'
  |ow d=>
   have same:dZ s'.heap v'=dZ s.heap v':=mx λa ha=>by
    refine aw (hb.1.here a ha) λo ho=>?_;refine af ho ?_;exact P.keep a o ho (hb.2 a ha).1.2.2
   exact⟨hb'.1,λa ha=>⟨⟨(hb'.2 a ha).1.1,by
    refine aw (hb.1.here a (same▸ha)) λo ho=>?_;exact(le _ (out a o ho)).trans (hb'.2 a ha).1.2.1,(hb'.2 a ha).1.2.2⟩,(hb'.2 a ha).2⟩⟩
theorem aO.aside{ad:List bw}(S:aO G c σ F s)(k:iD s s')(hnew:∀a∈ad,s.heap.get? a=ae):(∀a∈ad,c.K a=ae)/\aO G (c.kp (dT c.K ad s'.heap)) σ F s':=
 S.asideP (S.ok.pass k) hnew λa ha=>S.ok.fresh (hnew a ha)
theorem aO.ext(S:aO G c σ F s)(k:iD s s'):aO G c σ F s':=S.pass (S.ok.pass k)
theorem aO.push(S:aO G c σ F s)(o:aJ){tk:Nat}(ht:s.toks<=tk):aO G c σ F {s with heap:=s.heap.push o,toks:=tk}:=S.ext ⟨λa o e=>eN _ e,rfl,rfl,ht⟩
def kU(ad:List bw)(h:cY):Prop:=∀a∈ad,(∃o,h.get? a=ac o)/\∀w,¬h.IsCell a w
theorem aO.moves{G:cg}{c:bU}{F K:bn}{σ:aA}{s s':aC}{ad:List bw}(S:aO G (c.kp (dT K ad s.heap)) σ F s)(hm:iK ad s s')(hex:kU ad s.heap):aO G (c.kp (dT K ad s'.heap)) σ F s':=by
 have hF:∀a∈ad,F a=ae:=λa ha=>by
  cases hq:F a with
  |none=>rfl
  |some o=>
   have:=S.apart a o hq;change dT K ad s.heap a=ae at this;rw [pv ha,S.ok.sat a o hq]at this;exact mD this
 have out:∀a o,s.heap.get? a=ac o->dT K ad s.heap a=ae->a∉ad:=λa o ho q ha=>by rw [pv ha,ho]at q;cases q
 have hP:∀p∈G.tabs,p.P∉ad:=λp hp ha=>by
  refine aw ((hex _ ha).1) λo ho=>?_;exact out _ o ho (S.tbK p hp) ha
 exact S.step (S.ok.moves hm hF hP) .rfl (· ∈ad) (λa o n e=>hm.keep a o n e) (λa o ho k O f=>⟨out a o ho k,f⟩) (λa o w ho hd f=>⟨λha=>(hex a ha).2 w ⟨o,ho,hd⟩,f⟩) (λa o e=>by
   by_cases ha:a∈ad
   ·rw [pv ha]at e;exact e
   ·rw [kW ha]at e
    exact hm.keep a o ha (S.kept a o ((kW ha).trans e))) (λa o e=>by
   have ha:a∉ad:=λq=>by rw [hF a q]at e;exact aW e
   refine af (kW ha) ?_;exact(kW ha).symm.trans (S.apart a o e))
  (λp hp=>by refine af (kW (hP p hp)) ?_;exact(kW (hP p hp)).symm.trans (S.tbK p hp)) λa o e q=>by
   have ha:=out a o e q;refine af (kW ha) ?_;exact(kW ha).symm.trans q
theorem aO.dropKeep{G:cg}{c:bU}{F K:bn}{σ:aA}{s:aC}{h:cY}{ad:List bw}(S:aO G (c.kp (dT K ad h)) σ F s)(hK:∀a∈ad,K a=ae):aO G (c.kp K) σ F s:=by
 have le:∀a o,K a=ac o->dT K ad h a=ac o:=λa o e=>(kW λq=>by rw [hK a q]at e;exact aW e).trans e;have nn:∀a,dT K ad h a=ae->K a=ae:=λa e=>by
  cases hq:K a with
  |none=>rfl
  |some o=>rw [le a o hq]at e;exact mD e
 exact S.step S.ok .rfl (λO=>False) (λa o O e=>e) (λa o O O O f=>⟨id,f⟩) (λa o w O O f=>⟨id,f⟩) (λa o e=>S.kept a o (le a o e)) (λa o e=>nn a (S.apart a o e)) (λp hp=>nn _ (S.tbK p hp)) λa O O=>nn a
theorem rB{G:cg}{c:bU}{F K:bn}{σ:aA}{s:aC}{h:cY}{ad:List bw}(S:aO G (c.kp (dT K ad h)) σ F s)(hex:∀a∈ad,∃o,h.get? a=ac o):∀a∈ad,s.heap.get? a=h.get? a:=λa ha=>by
 refine aw (hex a ha) λo ho=>?_;refine af ho ?_;exact S.kept a o ((pv ha).trans ho)
theorem uf{K:bn}{h h':cY}{ad:List bw}(hs:∀a∈ad,h'.get? a=h.get? a):dT K ad h'=dT K ad h:=funext λa=>by
 by_cases ha:a∈ad
 ·exact af (pv ha) (af (pv ha) (af (hs a ha) rfl))
 ·exact af (kW ha) (af (kW ha) rfl)
theorem aO.same_look(S:aO G c σ F s)(h:∀x,ba x σ'=ba x σ):aO G c σ' F s:=
 ⟨S.eo,S.ok,S.kept,S.apart,S.tbK,S.ns,S.loc,S.cells,λx b e=>S.names x b (h x▸e),λx y dx dy v u hx hy=>S.own x y dx dy v u (h x▸hx) (h y▸hy),S.fix,S.tb⟩
def n5(x:aL)(σ:aA):aA:=σ.filter λp=> !d8 x p.1
theorem M5(σ:aA)(y:aL):ba y (n5 x σ)=if y=x then ae else ba y σ:=by
 induction σ with
 |nil=>exact(ite_self _).symm
 |cons p r ih=>
  unfold n5 at ih⊢;by_cases h:x=p.1
  ·rw [List.filter_cons_of_neg (by rw [jq.mpr h];exact(nomatch ·)),ih,g9]
   by_cases q:y=x
   ·exact af (if_pos q) (af (if_pos q) rfl)
   ·rw [if_neg q,if_neg q,if_neg λe=>q (e.trans h.symm)]
  ·rw [List.filter_cons_of_pos (by rw [yZ h];rfl),g9,g9,ih]
   by_cases q:y=p.1
   ·exact af (if_pos q) (af (if_pos q) (af (if_neg λe=>h (e.symm.trans q)) rfl))
   ·exact af (if_neg q) (af (if_neg q) rfl)
theorem wG(e:ba y (n5 x σ)=ac b):y≠x/\ba y σ=ac b:=by
 rw [M5]at e;by_cases q:y=x
 ·rw [if_pos q]at e;exact aW e
 ·rw [if_neg q]at e;exact⟨q,e⟩
theorem aO.bind(S:aO G c (n5 x σ) F s)(hm:c.m x=ac v)(hb:uq G F c s.heap v b)(hd:∀d y dy u,b=.ow d->ba y σ=ac (.ow dy)->y≠x->c.m y=ac u->∀a∈dZ s.heap v,a∉dZ s.heap u):aO G c (put x b σ) F s:=by
 have oB:∀{y b'},ba y (put x b σ)=ac b'->y=x/\b'=b\/y≠x/\ba y σ=ac b'/\ba y (n5 x σ)=ac b':=λ{y b'} e=>by
  rw [Il]at e;by_cases q:y=x
  ·rw [if_pos q]at e;exact .inl ⟨q,(eJ e).symm⟩
  ·rw [if_neg q]at e;exact .inr ⟨q,e,by rw [M5,if_neg q];exact e⟩
 refine⟨S.eo,S.ok,S.kept,S.apart,S.tbK,S.ns,S.loc,S.cells,λy b' e=>?_,λy z dy dz u w hy hz hyz hu hw=>?_,S.fix,S.tb⟩
 ·rcases oB e with⟨rfl,rfl⟩|⟨_,_,e⟩
  ·exact⟨v,hm,hb⟩
  ·exact S.names y b' e
 ·rcases oB hy with⟨rfl,e1⟩|⟨n1,o1,e1⟩<;>rcases oB hz with⟨rfl,e2⟩|⟨n2,o2,e2⟩
  ·exact absurd rfl hyz
  ·rw [hm]at hu;refine bG hu ?_
   exact hd dy z dz w e1.symm o2 n2 hw
  ·rw [hm]at hw;refine bG hw ?_
   exact λa ha q=>hd dz y dy u e2.symm o1 n1 hu a q ha
  ·exact S.own y z dy dz u w e1 e2 hyz hu hw
theorem aO.set{s':aC}{m':aL->Option aF}(S:aO G c σ F s)(h0:mO x0 s.heap s'.heap)(hf:y0 G F c.K x0)(hos:s'.os=s.os)(hg:s'.gens=s.gens)(ht:s.toks<=s'.toks)(hfx:has x c.sc.fix=am)(hm:∀y,y≠x->m' y=c.m y)(hown:∀v d,gg G F s.heap v d->qx G F c s.heap v->x0∉dZ s.heap v)(hns:∃mL,s'.heap.Ns c.env.locals mL/\∀y,ba y c.sc.names=ac .local->mL y=m' y)(hcells:∀y a,c.env.cells.lookup y=ac a->s'.heap.IsCell a (m' y)):aO G (c.vl m') (n5 x σ) F s':=by
 have same:∀{v d},gg G F s.heap v d->qx G F c s.heap v->∀a∈dZ s.heap v,s'.heap.get? a=s.heap.get? a:=λo f a ha=>h0.2 a λq=>hown _ _ o f (q▸ha);refine⟨⟨S.eo.kind,S.eo.names,S.eo.globals,S.eo.builtins,S.eo.cells,S.eo.inj,S.eo.only,S.eo.plain⟩,S.ok.moves (ad:=[x0]) ⟨λa o n e=>(h0.2 a λq=>n (q▸ck)).trans e,hos,hg,ht⟩ (λa ha=>by refine af (dm.mp ha) ?_;exact hf.1) (λp hp q=>hf.2.2 p hp (dm.mp q)),
  λa o e=>(h0.2 a λq=>by have:=hf.2.1;rw [<-q]at this;exact nomatch this.symm.trans e).trans (S.kept a o e),S.apart,S.tbK,hns,S.loc,λy a e=>⟨hcells y a e,(S.cells y a e).2⟩,λy b' e=>?_,λy z dy dz u w hy hz hyz hu hw=>?_,λy w e=>⟨(S.fix y w e).1,(hm y λq=>by have:=(S.fix y w e).1;rw [q,hfx]at this;exact bR this).trans (S.fix y w e).2⟩,S.tb⟩
 ·refine ay (wG e) λn e=>?_
  refine aw (S.names y b' e) λu q0'=>ay q0' λhu hb=>?_;clear q0';refine⟨u,(hm y n).trans hu,?_⟩;induction b' using bk.casesOn with
  |fz d=>exact hb
  |ow d=>
   have k:=same hb.1 hb.2;exact⟨hb.1.keep k,λa ha=>hb.2 a (mx k▸ha)⟩
 ·refine ay (wG hy) λn1 e1=>?_
  refine ay (wG hz) λn2 e2=>?_;have hu:=(hm y n1).symm.trans hu;have hw:=(hm z n2).symm.trans hw;refine aw (S.names y _ e1) λu' q2'=>ay q2' λhu' hbu=>?_;clear q2';refine aw (S.names z _ e2) λw' q1'=>ay q1' λhw' hbw=>?_;clear q1';have eu:u'=u:=eJ (hu'.symm.trans hu);have ew:w'=w:=eJ (hw'.symm.trans hw);(symm;subst eu ew);refine af (mx (same hbu.1 hbu.2)) (af (mx (same hbw.1 hbw.2)) ?_);exact S.own y z dy dz u' w' e1 e2 hyz hu hw
theorem aO.turn(S:aO G c σ F s)(hx:ba x σ=ac (.ow d))(hv:c.m x=ac v)(hm:iK (dZ s.heap v) s s')(had:dZ s'.heap v=dZ s.heap v)(ho:gg G F s'.heap v d'):aO G c (put x (.ow d') σ) F s':=by
 refine aw (S.names x _ hx) λpE q0'=>ay q0' λhv0 hb=>?_;clear q0';have e0:pE=v:=eJ (hv0.symm.trans hv);subst e0;have keep:∀a o,a∉dZ s.heap pE->s.heap.get? a=ac o->s'.heap.get? a=ac o:=hm.keep;have own2:∀y dy u,y≠x->ba y σ=ac (.ow dy)->c.m y=ac u->∀a∈dZ s.heap u,s'.heap.get? a=s.heap.get? a:=λy dy u n hy hu a ha=>by
  refine aw (S.names y _ hy) λu' q2'=>ay q2' λhu' hbu=>?_;clear q2';have eu:u'=u:=eJ (hu'.symm.trans hu);subst eu;refine aw (hbu.1.here a ha) λo ho=>?_;refine af ho ?_;exact keep a o (S.own y x dy d u' pE hy hx n hu hv a ha) ho
 have S1:aO G c (n5 x σ) F s':=by
  refine⟨S.eo,S.ok.moves hm (λa ha=>(hb.2 a ha).1.1) (λp hp q=>(hb.2 _ q).1.2.2 p hp rfl),λa o e=>keep a o (λq=>nomatch (hb.2 a q).1.2.1.symm.trans e) (S.kept a o e),S.apart,S.tbK,?_,S.loc,λy a e=>?_,λy b' e=>?_,λy z dy dz u w hy hz hyz hu hw=>?_,S.fix,S.tb⟩
  ·refine aw S.ns λmL q1'=>ay q1' λhn hm=>?_;clear q1'
   exact⟨mL,hn.at' λo e=>keep _ o (λq=>(hb.2 _ q).2 rfl) e,hm⟩
  ·refine ay (S.cells y a e) λz0 r=>aw z0 λo q0'=>ay q0' λh1 h2=>?_;clear z0 q0'
   exact⟨⟨o,keep a o (λq=>hb.1.notCell q ⟨o,h1,h2⟩) h1,h2⟩,r⟩
  ·refine ay (wG e) λn e=>?_
   refine aw (S.names y b' e) λu q2'=>ay q2' λhu hbu=>?_;clear q2';refine⟨u,hu,?_⟩;induction b' using bk.casesOn with
   |fz d=>exact hbu
   |ow d0=>
    have k:=own2 y d0 u n e hu;exact⟨hbu.1.keep k,λa ha=>hbu.2 a (mx k▸ha)⟩
  ·refine ay (wG hy) λn1 e1=>?_
   refine ay (wG hz) λn2 e2=>?_;refine af (mx (own2 y dy u n1 e1 hu)) (af (mx (own2 z dz w n2 e2 hw)) ?_);exact S.own y z dy dz u w e1 e2 hyz hu hw
 refine S1.bind hv ⟨ho,λa ha=>hb.2 a (had▸ha)⟩ λO y dy u O hy n hu=>?_;refine af had (af (mx (own2 y dy u n hy hu)) ?_);exact S.own x y d dy pE u hx hy (λe=>n e.symm) hv hu
theorem Mv(h:ji sc x=ag):∃k,ba x sc.names=ac k/\(k=.local\/k=.cell\/k=.free):=by
 unfold ji at h;cases q:ba x sc.names with
 |none=>rw [q]at h;exact bR h
 |some k=>
  rw [q]at h;refine⟨k,rfl,?_⟩;induction k using jb<;>first|exact .inl rfl|exact .inr (.inl rfl)|exact .inr (.inr rfl)|exact bR h
theorem rH(E:rg c)(x:aL):c.env.kindOf x=ba x c.sc.names:=by
 rw [yK,<-E.names];rfl
theorem IC(S:aO G c σ F s)(hm:ji c.sc x=ag)(hv:c.m x=ac v){Q:aF->aC->Prop}(h:Q v s):aG M A (loadName c.env x) Q Er s:=by
 refine aw (Mv hm) λk q1'=>ay q1' λaB hor=>?_;clear q1';rcases hor with rfl|rfl|rfl
 ·refine aw S.ns λmL q0'=>ay q0' λhL hag=>?_;clear q0'
  exact vD S.eo.kind ((rH S.eo x).trans aB) hL ((hag x aB).trans hv) h
 ·refine aw (S.eo.cells x _ aB (.inl rfl)) λa ha=>?_
  exact wpAny_loadName_cell S.eo.kind ((rH S.eo x).trans aB) ha (hv▸(S.cells x a ha).1) h
 ·refine aw (S.eo.cells x _ aB (.inr rfl)) λa ha=>?_
  exact wpAny_loadName_free S.eo.kind ((rH S.eo x).trans aB) ha (hv▸(S.cells x a ha).1) h (S.eo.plain x _ aB).2
theorem vg(S:aO G c σ F s)(hm:ji c.sc x=ag)(hv:c.m x=ac v){Q:aF->aC->Prop}(h:Q v s):aG M A (eval (.Name x p) c.env) Q Er s:=by
 refine aw (Mv hm) λk q2'=>ay q2' λaB O=>?_;clear q2';exact rY (IC S hm hv h) (S.eo.plain x k aB).1
def gN(G:cg)(c:bU)(σ:aA)(F:bn)(s:aC):Prop:=∃m,aO G (c.vl m) σ F s
theorem Fa{h:cY}(hc:h.IsCell a w)(hn:h.Ns b m):a≠b:=λe=>by
 refine aw hc λoc q1'=>ay q1' λh1 h2=>?_;clear hc q1';refine gB hn λoL es ep q0'=>bu q0' λh3 h4 O=>?_;clear hn q0';rw [e,h3]at h1;cases h1;rw [h4]at h2;cases h2
theorem J8(S:aO G c σ F s)(hw:ke c.sc x=ag)(hb:uq G F c s.heap v b)(hd:∀d y dy u,b=.ow d->ba y σ=ac (.ow dy)->y≠x->c.m y=ac u->∀a∈dZ s.heap v,a∉dZ s.heap u):
  aG M A (NY c.env x v) (λO s'=>gN G c (put x b σ) F s') Er s:=by
 refine aw S.ns λmL q2'=>ay q2' λhL hag=>?_;clear q2';have mv:∀y,y≠x->(if y=x then ac v else c.m y)=c.m y:=λy h=>if_neg h;have fin:∀{x0:bw} {s1:aC},aO G (c.vl λy=>if y=x then ac v else c.m y) (n5 x σ) F s1->mO x0 s.heap s1.heap->(∀v d,gg G F s.heap v d->qx G F c s.heap v->x0∉dZ s.heap v)->gN G c (put x b σ) F s1:=λ{x0 s1} S1 h0 hown=>by
  have same:∀{v d},gg G F s.heap v d->qx G F c s.heap v->dZ s1.heap v=dZ s.heap v:=λo f=>mx λa ha=>h0.2 a λq=>hown _ _ o f (q▸ha);refine⟨_,S1.bind (v:=v) (if_pos rfl) ?_ λd y dy u e hy n hu=>?_⟩
  ·cases b with
   |fz d=>exact hb
   |ow d=>exact⟨hb.1.keep λa ha=>h0.2 a λq=>hown _ _ hb.1 hb.2 (q▸ha),λa ha=>hb.2 a (same hb.1 hb.2▸ha)⟩
  ·subst e
   have hu:c.m y=ac u:=(mv y n).symm.trans hu;refine aw (S.names y _ hy) λu' q1'=>ay q1' λhu' hbu=>?_;clear q1';have eu:u'=u:=eJ (hu'.symm.trans hu);(symm;subst eu);refine af (same hb.1 hb.2) (af (same hbu.1 hbu.2) ?_);exact hd d y dy u' rfl hy n hu
 have strong:aG M A (NY c.env x v) (λO s'=>s.toks<=s'.toks->gN G c (put x b σ) F s') Er s:=by
  unfold ke at hw;cases aB:ba x c.sc.names with
  |none=>rw [aB]at hw;exact bR hw
  |some k=>
   rw [aB]at hw;refine ay (cZ.mp hw) λhfx hw=>?_;have hfx:has x c.sc.fix=am:=by simpa using hfx
   cases k with
   |«local»=>
    refine Z7 ((rH S.eo x).trans aB) hL (λh' hn hs ht=>?_) (by refine af S.eo.kind ?_;rfl);have hown:∀v d,gg G F s.heap v d->qx G F c s.heap v->c.env.locals∉dZ s.heap v:=λv d O f q=>(f _ q).2 rfl;refine fin (S.set (s':={s with heap:=h',toks:=_}) hs S.loc rfl rfl ht hfx mv hown ⟨_,hn,λy hy=>?_⟩ λy a ha=>?_) hs hown
    ·by_cases q:y=x
     ·simp [q]
     ·simp [q,hag y hy]
    ·have hne:y≠x:=λe=>S.eo.only y a ha (e▸aB)
     refine af (if_neg hne) ?_;exact(S.cells y a ha).1.sameBut hs (Fa (S.cells y a ha).1 hL)
   |cell=>
    refine aw (S.eo.cells x _ aB (.inl rfl)) λa ha=>?_;refine dH (S.cells x a ha) λh1 h2 h3 h4=>?_;have hw:has x c.sc.wr=ag:=hw;have hown:∀v d,gg G F s.heap v d->qx G F c s.heap v->a∉dZ s.heap v:=λv d o O q=>o.notCell q h1;refine wpAny_storeName_cell S.eo.kind ((rH S.eo x).trans aB) ha h1 λh' hn hs ht=>?_;refine fin (S.set (s':={s with heap:=h',toks:=_}) hs ⟨h2,h4 hw,h3⟩ rfl rfl ht hfx mv hown ⟨mL,hL.sameBut hs (λe=>Fa h1 hL e.symm),λy hy=>?_⟩ λy a' ha'=>?_) hs hown
    ·refine af (if_neg λe=>by(symm;subst e);rw [aB]at hy;cases hy) ?_;exact hag y hy
    ·by_cases q:y=x
     ·(symm;subst q)
      rw [ha]at ha';cases ha';refine af (if_pos rfl) ?_;exact hn
     ·refine af (if_neg q) ?_
      exact(S.cells y a' ha').1.sameBut hs λe=>q (S.eo.inj y x a (e▸ha') ha)
   |_=>exact bR hw
 exact cn (oC (bZ s.toks) strong) (λO s' x=>x.2 x.1) λO O x=>x.2
set_option backward.match.sparseCases true
def rS(G:cg)(f:cQ)(F:bn)(fl:Flow):Prop:=@cQ.rec (λO=>Prop) (fl=.next) (fl=.brk) (fl=.cont) (λd=>∃v,fl=.ret v/\aH G F v d) f
def Mw(G:cg):Prop:=∀x h,ba x G.cx.glob=ac h->∀(c:bU)(s:aC)(M:lq)(A:cH)(Q:aF->aC->Prop)(Er:aF->aC->Prop),(∀a o,G.F0 a=ac o->s.heap.get? a=ac o)->rg c->Q (G.val h) s->aG M A (zQ c.env x) Q Er s
structure dp(G:cg)(E:bQ)(n:Nat):Prop where
 ev:∀(c:bU)(σ:aA)(F:bn)(s:aC)(e:aK)(r:ak×aA),bX n c.A->aO G c σ F s->E.ev c.sc σ e=ac r->aG (aQ G.prog G.w) c.A (eval e c.env) (be (aO G c r.2) F (aZ G r.1)) aU s
 ts:∀(c:bU)(σ:aA)(F:bn)(s:aC)(e:aK)(r:Bool×aA),bX n c.A->aO G c σ F s->E.ts c.sc σ e=ac r->aG (aQ G.prog G.w) c.A (isTrue e c.env (eval e c.env)) (be (aO G c r.2) F (λO b=>b=r.1)) aU s
 ex:∀(c:bU)(σ:aA)(F:bn)(s:aC)(st:bY)(r:cQ×aA),bX n c.A->aO G c σ F s->E.ex c.sc σ st=ac r->aG (aQ G.prog G.w) c.A (exec st c.env) (be (gN G c r.2) F (rS G r.1)) aU s
 call:∀(A:cH)(F:bn)(s:aC)(k:Nat)(vs:List aF)(ds:List ak)(d:ak),bX n A->bD G F s->br G F vs ds->E.call k ds=ac d->
  lr (aQ G.prog G.w) A (.call (G.val (.fn k)) ⟨vs,[]⟩) (λr s'=>∃v,r=.ok (.ret v)/\be (Pass G F s) F (aZ G d) v s') s
theorem abG{α β:Type}{P:bn->α->Prop}{Q:bn->β->Prop}{t:gw α}{u:α->gw β}(H:aG M A t (be J F P) aU s)(k:∀v F' s',cJ F F'->J F' s'->P F' v->aG M A (u v) (be L F' Q) aU s'):
  aG M A t (λv s'=>aG M A (u v) (be L F Q) aU s') aU s:=be.seq H λv F' s' l j p=>cn (k v F' s' l j p) (λO O o=>o.weak l) λO O z=>z
theorem be.weakW{α:Type}{P:bn->α->Prop}{t:gw α}(l:cJ F F')(H:aG M A t (be J F' P) aU s):aG M A t (be J F P) aU s:=cn H (λO O o=>o.weak l) λO O z=>z
theorem sL{J:bn->aC->Prop}{α:Type}{P:bn->α->Prop}{v:α}(j:J F s)(p:P F v):be J F P v s:=⟨F,.rfl,j,p⟩
theorem rf{G:cg}{F:bn}{s:aC}{J:aA->bn->aC->Prop}{t:gw aF}{M:lq}{A:cH}{x:ak×aA}{r:ak×aA}(h:ac x=ac r)(k:aG M A t (be (J x.2) F (aZ G x.1)) aU s):aG M A t (be (J r.2) F (aZ G r.1)) aU s:=(eJ h)▸k
theorem Xf{F:bn}{s:aC}{J:aA->bn->aC->Prop}{t:gw Bool}{M:lq}{A:cH}{x:Bool×aA}{r:Bool×aA}(h:ac x=ac r)(k:aG M A t (be (J x.2) F (λO b=>b=x.1)) aU s):aG M A t (be (J r.2) F (λO b=>b=r.1)) aU s:=(eJ h)▸k
theorem WE(S:aO G c σ F s)(h:Jc k=ac d):aG (aQ G.prog G.w) c.A (eval (.Constant k j pos) c.env) (be (aO G c σ) F (aZ G d)) aU s:=by
 refine S.yd ?_;induction k using Da<;>first|exact aW h|skip
 ·exact aP.ret h (aP.of S.ok (cq (hJ (P:=aZ G .none) rfl (k:=s.toks))))
 ·exact aP.ret h (aP.bool S.ok λQ h=>cq (h s.toks))
 ·exact aP.ret h (aP.int S.ok (tw (by unfold dW Hj;split<;>simp)) λQ h=>Db h)
 ·rename_i x
  refine bj h λha h=>bj h λO h=>aP.ret h ?_;have aux:∀l:T,uk l=ag->b8 l:=λl=>by
   induction l with
   |nil=>exact λO=>.nil
   |cons c r ih=>
    intro hh;change@aN (λO=>Bool) am (uk r) (eK c 128)=ag at hh;cases q:eK c 128 with
    |false=>rw [q]at hh;exact bR hh
    |true=>rw [q]at hh;exact .cons (by simpa using q) (ih hh)
  have e:toS x.cps.toList=x:=by simp [toS]
  refine aP.str S.ok (bZ _) (aux _ ha) λQ h=>?_;rw [e]at h;exact wpAny_mkText (h _ _)
theorem U5{c:bU}(H:dp G E n)(R:bX n c.A)(S:aO G c σ F s)(h:(ob (E.ev c.sc σ a) λp=>ob (E.ev c.sc p.2 b) λq=>ob (um op p.1 q.1) λd=>ac (d,q.2))=ac r):
  aG (aQ G.prog G.w) c.A (eval (.BinOp a op b pos) c.env) (be (aO G c r.2) F (aZ G r.1)) aU s:=
 aX h λp h1 h=>aX h λq h2 h=>aX h λd h3 h=>zR (be.seq (H.ev c σ F s a p R S h1) λva F1 s1 aY S1 r1=>be.seq (H.ev c p.2 F1 s1 b q R S1 h2) λvb F2 s2 b6 S2 r2=>
  be.weakW (aY.trans b6) (rf (J:=aO G c) h (S2.yd (Zp S2.ok (aH.mono b6 r1) r2 h3))))
def Pv(G:cg)(c:bU)(σ:aA)(e:aK)(d:ak)(F:bn)(v:aF):Prop:=aH G F v d\/∃x pos,e=.Name x pos/\ba x σ=ac (.ow d)/\c.m x=ac v
theorem lN{α:Type}{f:aL->eF->Option α}{r:α}{P:Prop}(h:kh e f=ac r)(k:∀x p,e=.Name x p->f x p=ac r->P):P:=by
 induction e using fw<;>first|exact k _ _ rfl h|exact aW h
theorem ER{c:bU}(H:dp G E n)(R:bX n c.A)(S:aO G c σ F s)(h:pn E c.sc σ e=ac r):aG (aQ G.prog G.w) c.A (eval e c.env) (be (aO G c r.2) F (Pv G c r.2 e r.1)) aU s:=
 dG h (λh=>lN h λx p e1 h=>bj h λhm h=>aX h λb hb hh=>by
   (symm;subst e1);refine bG hh ?_;refine aw (S.names x b hb) λv q2'=>ay q2' λhv hbv=>?_;clear q2';refine vg S hm hv (sL (J:=aO G c σ) S ?_);induction b using bk.casesOn with
   |fz d=>exact .inl hbv
   |ow d=>exact .inr ⟨x,p,rfl,hb,hv⟩)
  λh=>cn (H.ev c σ F s e r R S h) (λv s' o=>o.rec λF' l j p=>⟨F',l,j,.inl p⟩) λO O z=>z
theorem L5{c:bU}(H:dp G E n)(R:bX n c.A)(S:aO G c σ F s)(h:rC E c.sc σ a op b=ac r):
  aG (aQ G.prog G.w) c.A (eval a c.env) (λva s1=>aG (aQ G.prog G.w) c.A (eval b c.env) (λvb s2=>aG (aQ G.prog G.w) c.A (jz op va vb) (λv s3=>v=.bool r.1/\∃F',cJ F F'/\aO G c r.2 F' s3) aU s2) aU s1) aU s:=by
 have fin:∀{F1:bn} {σ2:aA} {s2:aC} {t:gw aF} {b:Bool},ac (b,σ2)=ac r->cJ F F1->aO G c σ2 F1 s2->aP G c.A t F1 s2 (aZ G (.bool b))->aG (aQ G.prog G.w) c.A t (λv s3=>v=.bool r.1/\∃F',cJ F F'/\aO G c r.2 F' s3) aU s2:=λh l S y=>by
  refine bG h ?_;exact be.seq (S.yd y) λv F' s' l' S' p=>⟨p,F',l.trans l',S'⟩
 refine bj h λO h=>aX h λp h1 h=>be.seq (H.ev c σ F s a p R S h1) λva F1 s1 aY S1 r1=>aX h λq h2 h=>aX h λw h3 hh=>?_;cases ho:xh op with
 |false=>
  rw [ho]at h2;exact be.seq (H.ev c p.2 F1 s1 b q R S1 h2) λvb F2 s2 b6 S2 r2=>fin hh (aY.trans b6) S2 (OX S2.ok (aH.mono b6 r1) r2 R ho h3)
 |true=>
  rw [ho]at h2;induction op using Z2<;>first|(cases ho;done)|skip
  refine be.seq (ER H R S1 h2) λvb F2 s2 b6 S2 r2=>fin hh (aY.trans b6) S2 ?_;refine dG h3 (λh3=>ff h3 λx i ex h3=>ff h3 λy m ey h3=>fy h3 λz ez h3=>?_) λh3=>ff h3 λx i ex h3=>rG h3 λks ds ed h3=>?_
  ·have q2:aH G F2 vb q.1:=r2.elim id λ⟨x',pos',_,hx',hv'⟩=>by
    refine aw (S2.names x' _ hx') λv' q1'=>bu q1' λe1 o1 O=>?_;clear q1';rw [ey]at o1;cases o1
   rw [ey]at q2;have r1':=aH.mono b6 r1;rw [ex]at r1';refine aH.str_el r1' λt e O O=>aH.str_el q2 λu e' O O=>?_;(symm;subst e e' ez);refine aP.retB h3 (aP.bool S2.ok λQ h=>P.in_str ?_);have e2:(!(Hu (toS y) (⟨#[z]⟩:aL) 0 (toS y).length 1).isEmpty)=lG (io z y):=by
    have:=abM (toS y) z;rw [Hn]at this⊢;rw [decide_eq_true_iff]at this;exact this.trans ((by simp [toS]:z∈(toS y).cps.toList↔z∈y).trans (Xp y).symm)
   have e3:(toS [z])=(⟨#[z]⟩:aL):=rfl;refine af e3 (af e2 ?_);exact h s2.toks
  ·have r1':=aH.mono b6 r1
   rw [ex]at r1';refine aH.str_el r1' λt e O O=>?_;(symm;subst e);refine aP.retB h3 ?_;rw [ed]at r2;rcases r2 with q2|⟨x',pos',_,hx',hv'⟩
   ·exact aH.dict_el q2 λa o vs e hF p O=>by(symm;subst e);exact M3 S2.ok (S2.ok.sat _ _ hF) p
   ·refine aw (S2.names x' _ hx') λv' q0'=>bu q0' λe1 o1 O=>?_;clear q0'
    have e1:v'=vb:=eJ (e1.symm.trans hv');(symm;subst e1);cases o1 with
    |dict ho p _=>exact M3 S2.ok ho p
theorem ua(h:lT e=am):lY (e::r) env=(am,eval e env)::lY r env:=by
 induction e using fw<;>first|rfl|cases h
theorem Gf(h:gh (e::r)=ag):lT e=am/\gh r=ag:=by
 have h:(!lT e&&gh r)=ag:=h;refine ay (cZ.mp h) λa b=>?_;exact⟨by simpa using a,b⟩
theorem wn{c:bU}(H:dp G E n)(R:bX n c.A)(pos:eF)(es:List aK):∀(σ:aA)(F:bn)(s:aC)(r:List ak×aA),aO G c σ F s->gh es=ag->dQ E c.sc es σ=ac r->
  aG (aQ G.prog G.w) c.A (spliced (qo pos (lY es c.env))) (be (aO G c r.2) F (λF vs=>br G F vs r.1)) aU s:=by
 induction es with
 |nil=>intro σ F s r S _ h;refine bG h ?_;exact cq (sL (J:=aO G c σ) S br.nil)
 |cons e es ih=>
  intro σ F s r S hn h;refine ay (Gf hn) λh1 h2=>?_;refine aX h λp hp h=>aX h λq hq h=>?_;refine bG h ?_;refine af (ua h1) ?_;show aG _ _ (do
   let v<-(eval e c.env);let here<-(pure [v]:gw (List aF))
   return here++(<-holding here (spliced (qo pos (lY es c.env))))) _ _ _
  refine bv (be.seq (H.ev c σ F s e p R S hp) λv F1 s1 aY S1 r1=>?_);refine bv (cq (bv (qp (be.seq (ih p.2 F1 s1 q S1 h2 hq) λvs F2 s2 b6 S2 r2=>?_))));exact cq ⟨F2,aY.trans b6,S2,br.cons (aH.mono b6 r1) r2⟩
theorem DX(es:List aK):∀{σ:aA} {r:List ak×aA},dQ E sc es σ=ac r->r.1.length=es.length:=by
 induction es with
 |nil=>intro σ r h;refine bG h ?_;rfl
 |cons e es ih=>exact λh=>aX h λp O h=>aX h λq hq h=>by refine bG h ?_;exact congrArg (· +1) (ih hq)
theorem GI{es:List aK}{vs:List aF}{ds:List ak}(hl:bB es.length 1000=ag)(h1:ds.length=es.length)(h2:vs.length=ds.length):vs.toArray.size<=lV:=by
 have:=blt hl;refine af gM (af eO ?_);lia
theorem X5{c:bU}(H:dp G E n)(R:bX n c.A)(S:aO G c σ F s)(hn:gh es=ag)(hl:bB es.length 1000=ag)(h:dQ E c.sc es σ=ac q):
  aG (aQ G.prog G.w) c.A (eval (.List es pos) c.env) (be (aO G c q.2) F (aZ G (.list q.1))) aU s:=
 List_ (be.seq (wn H R pos es σ F s q S hn h) λvs F1 s1 aY S1 r1=>be.weakW aY (S1.yd (aP.list S1.ok r1 λQ hq=>vE (hq _) (GI hl (DX es h) r1.length))))
theorem UW{c:bU}(H:dp G E n)(R:bX n c.A)(S:aO G c σ F s)(hn:gh es=ag)(hl:bB es.length 1000=ag)(h:dQ E c.sc es σ=ac q):
  aG (aQ G.prog G.w) c.A (eval (.Tuple es k pos) c.env) (be (aO G c q.2) F (aZ G (.tup q.1))) aU s:=
 Tuple_ (be.seq (wn H R pos es σ F s q S hn h) λvs F1 s1 aY S1 r1=>be.weakW aY (S1.yd (aP.tup S1.ok r1 λQ hq=>vE (hq _) (GI hl (DX es h) r1.length))))
theorem UM{c:bU}(H:dp G E n)(R:bX n c.A)(S:aO G c σ F s)(h:(ob (E.ts c.sc σ t) λp=>aN (E.ev c.sc p.2 b) (E.ev c.sc p.2 a) p.1)=ac r):
  aG (aQ G.prog G.w) c.A (eval (.IfExp t a b pos) c.env) (be (aO G c r.2) F (aZ G r.1)) aU s:=by
 refine aX h λp h1 h=>?_;rw [arm_eval_IfExp];refine bv (be.seq (H.ts c σ F s t p R S h1) λb' F1 s1 aY S1 e=>?_);(symm;subst e);obtain⟨b',σ1⟩:=p;induction b' using hO<;>exact be.weakW aY (H.ev c σ1 F1 s1 _ r R S1 h)
theorem TD{c:bU}(H:dp G E n)(R:bX n c.A)(S:aO G c σ F s)(h:(ob (E.ev c.sc σ a) λp=>jQ p.1 λi n=>ac (ak.int (-i) n,p.2))=ac r):
  aG (aQ G.prog G.w) c.A (eval (.UnaryOp .USub a pos) c.env) (be (aO G c r.2) F (aZ G r.1)) aU s:=by
 refine aX h λp h1 h=>jw h λi k e h=>?_;refine(?_:aG _ _ (do let v<-eval a c.env;Dc pos;holding [v] (unaryOp .USub v)) _ _ _);refine bv (be.seq (H.ev c σ F s a p R S h1) λv F1 s1 aY S1 r1=>?_);rw [e]at r1;refine aH.int_el r1 λt e hi=>?_;(symm;subst e);exact bv (nJ (qp (be.weakW aY (rf (J:=aO G c) h (S1.yd (aP.int S1.ok (by rw [Int.natAbs_neg];exact hi) λQ h=>P.neg_int h))))))
theorem My(h:nU b=am):behindInMarks op b=am:=by
 induction b using fw<;>first|rfl|cases h
theorem Kd(h:rC E sc σ a op b=ac r):nU b=am:=bj h λh O=>by simpa using h
theorem Xz{c:bU}(H:dp G E n)(R:bX n c.A)(S:aO G c σ F s)(h:rC E c.sc σ a op b=ac p):
  aG (aQ G.prog G.w) c.A (eval (.Compare a [op] [b] pos) c.env) (be (aO G c p.2) F (aZ G (.bool p.1))) aU s:=
 wpAny_Compare1 (cn (L5 H R S h) (λva s1 q=>cn q (λvb s2 q=>cn q (λv s3 q=>q.2.elim λF' r=>⟨F',r.1,r.2,q.1⟩) λO O z=>z) λO O z=>z) λO O z=>z) (My (Kd h))
theorem Vp{c:bU}(H:dp G E n)(R:bX n c.A)(S:aO G c σ F s)(h:rC E c.sc σ a op b=ac p):
  aG (aQ G.prog G.w) c.A (isTrue (.Compare a [op] [b] pos) c.env whole) (be (aO G c p.2) F (λO b=>b=p.1)) aU s:=
 Z8 (cn (L5 H R S h) (λva s1 q=>cn q (λvb s2 q=>cn q (λv s3 q=>q.2.elim λF' r=>by refine af q.1 ?_;exact NP ⟨F',r.1,r.2,rfl⟩) λO O z=>z) λO O z=>z) λO O z=>z) (My (Kd h))
theorem F6{G:cg}{E:bQ}{n:Nat}{c:bU}{F:bn}{σ:aA}{s:aC}{e:aK}{r:Bool×aA}(H:dp G E n)(R:bX n c.A)(S:aO G c σ F s)(hi:isTrue e c.env (eval e c.env)=(do let v<-eval e c.env;Dc e.pos;holding [v] (truthy v)))(h:BO E c.sc σ e=ac r):
  aG (aQ G.prog G.w) c.A (isTrue e c.env (eval e c.env)) (be (aO G c r.2) F (λO b=>b=r.1)) aU s:=by
 refine aX h λp h1 h=>aX h λb h2 h=>?_;refine af hi ?_;exact bv (be.seq (H.ev c σ F s e p R S h1) λv F1 s1 aY S1 r1=>bv (nJ (qp (be.weakW aY (Xf (J:=aO G c) h (S1.yd (PI S1.ok r1 h2)))))))
theorem Zy{c:bU}(H:dp G E n)(R:bX n c.A)(op:CY)(es:List aK):∀(σ:aA)(F:bn)(s:aC)(r:Bool×aA),aO G c σ F s->Cb E c.sc (E9 op) es σ=ac r->
  aG (aQ G.prog G.w) c.A (allTrue op es c.env) (be (aO G c r.2) F (λO b=>b=r.1)) aU s:=by
 induction es with
 |nil=>intro σ F s r S h;refine bG h ?_;exact cq (sL (J:=aO G c σ) S (by induction op using NZ<;>rfl))
 |cons e es ih=>
  intro σ F s r S h;refine aX h λp hp h=>?_;show aG _ _ (do
   match op,<-isTrue e c.env (eval e c.env)with
   |.And,am=>pure am
   |.Or,ag=>pure ag
   |_,_=>allTrue op es c.env) _ _ _
  refine bv (be.seq (H.ts c σ F s e p R S hp) λb F1 s1 aY S1 q=>?_);obtain⟨b',σ1⟩:=p;have q:b=b':=q;(symm;subst q);induction op using NZ<;>induction b using hO<;>first
   |exact be.weakW aY (ih σ1 F1 s1 r S1 h)
   |(refine bG h ?_;exact cq ⟨F1,aY,S1,rfl⟩)
theorem KW{c:bU}(H:dp G E n)(R:bX n c.A)(S:aO G c σ F s)(h:DH E c.sc σ o=ac p):aG (aQ G.prog G.w) c.A (evalPart o c.env) (be (aO G c p.2) F (λO v=>∃q,v=wu q/\q.map (·.1)=p.1)) aU s:=by
 induction o using kC with
 |none=>refine bG h ?_;rw [N0];exact cq (sL (J:=aO G c σ) S ⟨ae,rfl,rfl⟩)
 |some e=>
  rw [evalPart_some];refine aX h λq hq h=>jw h λi k e1 h=>?_;refine bG h ?_;refine be.seq (H.ev c σ F s e q R S hq) λv F1 s1 aY S1 r1=>?_;rw [e1]at r1;exact aH.int_el r1 λt e O=>by(symm;subst e);exact⟨F1,aY,S1,ac (i,t),rfl,rfl⟩
theorem Qh(h:LR e=ag):∃j p,e=.Constant (.int 3) j p:=by
 induction e using fw<;>first|(exact bR h;done)|skip
 rename_i k j p;induction k using Da<;>first|(exact bR h;done)|skip
 rename_i i;have h:kq i 3=ag:=h;exact⟨j,p,by exact af (of_decide_eq_true h) rfl⟩
theorem Kl{c:bU}(H:dp G E n)(R:bX n c.A)(S:aO G c σ F s)(h:tF E c.sc σ i=ac p):aG (aQ G.prog G.w) c.A (eval i c.env) (λv s'=>∃F',cJ F F'/\aO G c p.2 F' s'/\wI G F' s' v p.1) aU s:=by
 have other:∀{i:aK},(ob (E.ev c.sc σ i) λp=>ac (mA.at p.1,p.2))=ac p->aG (aQ G.prog G.w) c.A (eval i c.env) (λv s'=>∃F',cJ F F'/\aO G c p.2 F' s'/\wI G F' s' v p.1) aU s:=λh=>
  aX h λq hq h=>by refine bG h ?_;exact be.seq (H.ev c σ F s _ q R S hq) λv F1 s1 aY S1 r1=>⟨F1,aY,S1,r1⟩
 induction i using fw with
 |Slice lo hi st pos=>
  refine aX h λbC h1 h=>?_;refine wpAny_Slice (be.seq (KW H R S h1) λvl F1 s1 aY S1 e1=>?_);refine aw e1 ?_;clear e1;intro pl q2';refine ay q2' λz0 e1=>?_;clear q2';subst z0;induction st using kC with
  |none=>
   refine aX h λq2 h2 h=>?_;refine bG h ?_;refine be.seq (KW H R S1 h2) λvh F2 s2 b6 S2 e2=>?_;refine aw e2 ?_;clear e2;intro ph q1';refine ay q1' λz0 e2=>?_;clear q1';subst z0;rw [N0];exact cq ⟨F2,aY.trans b6,S2.push _ (bZ _),_,pl,ph,rfl,Z9 _ _ _ _,e1,e2⟩
  |some t=>
   refine bj h λht h=>?_;refine bV (Qh ht) λj tp z2=>?_;subst z2;induction hi using kC with
   |some hi=>exact aW h
   |none=>
    refine aX h λi0 hi0 h=>qK h λk ek h=>?_;refine bG h ?_;rw [N0];refine cq ?_;rw [evalPart_some];refine Db ?_;rw [hi0]at e1;induction pl using kC with
    |none=>exact aW e1
    |some p0=>
     obtain⟨i,u⟩:=p0;have e1:i=(k:Int):=(eJ e1).trans ek;(symm;subst e1);exact⟨F1,aY,S1.push _ (mK _),_,u,_,rfl,Z9 _ _ _ _⟩
 |_=>exact other h
theorem SW{c:bU}(H:dp G E n)(R:bX n c.A)(S:aO G c σ F s)(h:Mq E c.sc σ e i=ac r):aG (aQ G.prog G.w) c.A (eval (.Subscript e i pos) c.env) (be (aO G c r.2) F (aZ G r.1)) aU s:=by
 have fin:∀{F2:bn} {s2:aC} {v iv:aF} {d:ak} {σ2:aA},ac (d,σ2)=ac r->cJ F F2->aO G c σ2 F2 s2->aP G c.A (mM v iv) F2 s2 (aZ G d)/\tu v s2->aG (aQ G.prog G.w) c.A (NX e i v iv) (be (aO G c r.2) F (aZ G r.1)) aU s2:=λh b6 S2 y=>by
  refine bG h ?_;exact JR y.2 (be.weakW b6 (S2.yd y.1))
 refine dG h (λh=>lN h λx np en h=>bj h λhm h=>aX h λb0 hb0 h=>aX h λq h2 h=>aX h λb hb h=>aX h λd hp hh=>?_) λh=>aX h λp h1 h=>aX h λq h2 h=>aX h λd hp hh=>?_
 ·(symm;subst en)
  refine aw (S.names x b0 hb0) λv q0'=>ay q0' λhv O=>?_;clear q0';refine N3 (vg S hm hv (cn (Kl H R S h2) (λiv s2 x=>?_) λO O z=>z));refine aw x λF2 q2'=>bu q2' λb6 S2 hi=>?_;clear x q2';refine fin hh b6 S2 ?_;refine aw (S2.names _ b hb) λv' q1'=>ay q1' λhv' hbv=>?_;clear q1';have e':v'=v:=eJ (hv'.symm.trans hv);(symm;subst e');induction b using bk.casesOn with
  |fz d0=>exact Mo S2.ok hbv hi hp
  |ow d0=>
   cases hbv.1 with
   |list ho r=>exact FO S2.ok ho r hi hp
   |dict ho p r=>exact G7 S2.ok ho p r hi hp
   |inst ho h2 ne p r=>
    generalize q.1=ix at hp;induction ix using mA.casesOn with
    |«at» k=>induction k using ak.casesOn<;>exact aW (r:=d) hp
    |_=>exact aW (r:=d) hp
 ·refine N3 (be.seq (H.ev c σ F s e p R S h1) λv F1 s1 aY S1 r1=>cn (Kl H R S1 h2) (λiv s2 x=>?_) λO O z=>z)
  refine aw x λF2 q0'=>bu q0' λb6 S2 hi=>?_;clear x q0';exact fin hh (aY.trans b6) S2 (Mo S2.ok (aH.mono b6 r1) hi hp)
theorem Y6(GO:Mw G)(S:aO G c σ F s)(h:EX G.cx c.sc σ x=ac r):aG (aQ G.prog G.w) c.A (eval (.Name x pos) c.env) (be (aO G c r.2) F (aZ G r.1)) aU s:=by
 unfold EX at h;cases hm:ji c.sc x with
 |true=>
  rw [hm]at h;refine aX h λb hb h=>?_;refine bG h ?_;refine aw (S.names x b hb) λv q2'=>ay q2' λhv hbv=>?_;clear q2';refine aw (S.frz1 x) λF' q1'=>ay q1' λle S'=>?_;clear q1';have zq:=(S'.names x (.fz b.d) (by rw [uC,if_pos rfl,hb];rfl));refine aw zq λv' q0'=>ay q0' λhv' hb'=>?_;clear zq q0';exact vg S hm hv' ⟨F',le,S',hb'⟩
 |false=>
  rw [hm]at h;refine aX h λg hg h=>bj h λaB h=>?_;refine bG h ?_;cases q:ba x c.sc.names with
  |none=>rw [q]at aB;exact bR aB
  |some k=>
   rw [q]at aB;induction k using jb<;>first|(exact bR aB;done)|skip
   refine rY ?_ (S.eo.plain x _ q).1;refine af (loadName_read S.eo.kind ((rH S.eo x).trans q)) ?_;exact GO x g hg c s _ _ _ _ (λa o e=>S.ok.sat a o (S.ok.base a o e)) S.eo (sL (J:=aO G c σ) S rfl)
set_option backward.match.sparseCases false
def BY(G:cg)(F:bn)(s:aC)(v:aF)(d:ak):Prop:=aH G F v d\/∃a vals ds,v=.ref a/\s.heap.IsTuple a vals/\d=.tup ds/\br G F vals.toList ds
abbrev u9(G:cg)(c:bU)(σ:aA)(F:bn)(_:Unit)(s:aC):Prop:=gN G c σ F s
theorem gN.of(S:aO G c σ F s):gN G c σ F s:=⟨c.m,S⟩
theorem zc(S:aO G c σ F s)(hb:uq G F c s.heap v b)(hd:∀d y dy u,b=.ow d->ba y σ=ac (.ow dy)->y≠x->c.m y=ac u->∀a∈dZ s.heap v,a∉dZ s.heap u)(h:iT c.sc σ x b=ac σ'):
  aG (aQ G.prog G.w) c.A (bindName c.env x v) (u9 G c σ' F) aU s:=
 bj h λhw h=>by refine bG h ?_;exact wpAny_bindName (J8 S hw hb hd)
theorem yq(S:aO G c σ F s)(hb:aH G F v d)(h:iT c.sc σ x (.fz d)=ac σ'):aG (aQ G.prog G.w) c.A (assign (.Name x p) c.env v) (u9 G c σ' F) aU s:=by
 rw [PySem.assign_Name];exact bv (nJ (zc (b:=.fz d) S hb (λO O O O e=>nomatch e) h))
theorem Tg{c:bU}(ts:List aK):∀{ds:List ak} {σ σ':aA},zt c.sc ts σ ds=ac σ'->Dd ts c.env=ts.map (λt=>(am,assign t c.env))/\ts.length=ds.length:=by
 induction ts with
 |nil=>exact λh=>jp h λe O=>⟨rfl,by refine af e ?_;rfl⟩
 |cons t r ih=>
  intro ds σ σ' h;induction ds using dD with
  |nil=>exact aW h
  |cons d ds=>
   refine lN h λx p e h=>aX h λσ1 O hh=>?_;(symm;subst e);exact⟨by refine(?_:(am,assign (.Name x p) c.env)::Dd r c.env=_);refine af ((ih hh).1) ?_;rfl,congrArg (· +1) (ih hh).2⟩
theorem W6{c:bU}(ts:List aK):∀(ds:List ak)(vs:List aF)(m:aL->Option aF)(σ σ':aA)(s:aC),aO G (c.vl m) σ F s->br G F vs ds->zt c.sc ts σ ds=ac σ'->
  aG (aQ G.prog G.w) c.A (assignInOrder (ts.map λt=>assign t c.env) vs) (u9 G c σ' F) aU s:=by
 induction ts with
 |nil=>exact λds vs m σ σ' s S hv h=>jp h λe h=>by refine bG h ?_;subst e;(symm;subst hv);exact cq ⟨m,S⟩
 |cons t r ih=>
  intro ds vs m σ σ' s S hv h;induction ds using dD with
  |nil=>exact aW h
  |cons d ds=>
   refine hv.cons_er λv ws e hr rr=>lN h λx p et h=>aX h λσ1 h1 hh=>?_;(symm;subst e et);refine(?_:aG _ _ (do holding ws (assign (.Name x p) c.env v);assignInOrder (r.map λt=>assign t c.env) ws) _ _ _);exact bv (qp (cn (yq (c:=c.vl m) S hr h1) (λO s1 q=>q.elim λm1 S1=>ih ds ws m1 σ1 σ' s1 S1 rr hh) λO O z=>z))
theorem KE{h:cY}(x:Heap.ExtBut h.objs.size h h'):∀a o,h.get? a=ac o->h'.get? a=ac o:=λa o e=>x a o (iP (jy e)) e
theorem KG{c:bU}(R:bX n c.A)(S:aO G c σ F s)(hT:s.heap.IsTuple a vals)(hA:br G F vals.toList ds)(h:zt c.sc ts σ ds=ac σ'):
  aG (aQ G.prog G.w) c.A (assign (.Tuple ts k p) c.env (.ref a)) (u9 G c σ' F) aU s:=by
 have en:=Tg (c:=c) ts h;refine(?_:aG _ _ (do Dc p;unpack (.ref a) (Dd ts c.env)) _ _ _);refine bv (nJ ?_);have hlen:ts.length=vals.size:=by refine af en.2 (af hA.length.symm ?_);rfl
 refine wpAny_unpack_tuple R.hh hT (by rw [en.1,gj];exact hlen) (by rw [en.1];simp [List.findIdx?_eq_none_iff]) λh' he=>?_;refine af en.1 (af jB ?_);exact W6 ts ds vals.toList c.m σ σ' _ (S.ext ⟨KE he,rfl,rfl,bZ _⟩) hA h
theorem G4{c:bU}(R:bX n c.A)(S:aO G c σ F s)(hv:BY G F s v d)(ht:rL t=am->aH G F v d)(h:i7 c.sc σ t d=ac σ'):aG (aQ G.prog G.w) c.A (assign t c.env v) (u9 G c σ' F) aU s:=by
 induction t using fw<;>first|exact aW h|skip
 ·exact yq S (ht rfl) h
 ·refine rR h λds e h=>?_
  (symm;subst e);rcases hv with hv|⟨a,vals,ds',rfl,hT,hd,hA⟩
  ·exact aH.tup_el hv λa vs k e hF r=>by subst e;exact KG R S (vals:=vs.toArray) ⟨_,S.ok.sat _ _ hF,rfl,_,rfl⟩ r h
  ·cases hd;exact KG R S hT hA h
theorem RM(hn:oj f=am)(h:rS G f F fl):fl≠.next:=by
 induction f using cQ.casesOn with
 |next=>cases hn
 |ret d=>refine aw h λv q1'=>ay q1' λz0 O=>?_;clear h q1';subst z0;exact(nomatch ·)
 |_=>subst h;exact(nomatch ·)
theorem we{c:bU}(H:dp G E n)(R:bX n c.A)(ss:List bY):∀(m:aL->Option aF)(σ:aA)(F:bn)(s:aC)(r:cQ×aA),aO G (c.vl m) σ F s->b9 E c.sc ss σ=ac r->
  aG (aQ G.prog G.w) c.A (execs ss c.env) (be (gN G c r.2) F (rS G r.1)) aU s:=by
 induction ss with
 |nil=>intro m σ F s r S h;refine bG h ?_;exact zU (sL (J:=gN G c σ) ⟨m,S⟩ rfl)
 |cons st ss ih=>
  intro m σ F s r S h;refine aX h λp hp h=>zV (be.seq (H.ex (c.vl m) σ F s st p R S hp) λfl F1 s1 aY S1 f1=>?_);refine aw S1 ?_;clear S1;intro m1 S1;cases hn:oj p.1 with
  |true=>
   rw [hn]at h;obtain⟨f,σ1⟩:=p;induction f using cQ.casesOn<;>first|(exact bR hn;done)|skip
   (symm;subst f1);exact be.weakW aY (ih m1 σ1 F1 s1 r S1 h)
  |false=>
   rw [hn]at h;refine bG h ?_;have:=RM hn f1;induction fl using aaa with
   |next=>exact absurd rfl this
   |_=>exact⟨F1,aY,⟨m1,S1⟩,f1⟩
structure qv(G:cg)(A:cH)(I:bw)(cM:aK)(F0:bn)(ad:List bw)(St:List ak->cY->Prop):Prop where
 here:∀l h,St l h->kU ad h
 frame:∀l h h',St l h->(∀a∈ad,h'.get? a=h.get? a)->(∀a o,F0 a=ac o->h'.get? a=ac o)->St l h'
 item:∀d l (F:bn) (s:aC),St (d::l) s.heap->cJ F0 F->bD G F s->
  aG (aQ G.prog G.w) A (pyNext (.ref I)) (λr s1=>iK ad s s1/\kU ad s1.heap/\∃v,r=ac v/\
   aG (aQ G.prog G.w) A (De cM (.ref I) v) (λO s2=>iK ad s1 s2/\St l s2.heap/\BY G F s2 v d/\(rL cM=am->aH G F v d)) aU s1) aU s
 self:∀l (s:aC) (Q:aF->aC->Prop),St l s.heap->Q (.ref I) s->aG (aQ G.prog G.w) A (rZ (.ref I)) Q aU s
 done:∀(F:bn)(s:aC),St [] s.heap->cJ F0 F->bD G F s->aG (aQ G.prog G.w) A (pyNext (.ref I)) (λr s1=>r=ae/\iK ad s s1) aU s
theorem aO.vl(S:aO G c σ F s):aO G (c.vl c.m) σ F s:=S
theorem Pm{G:cg}{n:Nat}{c:bU}{F:bn}{σ:aA}{s:aC}{I:bw}{cM:aK}{F0:bn}{ad:List bw}{St:List ak->cY->Prop}{l:List ak}{C:ak->List ak->aA->aC->Prop}{Q:Option aF->aC->Prop}{Er:aF->aC->Prop}(W:qv G c.A I cM F0 ad St)(R:bX n c.A)(hK:∀a∈ad,c.K a=ae)(S:aO G (c.kp (dT c.K ad s.heap)) σ F s)(hst:St l s.heap)(fq:cJ F0 F)(hN:l=[]->∀s1,aO G c σ F s1->Q ae s1)(hA:∀d r,l=d::r->∃σ1,i7 c.sc σ cM d=ac σ1)(hC:∀d r σ1,l=d::r->i7 c.sc σ cM d=ac σ1->∀m s1,aO G ((c.kp (dT c.K ad s1.heap)).vl m) σ1 F s1->St r s1.heap->C d r σ1 s1)(hQ:∀d r σ1 v s1,l=d::r->i7 c.sc σ cM d=ac σ1->aG (aQ G.prog G.w) c.A (De cM (.ref I) v) (λO s2=>aG (aQ G.prog G.w) c.A (assign cM c.env v) (λO s3=>C d r σ1 s3) aU s2) aU s1->Q (ac v) s1):
  aG (aQ G.prog G.w) c.A (pyNext (.ref I)) Q Er s:=by
 induction l using dD with
 |nil=>exact nu (cn (W.done F s hst fq S.ok) (λr s1 q=>by refine af q.1 ?_;exact hN rfl s1 ((S.moves q.2 (W.here _ _ hst)).dropKeep (c:=c) hK)) λO O z=>z)
 |cons d r=>
  refine aw (hA d r rfl) λσ1 hσ=>?_;refine nu (cn (W.item d r F s hst fq S.ok) (λo s1 q=>?_) λO O z=>z);refine bu q ?_;clear q;intro m1 h1 q2';refine aw q2' λv q0'=>ay q0' λz0 q=>?_;clear q2' q0';subst z0;have S1:=S.moves m1 (W.here _ _ hst);refine hQ d r σ1 v s1 rfl hσ (cn q (λO s2 q=>?_) λO O z=>z);refine dH q λm2 st2 fed nt=>?_;clear q;have S2:=S1.moves m2 h1;refine cn (G4 (c:=c.kp (dT c.K ad s2.heap)) R S2 fed nt hσ) (λO s3 S3=>?_) λO O z=>z;refine aw S3 ?_;clear S3;intro m3 S3;have e3:=rB (c:=c.vl m3) S3 λa ha=>(W.here _ _ st2 a ha).1;have S3':aO G ((c.kp (dT c.K ad s3.heap)).vl m3) σ1 F s3:=by refine af (uf e3) ?_;exact S3
  exact hC d r σ1 rfl hσ m3 s3 S3' (W.frame _ _ _ st2 e3 λa o e=>S3.ok.sat a o (fq a o e))
theorem Qw{G:cg}{c:bU}{F:bn}{σ:aA}{s:aC}{I:bw}{cM:aK}{F0:bn}{ad:List bw}{St:List ak->cY->Prop}{l:List ak}{m:aL->Option aF}{h:cY}(W:qv G c.A I cM F0 ad St)(hst:St l h)(S:aO G ((c.kp (dT c.K ad h)).vl m) σ F s)(fq:cJ F0 F):aO G ((c.kp (dT c.K ad s.heap)).vl m) σ F s/\St l s.heap:=by
 have e:=rB (c:=c.vl m) S λa ha=>(W.here _ _ hst a ha).1;exact⟨by refine af (uf e) ?_;exact S,W.frame _ _ _ hst e λa o q=>S.ok.sat a o (fq a o q)⟩
theorem Xq{G:cg}{E:bQ}{n:Nat}{c:bU}{F:bn}{σ:aA}{s:aC}{I:bw}{cM:aK}{F0:bn}{ad:List bw}{St:List ak->cY->Prop}{l:List ak}{body:List bY}{r:cQ×aA}(H:dp G E n)(R:bX n c.A)(W:qv G c.A I cM F0 ad St)(hK:∀a∈ad,c.K a=ae)(h:lO E c.sc cM body l σ=ac r)(S:aO G (c.kp (dT c.K ad s.heap)) σ F s)(hst:St l s.heap)(fq:cJ F0 F):
  lr (aQ G.prog G.w) c.A (.forLoop cM (.ref I) body [] c.env) (λx s'=>∃fl,x=.ok fl/\be (gN G c r.2) F (rS G r.1) fl s') s:=by
 refine codeAny_forLoop_any (λj s1=>∃l F1 m1 σ1,j=l.length/\cJ F F1/\aO G ((c.kp (dT c.K ad s1.heap)).vl m1) σ1 F1 s1/\St l s1.heap/\lO E c.sc cM body l σ1=ac r) ?_ l.length ⟨l,F,c.m,σ,rfl,.rfl,S,hst,h⟩
 rintro j s1 ⟨l,F1,m1,σ1,rfl,aY,S1,hst1,h1⟩
 refine Pm (c:=c.vl m1) (C:=λd r' σ2 s3=>aG (aQ G.prog G.w) c.A (execs body c.env) (λfl s5=>match fl with
    |.next|.cont=>∃m,m<l.length/\∃l F1 m1 σ1,m=l.length/\cJ F F1/\aO G ((c.kp (dT c.K ad s5.heap)).vl m1) σ1 F1 s5/\St l s5.heap/\lO E c.sc cM body l σ1=ac r
    |.brk=>∃fl,r7 Flow.next=r7 (ε:=aF) fl/\be (gN G c r.2) F (rS G r.1) fl s5
    |.ret v=>∃fl,r7 (N4 v)=r7 (ε:=aF) fl/\be (gN G c r.2) F (rS G r.1) fl s5) aU s3) W R hK S1 hst1 (fq.trans aY) (λe s2 S2=>?_) (λd r' e=>?_) (λd r' σ2 e ha m2 s2 S2 hst2=>?_) (λd r' σ2 v s2 e ha q=>?_)
 ·subst e
  refine bG h1 ?_;exact zU ⟨_,rfl,F1,aY,⟨m1,S2⟩,rfl⟩
 ·subst e
  exact aX h1 λσ2 ha O=>⟨σ2,ha⟩
 ·subst e
  refine aX h1 λσ2' ha' h1=>aX h1 λp hp h1=>?_;have e:σ2'=σ2:=eJ (ha'.symm.trans ha);(symm;subst e);refine be.seq (we (c:=c.kp (dT c.K ad s2.heap)) H R body m2 σ2' F1 s2 p S2 hp) λfl F5 s5 l5 S5 f5=>?_;refine aw S5 ?_;clear S5;intro m5 S5;refine ay (Qw (c:=c) W hst2 S5 ((fq.trans aY).trans l5)) λS5' st5=>?_;obtain⟨f,σ5⟩:=p;induction f using cQ.casesOn with
  |next=>subst f5;exact⟨r'.length,mP _,r',F5,m5,σ5,rfl,aY.trans l5,S5',st5,h1⟩
  |cont=>subst f5;exact⟨r'.length,mP _,r',F5,m5,σ5,rfl,aY.trans l5,S5',st5,h1⟩
  |brk=>subst f5;refine bG h1 ?_;exact⟨_,rfl,F5,aY.trans l5,⟨m5,S5'.dropKeep (c:=c.vl m5) hK⟩,rfl⟩
  |ret d=>refine aw f5 λv q1'=>ay q1' λz0 rv=>?_;clear f5 q1';subst z0;refine bG h1 ?_;exact⟨_,rfl,F5,aY.trans l5,⟨m5,S5'.dropKeep (c:=c.vl m5) hK⟩,v,rfl,rv⟩
 ·exact nu (cn q (λO s3 q=>nu (cn q (λO s4 q=>nu q) λO O z=>z)) λO O z=>z)
theorem Rn{c:bU}(H:dp G E n)(R:bX n c.A)(S:aO G c σ F s)(h:sQ E c.sc t body k σ=ac r):
  lr (aQ G.prog G.w) c.A (.whileLoop t body [] c.env) (λx s'=>∃fl,x=.ok fl/\be (gN G c r.2) F (rS G r.1) fl s') s:=by
 refine codeAny_whileLoop (λk s1=>∃F1 m1 σ1,cJ F F1/\aO G (c.vl m1) σ1 F1 s1/\sQ E c.sc t body k σ1=ac r) ?_ k ⟨F,c.m,σ,.rfl,S,h⟩
 rintro j s1 ⟨F1,m1,σ1,aY,S1,h1⟩
 induction j using j8 with
 |zero=>exact aW h1
 |succ j=>
  refine aX h1 λp hp h1=>nu (be.seq (H.ts (c.vl m1) σ1 F1 s1 t p R S1 hp) λb F2 s2 b6 S2 e=>?_);obtain⟨b',σ2⟩:=p;have e:b=b':=e;(symm;subst e);induction b using hO with
  |false=>refine bG h1 ?_;exact zU ⟨_,rfl,F2,aY.trans b6,⟨m1,S2⟩,rfl⟩
  |true=>
   refine aX h1 λq hq h1=>nu (be.seq (we (c:=c) H R body m1 σ2 F2 s2 q S2 hq) λfl F3 s3 sY S3 f3=>?_);refine aw S3 ?_;clear S3;intro m3 S3;obtain⟨f,σ3⟩:=q;have l13:=aY.trans (b6.trans sY);induction f using cQ.casesOn with
   |next=>(symm;subst f3);exact⟨j,mP j,F3,m3,σ3,l13,S3,h1⟩
   |cont=>(symm;subst f3);exact⟨j,mP j,F3,m3,σ3,l13,S3,h1⟩
   |brk=>(symm;subst f3);refine bG h1 ?_;exact⟨_,rfl,F3,l13,⟨m3,S3⟩,rfl⟩
   |ret d=>refine aw f3 λv q0'=>ay q0' λz0 rv=>?_;clear f3 q0';subst z0;refine bG h1 ?_;exact⟨_,rfl,F3,l13,⟨m3,S3⟩,v,rfl,rv⟩
theorem v9{α:Type}{b:α}(l:List (aL×α))(h:ba x l=ac b):(x,b)∈l:=by
 induction l with
 |nil=>exact aW h
 |cons p r ih=>
  rw [g9]at h;by_cases q:x=p.1
  ·rw [if_pos q]at h;refine bG h ?_;refine af q ?_;exact ck
  ·rw [if_neg q]at h;exact cW _ (ih h)
theorem Fw(h:pM (p::r)=ag):ba p.1 r=ae/\pM r=ag:=by
 change@dL dh (λO=>Bool) (pM r) (λO=>am) (ba p.1 r)=ag at h;cases q:ba p.1 r with
 |none=>rw [q]at h;exact⟨rfl,h⟩
 |some k=>rw [q]at h;exact bR h
theorem BH(l:List (aL×dh))(ho:pM l=ag)(h:(x,k)∈l):ba x l=ac k:=by
 induction l with
 |nil=>cases h
 |cons p r ih=>
  refine ay (Fw ho) λh1 h2=>?_;rw [g9];rcases cI.mp h with e|e
  ·subst e;exact af (if_pos rfl) rfl
  ·have:=ih h2 e
   refine af (if_neg λq=>by rw [<-q,this]at h1;cases h1) ?_;exact this
def mY(env:gX)(l:List (aL×dh)):List (aL×bw)->List (aL×bw):=@bW (aL×dh) (λO=>List (aL×bw)->List (aL×bw)) (λacc=>acc) (λp O ih acc=>ih (aN acc ((p.1,(env.cells.lookup p.1).getD 0)::acc) (pk p.2))) l
theorem UD(scope:iY)(env:gX)(h:∀x,(x,r8)∈scope.names->∃c,env.cells.lookup x=ac c):N5 scope env=pure (mY env scope.names []):=by
 have aux:∀(l:List (aL×dh))(acc:List (aL×bw)),(∀x,(x,r8)∈l->∃c,env.cells.lookup x=ac c)->
   (forIn l acc λ(x:aL×dh) r=>(if(x.2== .free)=ag then(do let a<-cellOf env x.1;pure (zW ((x.1,a)::r)))else pure (zW r):gw _))=pure (mY env l acc):=by
  intro l;induction l with
  |nil=>intro acc _;rfl
  |cons p l ih=>
   obtain⟨x,k⟩:=p;intro acc hl;have ih:=λacc=>ih acc λy hy=>hl y (cW _ hy);rw [N6];induction k using jb with
   |free=>
    refine aw (hl x (ck)) λa ha=>?_;have e:cellOf env x=pure a:=by unfold cellOf;exact af ha rfl
    have e3:mY env ((x,.free)::l) acc=mY env l ((x,a)::acc):=by refine(?_:mY env l ((x,(env.cells.lookup x).getD 0)::acc)=_);rw [ha];rfl
    rw [e3,e];exact ih _
   |_=>exact ih acc
 have:=aux scope.names [] h;unfold N5
 first|exact this|simpa using this
theorem LB(l:List (aL×dh)):∀{acc:List (aL×bw)},pM l=ag->(mY env l acc).lookup x=if ba x l=ac .free then ac ((env.cells.lookup x).getD 0)else acc.lookup x:=by
 induction l with
 |nil=>intro acc _;rfl
 |cons p r ih=>
  intro acc h;refine ay (Fw h) λh1 h2=>?_;have ih:=@ih (@aN (λO=>List (aL×bw)) acc ((p.1,(env.cells.lookup p.1).getD 0)::acc) (pk p.2)) h2;refine(?_:(mY env r _).lookup x=_);rw [ih,g9];by_cases q:x=p.1
  ·rw [if_pos q,q,h1,if_neg (nomatch ·)]
   obtain⟨y,k⟩:=p;induction k using jb with
   |free=>refine af (if_pos rfl) ?_;exact aab
   |_=>refine af (if_neg λe=>nomatch e) ?_;rfl
  ·rw [if_neg q]
   by_cases e:ba x r=ac .free
   ·exact af (if_pos e) (af (if_pos e) rfl)
   ·refine af (if_neg e) (af (if_neg e) ?_)
    obtain⟨y,k⟩:=p;induction k using jb with
    |free=>exact(zO ..).trans (by exact af (beq_eq_false_iff_ne.mpr q) rfl)
    |_=>rfl
theorem As{x:aL}(l:List (aL×dh)):∀{acc:List (aL×bw)} {j:Nat},pM l=ag->
  (ba x l=ac .cell->∃a,(qq j l acc).lookup x=ac a/\j<=a/\∀acc',(qq j l acc').lookup x=ac a)/\(ba x l≠ac .cell->(qq j l acc).lookup x=acc.lookup x):=by
 induction l with
 |nil=>exact λO=>⟨(nomatch ·),λO=>rfl⟩
 |cons p r ih=>
  intro acc j h;refine ay (Fw h) λh1 h2=>?_;rw [g9];obtain⟨y,k⟩:=p;by_cases q:x=y
  ·subst q
   rw [if_pos rfl];induction k using jb with
   |cell=>
    have e:∀acc',(qq j ((x,.cell)::r) acc').lookup x=ac j:=λacc'=>((@ih ((x,j)::acc') (j+1) h2).2 (by refine af h1 ?_;exact(nomatch ·))).trans aab;exact⟨λO=>⟨j,e acc,bZ _,e⟩,λn=>absurd rfl n⟩
   |_=>exact⟨(nomatch ·),λO=>(@ih acc j h2).2 (by refine af h1 ?_;exact(nomatch ·))⟩
  ·rw [if_neg q]
   induction k using jb with
   |cell=>
    have:=@ih ((y,j)::acc) (j+1) h2;exact⟨λe=>(this.1 e).imp λa p=>⟨p.1,vF p.2.1,λacc'=>p.2.2 ((y,j)::acc')⟩,λn=>(this.2 n).trans ((zO ..).trans (by exact af (beq_eq_false_iff_ne.mpr q) rfl))⟩
   |_=>exact@ih acc j h2
def xY(o:List (aL×dh))(x:aL)(k:dh):dh:=aN k (aN k .cell (dL am qD (ba x o))) (pk k)
theorem Va(l:List (aL×dh)):ba x (uF o l)=(ba x l).map (xY o x):=by
 induction l with
 |nil=>rfl
 |cons p r ih=>
  refine(?_:ba x ((p.1,xY o p.1 p.2)::uF o r)=_);rw [g9,g9,ih];by_cases q:x=p.1
  ·rw [if_pos q,if_pos q,q];rfl
  ·rw [if_neg q,if_neg q]
theorem YJ(h:xY o x k=k'):k=k'\/k=.free/\k'=.cell:=by
 induction k using jb<;>first|exact .inl h|skip
 unfold xY at h;change@aN (λO=>dh) .free .cell (dL am qD (ba x o))=k' at h;cases q:(@dL dh (λO=>Bool) am qD (ba x o))with
 |false=>rw [q]at h;exact .inl h
 |true=>rw [q]at h;exact .inr ⟨rfl,h.symm⟩
theorem CG(h:ba x (uF o l)=ac k):ba x l=ac k\/ba x l=ac .free/\k=.cell:=by
 rw [Va]at h;refine aw (C9.mp h) λk0 q2'=>ay q2' λh0 h1=>?_;clear q2';rcases YJ h1 with rfl|⟨rfl,e⟩
 ·exact .inl h0
 ·exact .inr ⟨h0,e⟩
theorem Ve(eo:rg c)(scope:iY):(relabel scope c.env).names=uF c.sc.names scope.names:=by
 refine(?_:scope.names.map _=_);have aB:(c.env.scope.kind==ScopeKind.function)=ag:=by refine af eo.kind ?_;rfl
 generalize scope.names=l;induction l with
 |nil=>rfl
 |cons p l ih=>
  obtain⟨x,k⟩:=p;refine af qm (af ih ?_);refine(?_:_::_=(x,xY c.sc.names x k)::uF c.sc.names l);congr 1;induction k using jb with
  |free=>
   refine(?_:(if(r8==r8&&c.env.scope.kind== .function&&c.env.kindOf x==ac .cell)=ag then(x,aac)else(x,r8))=(x,@aN (λO=>dh) .free .cell (dL am qD (ba x c.sc.names))));refine af aB (af (rH eo x) ?_);cases ba x c.sc.names with
   |none=>rfl
   |some k=>induction k using jb<;>rfl
  |_=>rfl
theorem GS(l:List (aL×dh))(hp:wi l=ag)(h:ba x l=ac k):(x==("__debug__":aL))=am/\(x==("__classdict__":aL))=am:=by
 induction l with
 |nil=>exact aW h
 |cons p r ih=>
  have hp:(!d8 p.1 "__debug__"&&(!d8 p.1 "__classdict__"&&wi r))=ag:=hp;refine ay (cZ.mp hp) λh1 h2=>?_;refine ay (cZ.mp h2) λh2 h3=>?_;rw [g9]at h;by_cases q:x=p.1
  ·refine af q ?_;exact⟨beq_eq_false_iff_ne.mpr (IU (by simpa using h1)),beq_eq_false_iff_ne.mpr (IU (by simpa using h2))⟩
  ·rw [if_neg q]at h;exact ih h3 h
theorem VX(l:List (aL×dh))(h:has x (qW l)=ag):(x,aac)∈l:=by
 induction l with
 |nil=>exact bR h
 |cons p r ih=>
  obtain⟨y,k⟩:=p;induction k using jb with
  |cell=>
   have h:has x (y::qW r)=ag:=h;rw [yW]at h;rcases cI.mp h with e|h
   ·refine af e ?_;exact ck
   ·exact cW _ (ih ((yW _).mpr h))
  |_=>exact cW _ (ih h)
theorem LF(l:List (aL×dh))(h:ba x (kN l σ)=ac b):(x,r8)∈l/\∃b0,ba x σ=ac b0/\b=.fz b0.d:=by
 induction l with
 |nil=>exact aW h
 |cons p r ih=>
  obtain⟨y,k⟩:=p;have up:=λh=>(ih h).imp (λm=>cW (y,k) m) id;induction k using jb with
  |free=>
   change ba x (@dL bk (λO=>aA) (kN r σ) (λb=>(y,.fz b.d)::kN r σ) (ba y σ))=ac b at h;cases q:ba y σ with
   |none=>rw [q]at h;exact up h
   |some b0=>
    rw [q,g9]at h;by_cases e:x=y
    ·rw [if_pos e]at h;refine bG h ?_;refine af e ?_;exact⟨ck,b0,q,rfl⟩
    ·rw [if_neg e]at h;exact up h
  |_=>exact up h
theorem Y4(l:List (aL×dh))(hf:A5 o l=ag)(h:(x,r8)∈l):ba x o=ac .cell\/ba x o=ac .free:=by
 induction l with
 |nil=>cases h
 |cons p r ih=>
  obtain⟨y,k⟩:=p;induction k using jb with
  |free=>
   change@dL dh (λO=>Bool) am (λk=>@aN (λO=>Bool) am (A5 o r) (qD k||pk k)) (ba y o)=ag at hf;cases q:ba y o with
   |none=>rw [q]at hf;exact bR hf
   |some k=>
    rw [q]at hf;rcases cI.mp h with e|e
    ·cases e;refine af q ?_;induction k using jb<;>first|exact .inl rfl|exact .inr rfl|cases hf
    ·induction k using jb<;>first|exact ih hf e|cases hf
  |_=>
   rcases cI.mp h with e|e
   ·cases e
   ·exact ih hf e
structure xo(sc:cC)(scope:iY)(it:aK):Prop where
 kind:scope.kind=.function
 set:nU it=am
 frees:A5 sc.names scope.names=ag
 once:pM scope.names=ag
 plain:wi scope.names=ag
theorem xo.of(h:w6 sc scope it=ag):xo sc scope it:=by
 unfold w6 at h;refine ay (cZ.mp h) λh1 h=>?_;refine ay (cZ.mp h) λh2 h=>?_;refine ay (cZ.mp h) λh3 h=>?_;refine ay (cZ.mp h) λh4 h5=>?_;refine⟨?_,by simpa using h2,h3,h4,h5⟩;generalize scope.kind=k at h1;cases k<;>first|rfl|exact bR h1
theorem aO.frz(l:List (aL×dh)):∀{F:bn} {σ:aA},aO G c σ F s->∃F',cJ F F'/\aO G c (frz l σ) F' s:=by
 induction l with
 |nil=>exact λS=>⟨_,.rfl,S⟩
 |cons p r ih=>
  intro F σ S;obtain⟨y,k⟩:=p;induction k using jb with
  |free=>
   refine aw (S.frz1 y) λF1 q1'=>ay q1' λaY S1=>?_;clear q1';refine aw (ih S1) λF2 q0'=>ay q0' λb6 S2=>?_;clear q0';exact⟨F2,aY.trans b6,S2⟩
  |_=>exact ih S
theorem QY(l:List (aL×dh)):∀{σ:aA} {b:bk},ba x (frz l σ)=ac b->∃b0,ba x σ=ac b0/\(b=b0\/b=.fz b0.d)/\((x,r8)∈l->b=.fz b0.d):=by
 induction l with
 |nil=>exact λh=>⟨_,h,.inl rfl,(nomatch ·)⟩
 |cons p r ih=>
  intro σ b h;obtain⟨y,k⟩:=p;induction k using jb with
  |free=>
   refine aw (ih (σ:=frz1 y σ) h) λb1 q2'=>bu q2' λh1 h2 h3=>?_;clear q2';rw [uC]at h1;by_cases q:x=y
   ·rw [if_pos q]at h1
    refine aw (C9.mp h1) λb0 q1'=>ay q1' λh0 e=>?_;clear q1';subst e;have e:b=.fz b0.d:=h2.elim id id;exact⟨b0,h0,.inr e,λO=>e⟩
   ·rw [if_neg q]at h1
    exact⟨b1,h1,h2,λm=>h3 ((cI.mp m).resolve_left λe=>q (by cases e;rfl))⟩
  |_=>
   refine aw (ih (σ:=σ) h) λb0 q0'=>bu q0' λh0 h2 h3=>?_;clear q0';exact⟨b0,h0,h2,λm=>h3 ((cI.mp m).resolve_left (nomatch ·))⟩
theorem abL(l:List (aL×dh)):∀{σ:aA} {b:bk},ba x σ=ac b->∃b',ba x (frz l σ)=ac b'/\b'.d=b.d:=by
 induction l with
 |nil=>exact λh=>⟨_,h,rfl⟩
 |cons p r ih=>
  intro σ b h;obtain⟨y,k⟩:=p;induction k using jb with
  |free=>
   by_cases q:x=y
   ·have zq:=(ih (σ:=frz1 y σ) (b:=.fz b.d) (by rw [uC,if_pos q,h];rfl));refine aw zq λb' q2'=>ay q2' λh1 h2=>?_;clear zq q2'
    exact⟨b',h1,h2⟩
   ·exact ih (σ:=frz1 y σ) (by rw [uC,if_neg q];exact h)
  |_=>exact ih h
def MZ(scope:iY)(env:gX)(C:bw):gX:=
 {scope,locals:=C,globals:=env.globals,cells:=qq (C+1) scope.names (mY env scope.names []),qual:=env.qual,func:=ae,code:=env.code,frame:=env.frame,builtins:=env.builtins}
noncomputable def gZ:aJ:={cls:=.type "dict",data:=.dict #[]}
theorem Qq{s:aC}{Q:gX->aC->Prop}(h:Q (MZ scope env s.heap.objs.size) {s with heap:=qr (s.heap.push gZ) scope.names}):
  aG M A (newFunctionEnv scope env.globals (mY env scope.names []) [] env.qual ae .none (ac env)) Q Er s:=by
 simp only [newFunctionEnv,Option.isSome_some,if_true];refine bv (wpAny_alloc (bv (wpAny_layCells _ (λname kind cells=>?_) scope.names _ _ _ ?_)))
 ·rfl
 ·refine af N7 ?_
  have e:(s.heap.push gZ).objs.size=s.heap.objs.size+1:=nM ..;refine bv (cq (cq ?_));refine(?_:Q {scope,locals:=s.heap.objs.size,globals:=env.globals,cells:=qq (s.heap.push gZ).objs.size scope.names (mY env scope.names []),qual:=env.qual,func:=ae,code:=env.code,frame:=env.frame,builtins:=env.builtins} _);refine af e ?_;exact h
open Classical in
noncomputable def kY(G:cg)(F:bn)(ad:List bw)(h:cY):bn:=λa=>if F a=ae/\(∀p∈G.tabs,p.P≠a)/\a∉ad then h.get? a else ae
theorem xv{G:cg}{F:bn}{ad:List bw}{h:cY}{a:bw}{o:aJ}(e:kY G F ad h a=ac o):h.get? a=ac o/\F a=ae/\(∀p∈G.tabs,p.P≠a)/\a∉ad:=by
 unfold kY at e;split at e
 ·exact⟨e,‹_›⟩
 ·exact aW e
theorem ET{G:cg}{F:bn}{ad:List bw}{h:cY}(e:h.get? a=ac o)(q:F a=ae/\(∀p∈G.tabs,p.P≠a)/\a∉ad):kY G F ad h a=ac o:=(if_pos q).trans e
theorem rI{G:cg}{F:bn}{ad:List bw}{h:cY}(e:∀o,h.get? a=ac o->F a=ae->(∀p∈G.tabs,p.P≠a)->a∉ad->False):kY G F ad h a=ae:=by
 cases q:kY G F ad h a with
 |none=>rfl
 |some o=>exact(e o (xv q).1 (xv q).2.1 (xv q).2.2.1 (xv q).2.2.2).elim
theorem CH{scope:iY}(ho:pM scope.names=ag)(C:bw)(h:(qq (C+1) scope.names (mY env scope.names [])).lookup x=ac a):
  (ba x scope.names=ac .cell/\C+1<=a/\(qq (C+1) scope.names []).lookup x=ac a)\/(ba x scope.names=ac .free/\a=(env.cells.lookup x).getD 0):=by
 have lf:=@As x scope.names (mY env scope.names []) (C+1) ho;by_cases q:ba x scope.names=ac .cell
 ·refine aw (lf.1 q) λa' q1'=>bu q1' λh1 h2 h3=>?_;clear q1'
  rw [h1]at h;refine bG h ?_;exact .inl ⟨q,h2,h3 []⟩
 ·rw [lf.2 q,LB scope.names ho]at h
  by_cases e:ba x scope.names=ac .free
  ·rw [if_pos e]at h;refine bG h ?_;exact .inr ⟨e,rfl⟩
  ·rw [if_neg e]at h;exact aW h
theorem Uo(names:List (aL×dh))(k:Nat):(qq k names []).Pairwise λx y=>x.2≠y.2:=by
 have:=(cellsFrom_ok names ({objs:=cX k default}:cY) 0 [] ⟨λO O h=>(nomatch h),.nil⟩ (eG _)).apart;simpa using this
def yT(scope:iY)(m:aL->Option aF)(x:aL):Option aF:=if ba x scope.names=ac .free then m x else ae
def bU.comp(c:bU)(scope:iY)(C:bw)(K:bn):bU:={A:=c.A,env:={MZ scope c.env C with scope:=relabel scope c.env},sc:=mi c.sc scope,K:=K,m:=yT scope c.m,fx:=ae}
theorem GZ{c:bU}{x:aL}{scope:iY}{it:aK}(eo:rg c)(ok:xo c.sc scope it)(h:ba x scope.names=ac .free):∃a,c.env.cells.lookup x=ac a:=by
 rcases Y4 scope.names ok.frees (v9 _ h)with q|q
 ·exact eo.cells x _ q (.inl rfl)
 ·exact eo.cells x _ q (.inr rfl)
theorem Wz{c:bU}{K:bn}{scope:iY}{it:aK}(eo:rg c)(ok:xo c.sc scope it)(C:bw)(hC:∀x a,c.env.cells.lookup x=ac a->a<C):rg (c.comp scope C K):=by
 have fc:=λx=>@GZ c x scope it eo ok;have apart:∀{a a':bw} {y:aL},C+1<=a->ba y scope.names=ac .free->a'=(c.env.cells.lookup y).getD 0->a≠a':=λ{a a' y} le hy e q=>by
  refine aw (fc y hy) λb hb=>?_;rw [hb]at e;exact absurd (kA (zX (hC y b hb)) le) (by refine af q (af e ?_);exact vt b)
 refine⟨ok.kind,Ve eo scope,eo.globals,eo.builtins,λx k h hor=>?_,λx y a hx hy=>?_,λx a hx hl=>?_,λx k h=>(CG h).elim (GS _ ok.plain) λq=>GS _ ok.plain q.1⟩
 ·have lf:=@As x scope.names (mY c.env scope.names []) (C+1) ok.once
  by_cases q:ba x scope.names=ac .cell
  ·exact(lf.1 q).imp λa p=>p.1
  ·have hf:ba x scope.names=ac .free:=(CG h).elim (λe=>hor.elim (λe'=>absurd (e'▸e) q) λe'=>e'▸e) λe=>e.1
   exact⟨_,(lf.2 q).trans ((LB _ ok.once).trans (if_pos hf))⟩
 ·rcases CH ok.once C hx with⟨kx,lx,ex⟩|⟨kx,ex⟩<;>rcases CH ok.once C hy with⟨ky,ly,ey⟩|⟨ky,ey⟩
  ·exact name_of_addr (Uo scope.names (C+1)) (mem_of_lookup ex) (mem_of_lookup ey)
  ·exact absurd rfl (apart lx ky ey)
  ·exact absurd rfl (apart ly kx ex)
  ·refine aw (fc x kx) λa1 h1=>?_
   refine aw (fc y ky) λa2 h2=>?_;rw [h1]at ex;rw [h2]at ey;exact eo.inj x y a (ex▸h1) (ey▸h2)
 ·have hl':ba x scope.names=ac .local:=(CG hl).elim id λe=>nomatch e.2
  rcases CH ok.once C hx with⟨kx,_⟩|⟨kx,_⟩<;>(rw [hl']at kx;cases kx)
theorem yR{h:cY}(e:h.get? a=ac o):(qr h names).get? a=ac o:=pushCells_keeps names h a o e
theorem Yb(S:aO G c σ F s)(ok:xo c.sc scope it){ad:List bw}(k3:iD s s3)(hnew:∀a∈ad,s.heap.get? a=ae)(hhere:∀a∈ad,∃o,s3.heap.get? a=ac o)(hfz:∀x b,(x,r8)∈scope.names->ba x σ=ac b->∃d,b=.fz d):
  aO G (c.comp scope s3.heap.objs.size (dT (kY G F ad s3.heap) ad (qr (s3.heap.push gZ) scope.names))) (kN scope.names σ) F {s3 with heap:=qr (s3.heap.push gZ) scope.names}:=by
 have k34:∀a o,s3.heap.get? a=ac o->(qr (s3.heap.push gZ) scope.names).get? a=ac o:=λa o e=>yR (eN _ e);have sNone:∀a,s3.heap.get? a=ae->s.heap.get? a=ae:=λa e=>by
  cases hq:s.heap.get? a with
  |none=>rfl
  |some o=>rw [k3.keep a o hq]at e;exact mD e
 have hPad:∀p∈G.tabs,p.P∉ad:=λp hp ha=>S.ok.notab (hnew _ ha) p hp rfl;have nK:∀a,s3.heap.get? a=ae->dT (kY G F ad s3.heap) ad (qr (s3.heap.push gZ) scope.names) a=ae:=λa e=>by
  refine af (kW λha=>by refine aw (hhere a ha) λo q=>?_;rw [e]at q;exact aW q) ?_;exact rI λo q O O O=>by rw [e]at q;exact aW q
 have lt:∀a o,s.heap.get? a=ac o->a<s3.heap.objs.size:=λa o e=>jy (k3.keep a o e);refine⟨Wz S.eo ok _ λx a hx=>by refine ay (S.cells x a hx) λz0 O=>aw z0 λo q0'=>ay q0' λho O=>?_;clear z0 q0';exact lt a o ho,S.ok.keeps ⟨λa o e=>k34 a o (k3.keep a o e),k3.os,k3.gens,k3.toks⟩,λa o e=>?_,λa o e=>?_,λp hp=>?_,⟨λO=>ae,?_,λx hx=>?_⟩,⟨S.ok.fresh (sNone _ (fW _)),nK _ (fW _),S.ok.notab (sNone _ (fW _))⟩,
  λx a e=>?_,λx b e=>?_,λx y dx dy v u hx=>?_,λO O h=>(aW h),S.tb⟩
 ·by_cases ha:a∈ad
  ·exact(pv ha).symm.trans e
  ·exact k34 a o (xv ((kW ha).symm.trans e)).1
 ·have ha:a∉ad:=λq=>by have:=S.ok.sat a o e;rw [hnew a q]at this;exact aW this
  exact(kW ha).trans (rI λo' O f O O=>by rw [e]at f;cases f)
 ·exact(kW (hPad p hp)).trans (rI λo' O O t O=>t p hp rfl)
 ·exact(Heap.Ns.new s3.heap (.type "dict")).keeps λb o e=>yR e
 ·have hl:ba x scope.names=ac .local:=(CG hx).elim id λe=>nomatch e.2
  exact(if_neg λe=>by rw [hl]at e;cases e).symm
 ·rcases CH ok.once _ e with⟨kx,lx,ex⟩|⟨kx,ex⟩
  ·have hz:(s3.heap.push gZ).objs.size=s3.heap.objs.size+1:=nM ..
   have okc:=cellsFrom_ok scope.names (s3.heap.push gZ) (s3.heap.objs.size+1) [] ⟨λO O h=>(nomatch h),.nil⟩ (by refine af hz ?_;exact bZ _);rw [hz]at okc;have hcell:=(okc.empty x a (mem_of_lookup ex)).1;have hcn:s3.heap.get? a=ae:=by
    cases hq:s3.heap.get? a with
    |none=>rfl
    |some o=>exact absurd (kA (zX (jy hq)) lx) (vt _)
   refine⟨?_,S.ok.fresh (sNone a hcn),S.ok.notab (sNone a hcn),λO=>nK a hcn⟩;have:yT scope c.m x=ae:=if_neg λe=>by rw [kx]at e;cases e
   refine(?_:(qr (s3.heap.push gZ) scope.names).IsCell a (yT scope c.m x));refine af this ?_;exact hcell
  ·refine aw (GZ S.eo ok kx) λa' ha'=>?_
   rw [ha']at ex;have ex:a=a':=ex;(symm;subst ex);refine dH (S.cells x a ha') λz0 h3 h4 h5=>aw z0 λo q2'=>ay q2' λh1 h2=>?_;clear z0 q2';refine⟨⟨o,k34 _ _ (k3.keep _ _ h1),?_⟩,h3,h4,λhw=>?_⟩
   ·have:yT scope c.m x=c.m x:=if_pos kx
    refine(?_:o.data=.cell (yT scope c.m x));refine af this ?_;exact h2
   ·have:=BH _ ok.once (VX _ hw)
    rw [kx]at this;cases this
 ·refine ay (LF _ e) λhmem q0'=>aw q0' λb0 q1'=>ay q1' λhb0 z1=>?_;clear q0' q1';subst z1
  refine aw (hfz x b0 hmem hb0) λd z1=>?_;subst z1;refine aw (S.names x _ hb0) λv q2'=>ay q2' λhv hr=>?_;clear q2';exact⟨v,(if_pos (BH _ ok.once hmem)).trans hv,hr⟩
 ·refine ay (LF _ hx) λO q0'=>aw q0' λb0 q1'=>ay q1' λO e=>?_;clear q0' q1'
  cases e
theorem Xm{ci:bU}{ad:List bw}{D0:bw}(hok:bD G F s)(k3:iD s s3)(hnew:∀a∈D0::ad,s.heap.get? a=ae)(le:cJ F F')(hK:ci.K=kY G F (D0::ad) s3.heap)(S:aO G ci σi F' s')(hF':F' D0=ae)(hD:s'.heap.get? D0=ac oD):Pass G F s (eT F' D0 oD) s':=by
 have aB:∀a o,s.heap.get? a=ac o->F a=ae->(∀p∈G.tabs,p.P≠a)->ci.K a=ac o:=λa o ho hf hp=>by
  have hna:a∉D0::ad:=λq=>by rw [hnew a q]at ho;exact aW ho
  refine af hK ?_;exact ET (k3.keep a o ho) ⟨hf,hp,hna⟩
 refine⟨le.trans (fj hF'),S.ok.add hF' hD (hok.notab (hnew D0 ck)),λa o ho hp=>?_,λa o e=>?_⟩
 ·cases hq:F a with
  |some o2=>
   have h1:=(hok.sat a o2 hq).symm.trans ho;cases h1;exact S.ok.sat a o (le a o hq)
  |none=>exact S.kept a o (aB a o ho hq hp)
 ·rcases qV e with e|e
  ·cases ho:s.heap.get? a with
   |none=>exact .inr rfl
   |some o1=>
    cases hq:F a with
    |some o2=>
     have:=(le a o2 hq).symm.trans e;exact .inl this
    |none=>
     have hp:∀p∈G.tabs,p.P≠a:=λp hp q=>by
      have:=(S.ok.tabs p hp).1;rw [q,e]at this;exact mD this
     have:=S.apart a o e;rw [aB a o1 ho hq hp]at this;exact mD this
  ·exact .inr (e▸hnew _ ck)
noncomputable def wQ(ifs:List aK)(env:gX):gw Bool:=forIn ifs ag λc r=>if r=ag then do let ok<-isTrue c env (eval c env);pure (zW ok)else pure (zW r)
def Fr(M:lq)(A:cH)(ifs:List aK)(elt:aK)(acc:aF)(env:gX)(Z:aC->Prop)(s:aC):Prop:=
 aG M A (wQ ifs env) (λok s=>if ok=ag then aG M A (eval elt env) (λx s=>aG M A (call (.builtin "list.append") [acc,x]) (λO s=>Z s) aU s) aU s else Z s) aU s
def CF(M:lq)(A:cH)(ifs:List aK)(kx vx:aK)(ak:bw)(env:gX)(Z:aC->Prop)(s:aC):Prop:=
 aG M A (wQ ifs env) (λok s=>if ok=ag then aG M A (eval kx env) (λkv s=>aG M A (eval vx env) (λvv s=>aG M A (dictSet ak kv vv) (λO s=>Z s) aU s) aU s) aU s else Z s) aU s
def CR(M:lq)(A:cH)(e target:aK)(it acc:aF)(env:gX)(Tail:(aC->Prop)->aC->Prop):Prop:=∀(R:vG->aC->Prop)(I:Nat->aC->Prop),
 (∀n s,I n s->aG M A (pyNext it) (λr s₁=>match r with
   |none=>R (.ok .next) s₁
   |some v=>aG M A (De target it v) (λO s₁'=>aG M A (assign target env v) (λO s₂=>Tail (λs=>∃m,m<n/\I m s) s₂) aU s₁') aU s₁) aU s)->∀n s,I n s->lr M A (.compLoop e 0 it acc env) R s
theorem UU:
  CR (aQ prog w) A (.ListComp elt [⟨target,iter,ifs,0⟩] scope pos) target it acc env (Fr (aQ prog w) A ifs elt acc env):=by
 intro R I turn n s h;refine codeAny_loop rfl I (λn s hI=>?_) n h;refine(?_:aG _ A ((compTurn (.ListComp elt [⟨target,iter,ifs,0⟩] scope pos) 0 it acc env).onRaise (λx=>do noteFrame x env;theTreesLotGoes x)) _ _ s);refine wpAny_noted ?_;rw [compTurn_list];refine nu (bv (nJ (bv (cn (turn n s hI) (λr s₁ h₁=>?_) λO O h'=>h'))));induction r using kC with
 |none=>exact cq h₁
 |some v=>
  refine bv (cn h₁ (λO s₁' h₁'=>bv (cn h₁' (λO s₂ h₂=>bv (cn h₂ (λok s₃ h₃=>?_) λO O h'=>h')) λO O h'=>h')) λO O h'=>h');induction ok using hO with
  |false=>exact cq ⟨rfl,h₃⟩
  |true=>exact bv (bv (cn h₃ (λx s₄ h₄=>bv (cn h₄ (λO s₅ h₅=>cq (cq ⟨rfl,h₅⟩)) λO O h'=>h')) λO O h'=>h'))
theorem O5{prog:nH}{w:b7}{A:cH}{kx vx target iter:aK}{ifs:List aK}{scope:iY}{pos:eF}{it:aF}{ak:bw}{env:gX}:
  CR (aQ prog w) A (.DictComp kx vx [⟨target,iter,ifs,0⟩] scope pos) target it (.ref ak) env (CF (aQ prog w) A ifs kx vx ak env):=by
 intro R I turn n s h;refine codeAny_loop rfl I (λn s hI=>?_) n h;refine(?_:aG _ A ((compTurn (.DictComp kx vx [⟨target,iter,ifs,0⟩] scope pos) 0 it (.ref ak) env).onRaise (λx=>do noteFrame x env;theTreesLotGoes x)) _ _ s);refine wpAny_noted ?_;rw [compTurn_dict];refine nu (bv (nJ (bv (cn (turn n s hI) (λr s₁ h₁=>?_) λO O h'=>h'))));induction r using kC with
 |none=>exact cq h₁
 |some v=>
  refine bv (cn h₁ (λO s₁' h₁'=>bv (cn h₁' (λO s₂ h₂=>bv (cn h₂ (λok s₃ h₃=>?_) λO O h'=>h')) λO O h'=>h')) λO O h'=>h');induction ok using hO with
  |false=>exact cq ⟨rfl,h₃⟩
  |true=>exact bv (bv (cn h₃ (λkv s₄ h₄=>bv (qp (cn h₄ (λvv s₅ h₅=>bv (nJ (qp (cn h₅ (λO s₆ h₆=>cq ⟨rfl,h₆⟩) λO O h'=>h')))) λO O h'=>h'))) λO O h'=>h'))
theorem PU{c:bU}(H:dp G E n)(R:bX n c.A)(ifs:List aK):∀(σ:aA)(F:bn)(s:aC)(r:Bool×aA),aO G c σ F s->Cb E c.sc ag ifs σ=ac r->aG (aQ G.prog G.w) c.A (wQ ifs c.env) (be (aO G c r.2) F (λO b=>b=r.1)) aU s:=by
 induction ifs with
 |nil=>intro σ F s r S h;refine bG h ?_;unfold wQ;refine af N7 ?_;exact cq (sL (J:=aO G c σ) S rfl)
 |cons e es ih=>
  intro σ F s r S h;refine aX h λp hp h=>?_;unfold wQ;rw [N6];simp only [if_true];refine bv (bv (be.seq (H.ts c σ F s e p R S hp) λb F1 s1 aY S1 q=>cq ?_));obtain⟨b',σ1⟩:=p;have q:b=b':=q;(symm;subst q);induction b using hO with
  |true=>exact be.weakW aY (ih σ1 F1 s1 r S1 h)
  |false=>
   refine bG h ?_;have stay:∀l:List aK,forIn l am (λe r=>if r=ag then do let ok<-isTrue e c.env (eval e c.env);pure (zW ok)else pure (zW r))=(pure am:gw Bool):=λl=>by
    induction l with
    |nil=>rfl
    |cons x l ih=>rw [N6];simp only [Bool.false_eq_true,if_false,pure_bind];exact ih
   refine(?_:aG _ _ (forIn es am _) _ _ _);rw [stay];exact cq ⟨F1,aY,S1,rfl⟩
theorem iK.more{s s':aC}{ad:List bw}{a:bw}(x:iK ad s s'):iK (a::ad) s s':=⟨λb o h e=>x.keep b o (λq=>h (cW _ q)) e,x.os,x.gens,x.toks⟩
theorem iK.one{s:aC}{ad:List bw}{tk:Nat}(x:mO a s.heap h')(ht:s.toks<=tk):iK (a::ad) s {s with heap:=h',toks:=tk}:=
 ⟨λb o h e=>(x.2 b λq=>h (q▸ck)).trans e,rfl,rfl,ht⟩
def sH(G:cg)(c:bU)(ad:List bw)(σ:aA)(F:bn)(s:aC):Prop:=∃m,aO G ((c.kp (dT c.K ad s.heap)).vl m) σ F s
theorem Ui{G:cg}{n:Nat}{c:bU}{F:bn}{σ:aA}{s:aC}{I D0:bw}{cM:aK}{F0:bn}{ad:List bw}{St:List ak->cY->Prop}{l:List ak}{β:Type}{e:aK}{Acc:bn->aJ->β->Prop}{stp:aA->β->Option (aA×β)}{Tail:(aC->Prop)->aC->Prop}{b r:β}{o:aJ}(rule:CR (aQ G.prog G.w) c.A e cM (.ref I) (.ref D0) c.env Tail)(cell:∀F o b,Acc F o b->∀w,o.data≠.cell w)(tail:∀m σ F s o b r Z,aO G ((c.kp (dT c.K (D0::ad) s.heap)).vl m) σ F s->kU (D0::ad) s.heap->s.heap.get? D0=ac o->Acc F o b->stp σ b=ac r->
   (∀F' s' o',cJ F F'->sH G c (D0::ad) r.1 F' s'->(∀a∈ad,s'.heap.get? a=s.heap.get? a)->s'.heap.get? D0=ac o'->Acc F' o' r.2->Z s')->Tail Z s)(R:bX n c.A)(W:qv G c.A I cM F0 ad St)(hD:D0∉ad)(hK:∀a∈D0::ad,c.K a=ae)(h:gK c.sc cM stp l σ b=ac r)(S:aO G (c.kp (dT c.K (D0::ad) s.heap)) σ F s)(hst:St l s.heap)(fq:cJ F0 F)(ho:s.heap.get? D0=ac o)(acc:Acc F o b):
  lr (aQ G.prog G.w) c.A (.compLoop e 0 (.ref I) (.ref D0) c.env) (λx s'=>x=.ok .next/\∃F' m' σ' o',cJ F F'/\aO G (c.vl m') σ' F' s'/\F' D0=ae/\s'.heap.get? D0=ac o'/\Acc F' o' r) s:=by
 have here:∀{h:cY} {o:aJ} {F:bn} {b:β},kU ad h->h.get? D0=ac o->Acc F o b->kU (D0::ad) h:=λ{h o F b} q ho hb a ha=>(cI.mp ha).elim (λe=>by refine af e ?_;exact⟨⟨o,ho⟩,λw ⟨o',h1,h2⟩=>by rw [ho]at h1;cases h1;exact cell F _ b hb w h2⟩) (q a);refine rule _ (λj s1=>∃l F1 m1 σ1 o b,j=l.length/\cJ F F1/\aO G ((c.kp (dT c.K (D0::ad) s1.heap)).vl m1) σ1 F1 s1/\St l s1.heap/\s1.heap.get? D0=ac o/\Acc F1 o b/\gK c.sc cM stp l σ1 b=ac r) ?_ l.length s ⟨l,F,c.m,σ,o,b,rfl,.rfl,S,hst,ho,acc,h⟩
 rintro j s1 ⟨l,F1,m1,σ1,o1,b1,rfl,aY,S1,st1,ho1,acc1,h1⟩
 have w5:=here (W.here _ _ st1) ho1 acc1;cases l with
 |nil=>
  refine cn (W.done F1 s1 st1 (fq.trans aY) S1.ok) (λx s2 q=>?_) λO O z=>z;refine ay q λz0 m2=>?_;clear q;subst z0;cases h1;have hF:F1 D0=ae:=by
   cases q:F1 D0 with
   |none=>rfl
   |some o'=>
    have:=S1.apart D0 o' q;change dT c.K (D0::ad) s1.heap D0=ae at this;rw [pv ck,ho1]at this;exact mD this
  exact⟨rfl,F1,m1,σ1,o1,aY,(S1.moves (c:=c.vl m1) m2.more w5).dropKeep (c:=c.vl m1) hK,hF,m2.keep _ _ hD ho1,acc1⟩
 |cons d l=>
  refine aX h1 λσ2 ha h1=>aX h1 λp hp h1=>cn (W.item d l F1 s1 st1 (fq.trans aY) S1.ok) (λx s2 q=>?_) λO O z=>z;refine bu q ?_;clear q;intro m2 hh2 q2';refine aw q2' λv q0'=>ay q0' λz0 q=>?_;clear q2' q0';subst z0;have S2:=S1.moves (c:=c.vl m1) m2.more w5;have ho2:=m2.keep _ _ hD ho1;refine cn q (λO s3 q=>?_) λO O z=>z;refine dH q λm3 st3 fed nt=>?_;clear q;have S3:=S2.moves (c:=c.vl m1) m3.more (here hh2 ho2 acc1);have ho3:=m3.keep _ _ hD ho2;refine cn (G4 (c:=(c.kp (dT c.K (D0::ad) s3.heap)).vl m1) R S3 fed nt ha) (λO s4 S4=>?_) λO O z=>z;refine aw S4 ?_;clear S4;intro m4 S4;have d9:=rB (c:=c.vl m4) S4 λa ha=>(here (W.here _ _ st3) ho3 acc1 a ha).1;have S4':aO G ((c.kp (dT c.K (D0::ad) s4.heap)).vl m4) σ2 F1 s4:=by refine af (uf d9) ?_;exact S4
  have st4:=W.frame _ _ _ st3 (λa ha=>d9 a (cW _ ha)) λa o e=>S4.ok.sat a o (aY a o (fq a o e));have ho4:=(d9 D0 ck).trans ho3;refine tail m4 σ2 F1 s4 o1 b1 p _ S4' (here (W.here _ _ st4) ho4 acc1) ho4 acc1 hp λF5 s5 o5 l5 S5 k5 ho5 acc5=>?_;refine aw S5 ?_;clear S5;intro m5 S5;exact⟨l.length,mP _,l,F5,m5,p.1,o5,p.2,rfl,aY.trans l5,S5,W.frame _ _ _ st4 k5 λa o e=>S5.ok.sat a o (l5 a o (aY a o (fq a o e))),ho5,acc5,h1⟩
def yi(G:cg)(F:bn)(o:aJ)(b:List ak):Prop:=∃vs k,o=dg vs k/\br G F vs b
def Fs(G:cg)(a:bw)(F:bn)(o:aJ)(b:List T×List ak):Prop:=∃vs,jS G o b.1 vs a/\br G F vs b.2
theorem yi.cell(h:yi G F o b):∀w,o.data≠.cell w:=by refine bV h λvs k q1'=>ay q1' λz0 O=>?_;clear h q1';subst z0;exact λw e=>nomatch e
theorem jS.cell(h:jS G o ks vs a):∀w,o.data≠.cell w:=by
 refine ay h λz0 O=>bV z0 λes ep q0'=>bu q0' λO hd O=>?_;clear h z0 q0';exact λw e=>by rw [hd]at e;cases e
theorem Ko(vs:List aF)(x:aF):vs.toArray.push x=(vs++[x]).toArray:=by simp
theorem Tm{s:aC}{Q:aF->aC->Prop}(ho:s.heap.get? a=ac (dg vs k))(hsz:vs.length<=lim)(h:∀h' k',h'.get? a=ac (dg (vs++[x]) k')->mO a s.heap h'->Q .none {s with heap:=h'}):aG (aQ prog w) A (call (.builtin "list.append") [.ref a,x]) Q Er s:=by
 refine zJ aad ⟨_,ho,rfl⟩ PySem.F.entry_list_append (PySem.F.args_list_append_2 _ _) (PySem.list_append a vs.toArray k x (by refine af gM (af eO ?_);simp only [lim]at hsz;exact bM hsz (ik 1048576 15728640))) ⟨ho,?_⟩;have hu:=N8 (show N9 s.heap a vs.toArray k from ho) (λxs=>xs.push x);rw [Ko]at hu;exact h _ _ hu (xD ..)
theorem sH.turn{c:bU}{D0:bw}{ad:List bw}{tk:Nat}(S:aO G ((c.kp (dT c.K (D0::ad) h)).vl m) σ F s)(hex:∀a∈D0::ad,∃o,h.get? a=ac o)(hc:∀a∈D0::ad,∀w,¬h.IsCell a w)(hs:mO D0 s.heap h')(ht:s.toks<=tk):
  sH G c (D0::ad) σ F {s with heap:=h',toks:=tk}:=by
 have e:=rB (c:=c.vl m) S hex;have S':aO G ((c.kp (dT c.K (D0::ad) s.heap)).vl m) σ F s:=by refine af (uf e) ?_;exact S
 exact⟨m,S'.moves (c:=c.vl m) (iK.one hs ht) λa ha=>by
  refine aw (hex a ha) λo ho=>?_;exact⟨⟨o,(e a ha).trans ho⟩,λw ⟨o',h1,h2⟩=>hc a ha w ⟨o',(e a ha).symm.trans h1,h2⟩⟩⟩
theorem Ym{c:bU}{s:aC}{D0:bw}{ad:List bw}{Z:aC->Prop}(hD:D0∉ad)(H:dp G E n)(R:bX n c.A)(S:aO G ((c.kp (dT c.K (D0::ad) s.heap)).vl m) σ F s)(hh:kU (D0::ad) s.heap)(ho:s.heap.get? D0=ac o)(acc:yi G F o b)(h:iy E c.sc ifs elt σ b=ac r)(hZ:∀F' s' o',cJ F F'->sH G c (D0::ad) r.1 F' s'->(∀a∈ad,s'.heap.get? a=s.heap.get? a)->s'.heap.get? D0=ac o'->yi G F' o' r.2->Z s'):Fr (aQ G.prog G.w) c.A ifs elt (.ref D0) c.env Z s:=by
 refine bV acc λvs k q2'=>ay q2' λz0 hv=>?_;clear acc q2';subst z0;have hex:∀a∈D0::ad,∃o,s.heap.get? a=ac o:=λa ha=>(hh a ha).1;refine aX h λp hp h=>be.seq (PU (c:=(c.kp (dT c.K (D0::ad) s.heap)).vl m) H R ifs σ F s p S hp) λok F1 s1 aY S1 e=>?_;obtain⟨b',σ1⟩:=p;have e:ok=b':=e;(symm;subst e);have e1:=rB (c:=c.vl m) S1 hex;cases ok with
 |false=>cases h;exact hZ F1 s1 _ aY ⟨m,by refine af (uf e1) ?_;exact S1⟩ (λa ha=>e1 a (cW _ ha)) ((e1 D0 ck).trans ho) ⟨vs,k,rfl,hv.mono aY⟩
 |true=>
  refine aX h λq hq h=>bj h λhb h=>be.seq (H.ev ((c.kp (dT c.K (D0::ad) s.heap)).vl m) σ1 F1 s1 elt q R S1 hq) λx F2 s2 b6 S2 r2=>?_;cases h;have e2:=rB (c:=c.vl m) S2 hex;have hl:=hv.length;refine Tm ((e2 D0 ck).trans ho) (by refine af hl ?_;exact blt hb) λh' k' ho' hs=>?_;exact hZ F2 _ _ (aY.trans b6) (sH.turn S2 hex (λa ha=>(hh a ha).2) hs (bZ _)) (λa ha=>(hs.2 a λq=>hD (q▸ha)).trans (e2 a (cW _ ha))) ho' ⟨_,k',rfl,(hv.mono (aY.trans b6)).append (.cons r2 .nil)⟩
theorem Zz{r:List (aL×aF)}(h:k'∉r.map (·.1)):stored ((k',v')::r) k v=if k'=k then(k',v)::r else(k',v')::stored r k v:=by
 unfold stored;by_cases e:k'=k
 ·subst e
  simp only [aae,decide_true,Bool.true_or,if_true,qm];congr 1
  conv=>rhs;rw [<-Df r]
  apply Ht;intro p hp;have:p.1≠k':=λq=>h (q▸jD.mpr ⟨p,hp,rfl⟩);simp [this]
 ·simp only [aae,decide_eq_false e,Bool.false_or,if_neg e,qm]
  by_cases ha:(r.any λkv=>decide (kv.1=k))=ag
  ·simp [ha]
  ·simp [ha]
theorem Jl:jL x d (k::ks) (e::ds)=@aN (λO=>List T×List ak) (k::(jL x d ks ds).1,e::(jL x d ks ds).2) (k::ks,d::ds) (le x k):=rfl
theorem Qa(hr:aH G F v d)(ks:List T):∀{vs:List aF} {ds:List ak},br G F vs ds->ks.length=vs.length->ks.Nodup->
  ∃vs',stored ((ks.map toS).zip vs) (toS x) v=(((jL x d ks ds).1).map toS).zip vs'/\br G F vs' (jL x d ks ds).2/\(jL x d ks ds).1.length=vs'.length/\∀k∈(jL x d ks ds).1,k=x\/k∈ks:=by
 induction ks with
 |nil=>exact λ{vs ds} h hl hn=>⟨[v],by induction vs using dD<;>rfl,.cons hr .nil,rfl,λk aB=>.inl (dm.mp aB)⟩
 |cons k ks ih=>
  intro vs ds h hl hn;induction ds using dD with
  |nil=>subst h;cases hl
  |cons d0 ds=>
   refine h.cons_er λpE vs e h0 rr=>?_;subst e;have hl':ks.length=vs.length:=xy hl;have hm:toS k∉((ks.map toS).zip vs).map (·.1):=λq=>by
    rw [aaf (by rw [gj,hl'];exact bZ _)]at q;refine aw (jD.mp q) λk' q1'=>ay q1' λh1 h2=>?_;clear q1';exact(vH.mp hn).1 (G0.mp h2▸h1)
   refine(?_:∃vs',stored ((toS k,pE)::(ks.map toS).zip vs) (toS x) v=_/\_);refine af (Zz hm) (af Jl ?_);cases hx:le x k with
   |true=>
    have:=lS.mp hx;subst this;refine af (if_pos rfl) ?_;exact⟨v::vs,rfl,.cons hr rr,hl,λk aB=>.inr aB⟩
   |false=>
    refine af (if_neg λe=>by rw [lS.mpr (G0.mp e).symm]at hx;cases hx) ?_;refine aw (ih rr hl' (vH.mp hn).2) λvs' q0'=>dH q0' λe1 e2 e3 d9=>?_;clear q0';exact⟨pE::vs',congrArg _ e1,.cons h0 e2,congrArg (· +1) e3,λk' aB=>(cI.mp aB).elim (λe=>.inr (e▸ck)) λaB=>(d9 k' aB).imp id (cW _)⟩
theorem ZK(p:jS G o ks vs a):ks.Nodup:=by
 refine dH p λz0 O hl O=>bV z0 λes ep q2'=>mq q2' λO O O O hn=>?_;clear p z0 q2';rw [aaf (by rw [gj,hl];exact bZ _)]at hn;exact abN (λ{a b} (h:toS a≠toS b) (e:a=b)=>h (by exact af e rfl)) (List.pairwise_map.mp hn)
theorem MK{s:aC}{t:fh}(ho:s.heap.get? a=ac o)(p:jS G o ks vs a)(hv:br G F vs ds)(hr:aH G F v d)(hx:b8 x)(hb:bB ks.length lim=ag){Q:Unit->aC->Prop}(rule:∀Q:Unit->aC->Prop,(∀h',h'.DictOf (strKind G.prog G.w) a (stored ((ks.map toS).zip vs) (toS x) v)->mO a s.heap h'->Q () {s with heap:=h',toks:=s.toks+1})->((ks.map toS).zip vs).length<=lV->aG (aQ G.prog G.w) A t' Q aU s)(h:∀h' o' vs',h'.get? a=ac o'->jS G o' (jL x d ks ds).1 vs' a->br G F vs' (jL x d ks ds).2->mO a s.heap h'->Q () {s with heap:=h',toks:=s.toks+1}):aG (aQ G.prog G.w) A t' Q aU s:=by
 have hb:=blt hb;simp only [lim]at hb;refine aw (Qa (x:=x) hr ks hv p.2.2.1 (ZK p)) λvs' q1'=>dH q1' λe1 e2 e3 d9=>?_;clear q1';refine rule Q (λh' hn hs=>?_) (by rw [gM,aag,gj];lia);refine aw (rW.mp hn) λo' q0'=>ay q0' λho' hd'=>?_;clear q0';rw [e1]at hd';exact h h' o' vs' ho' ⟨hd',p.2.1,e3,λk aB=>(d9 k aB).elim (λe=>e▸hx) (p.2.2.2 k)⟩ e2 hs
theorem US{c:bU}{s:aC}{D0:bw}{ad:List bw}{Z:aC->Prop}(hD:D0∉ad)(H:dp G E n)(R:bX n c.A)(S:aO G ((c.kp (dT c.K (D0::ad) s.heap)).vl m) σ F s)(hh:kU (D0::ad) s.heap)(ho:s.heap.get? D0=ac o)(acc:Fs G D0 F o b)(h:FK E c.sc key elt σ b=ac r)(hZ:∀F' s' o',cJ F F'->sH G c (D0::ad) r.1 F' s'->(∀a∈ad,s'.heap.get? a=s.heap.get? a)->s'.heap.get? D0=ac o'->Fs G D0 F' o' r.2->Z s'):CF (aQ G.prog G.w) c.A [] key elt D0 c.env Z s:=by
 refine aw acc λvs q2'=>ay q2' λp hv=>?_;clear acc q2';have hex:∀a∈D0::ad,∃o,s.heap.get? a=ac o:=λa ha=>(hh a ha).1;refine aX h λbC h1 h=>ff h λx nx ex h=>aX h λq2 h2 h=>bj h λhb h=>?_;cases h;unfold CF wQ;refine af N7 ?_;refine cq ?_;refine af (if_pos rfl) ?_;refine be.seq (H.ev ((c.kp (dT c.K (D0::ad) s.heap)).vl m) σ F s key bC R S h1) λkv F1 s1 aY S1 r1=>be.seq (H.ev ((c.kp (dT c.K (D0::ad) s.heap)).vl m) bC.2 F1 s1 elt q2 R S1 h2) λvv F2 s2 b6 S2 r2=>?_;rw [ex]at r1;refine aH.str_el r1 λt e O hax=>?_;(symm;subst e);have e2:=rB (c:=c.vl m) S2 hex;refine MK (d:=q2.1) (t:=t) ((e2 D0 ck).trans ho) p (hv.mono (aY.trans b6)) r2 hax hb (λQ hq hsz=>?_) λh' o' vs' ho' p' hv' hs=>?_
 ·exact wpAny_dictSet_pairs (C6 _ _ _ _) (rW.mpr ⟨o,(e2 D0 ck).trans ho,p.1⟩) hq hsz
 ·exact hZ F2 _ o' (aY.trans b6) (sH.turn S2 hex (λa ha=>(hh a ha).2) hs (mK _)) (λa ha=>(hs.2 a λq=>hD (q▸ha)).trans (e2 a (cW _ ha))) ho' ⟨vs',p',hv'⟩
structure rj(G:cg):Prop where
 glob:Mw G
 enum:∀(c:bU)(s:aC)(M:lq)(A:cH)(Q:aF->aC->Prop)(Er:aF->aC->Prop),(∀a o,G.F0 a=ac o->s.heap.get? a=ac o)->rg c->Q (.type "enumerate") s->aG M A (zQ c.env "enumerate") Q Er s
 sysm:∃o,G.F0 vr=ac o
 handed:∀h,zY (G.val h)=ag
def FU(G:cg)(c:bU)(t:aK)(l:List ak)(σ:aA)(F:bn)(itv:aF)(s:aC):Prop:=
 ∃F1 s0 I ad St,cJ F F1/\aO G c σ F1 s0/\itv=.ref I/\iD s0 s/\St l s.heap/\qv G c.A I t F1 ad St/\∀a∈ad,s0.heap.get? a=ae
def v3(G:cg)(n:Nat):Prop:=∀(A:cH)(F:bn)(s:aC)(v:aF)(d:ak)(t:aK)(l:List ak),bX n A->bD G F s->aH G F v d->sP t d=ac l->
 aG (aQ G.prog G.w) A (rZ v) (λitv s'=>∃I ad St,itv=.ref I/\iD s s'/\St l s'.heap/\qv G A I t F ad St/\∀a∈ad,s.heap.get? a=ae) aU s
def DG(G:cg)(E:bQ)(n:Nat):Prop:=∀(c:bU)(σ:aA)(F:bn)(s:aC)(t a np:aK)(pos:eF)(p:ak×aA)(l:List ak),bX n c.A->aO G c σ F s->Na (.Call np [a] [] pos) ac=ac a->@dL dh (λO=>Bool) am E1 (ba "enumerate" c.sc.names)=ag->rL t=ag->
 E.ev c.sc σ a=ac p->p.1=.tup l->aG (aQ G.prog G.w) c.A (eval (.Call np [a] [] pos) c.env) (λx s1=>aG (aQ G.prog G.w) c.A (rZ x) (FU G c t (wD l 0) p.2 F) aU s1) aU s
theorem Lg(h:nU it=am)(env:gX)(x:aF):foldedSetIterable it env x=pure x:=by
 induction it using fw<;>first|rfl|cases h
theorem ME{c:bU}(H:dp G E n)(hI:v3 G n)(hN:DG G E n)(R:bX n c.A)(S:aO G c σ F s)(h:uw G.cx E c.sc σ t it=ac p):
  aG (aQ G.prog G.w) c.A (eval it c.env) (λx s1=>aG (aQ G.prog G.w) c.A (rZ x) (FU G c t p.1 p.2 F) aU s1) aU s:=by
 refine dG h (λh=>aX h λq h1 h=>aX h λl h2 h=>?_) λh=>?_
 ·refine bG h ?_
  exact be.seq (H.ev c σ F s it q R S h1) λx F1 s1 aY S1 r1=>cn (hI c.A F1 s1 x q.1 t l R S1.ok r1 h2) (λitv s2 ⟨I,ad,St,e,k,st,W,hn⟩=>⟨F1,s1,I,ad,St,aY,S1,e,k,st,W,hn⟩) λO O z=>z
 ·induction it using fw with
  |Call g args kws pos=>?_
  |_=>exact aW h
  refine lN h λy np eg h=>bj h λhy h=>bj h λhn h=>jp h λek h=>fy h λa ea h=>bj h λhm h=>bj h λht h=>aX h λq h1 h=>rR h λl el h=>?_;refine bG h ?_;(symm;subst eg ek ea);exact hN c σ F s t a (.Name y np) pos q l R S (by refine(?_:aS (d8 y "enumerate") (aS (gh [a]) (ac a))=ac a);refine af hy (af hn ?_);rfl) hm ht h1 el
theorem Ip{c:bU}{β:Type}{use:Option (aF->gw Unit)}{Q:aF->aC->Prop}{Acc:bw->bn->aJ->β->Prop}{stp:aA->β->Option (aA×β)}{b0 r:β}{Tail:bw->gX->(aC->Prop)->aC->Prop}(R:bX n c.A)(S:aO G c σ F s)(ok:xo c.sc scope it)(hcl:clausesOf e=⟨t,it,ifs,0⟩::gs)(hsrc:aG (aQ G.prog G.w) c.A (eval it c.env) (λx s1=>aG (aQ G.prog G.w) c.A (rZ x) (FU G c t l σ1 F) aU s1) aU s)(hacc:∀(s:aC) (Q:aF->aC->Prop),Q (.ref s.heap.objs.size) {s with heap:=s.heap.push o0}->aG (aQ G.prog G.w) c.A newAcc Q aU s)(hfree:o0.isFreed=am)(hstart:∀(itv acc:aF) (ce:gX) (R:vG->aC->Prop) (s:aC),lr (aQ G.prog G.w) c.A (.compLoop e 0 itv acc ce) R s->(∀Q,(Q itv s->aG (aQ G.prog G.w) c.A (rZ itv) Q aU s))->lr (aQ G.prog G.w) c.A (.compStart e 0 itv acc ce) R s)(rule:∀I D0 ce,CR (aQ G.prog G.w) c.A e t (.ref I) (.ref D0) ce (Tail D0 ce))(cell:∀a F o b,Acc a F o b->∀w,o.data≠.cell w)(tail:∀(ci:bU) (D0:bw) (ad:List bw) m σ F s o b r Z,ci.A=c.A->ci.sc=mi c.sc scope->D0∉ad->aO G ((ci.kp (dT ci.K (D0::ad) s.heap)).vl m) σ F s->kU (D0::ad) s.heap->s.heap.get? D0=ac o->Acc D0 F o b->stp σ b=ac r->
   (∀F' s' o',cJ F F'->sH G ci (D0::ad) r.1 F' s'->(∀a∈ad,s'.heap.get? a=s.heap.get? a)->s'.heap.get? D0=ac o'->Acc D0 F' o' r.2->Z s')->Tail D0 ci.env Z s)(acc0:∀a F,(a==vr)=am->Acc a F o0 b0)(h:gK (mi c.sc scope) t stp l (kN scope.names (frz scope.names σ1)) b0=ac r)(hsys:∃o,G.F0 vr=ac o)(fin:∀F a o,Acc a F o r->F a=ae->aH G (eT F a o) (.ref a) d)(hQ:use=ae->∀v F' s',cJ F F'->aO G c (frz scope.names σ1) F' s'->aH G F' v d->Q v s')(hU:∀u,use=ac u->∀(K' F':bn) (s':aC) (v:aF),cJ F F'->aO G (c.kp K') (frz scope.names σ1) F' s'->aH G F' v d->aG (aQ G.prog G.w) c.A (u v) (λO s''=>gN G (c.kp K') σ' F' s'') aU s')(hUQ:use.isSome=ag->∀(F':bn) (s':aC),cJ F F'->gN G c σ' F' s'->Q .none s'):
  aG (aQ G.prog G.w) c.A (comprehension e scope c.env pos newAcc am (eval it c.env) use) Q aU s:=by
 refine wpAny_comprehension_free hcl (Lg ok.set c.env) (UD scope c.env λx hx=>GZ S.eo ok (BH _ ok.once hx)) ok.kind (λy hy hl=>?_) ?_
 ·obtain⟨y,k⟩:=y
  have hl:k=.local:=hl;(symm;subst hl);exact(yK _ _).symm.trans (BH _ ok.once hy)
 refine cn hsrc (λx s1 q=>cn q (λitv s2 q=>?_) λO O z=>z) λO O z=>z;refine d4 q λF1' s0 I ad q1'=>aw q1' λSt q2'=>gY q2' λlL S0' z2 k2 st2 q0'=>?_;clear q q1' q2';subst z2;refine ay q0' λW' had=>?_;clear q0';refine aw (S0'.frz scope.names) λF1 q0'=>ay q0' λl1'' S0=>?_;clear q0';have aY:=lL.trans l1'';refine hacc _ _ (Qq ?_);have hD0:s2.heap.get? s2.heap.objs.size=ae:=fW _;have here2:=W'.here _ _ st2;have hDad:s2.heap.objs.size∉ad:=λh=>by refine aw ((here2 _ h).1) λo q=>?_;rw [hD0]at q;exact aW q
 have k23:∀a o,s2.heap.get? a=ac o->(s2.heap.push o0).get? a=ac o:=λa o e=>eN _ e;have k3:iD s0 {s2 with heap:=s2.heap.push o0}:=⟨λa o e=>k23 a o (k2.keep a o e),k2.os,k2.gens,k2.toks⟩;have hD03:(s2.heap.push o0).get? s2.heap.objs.size=ac o0:=fZ _ hfree;have hnew:∀a∈s2.heap.objs.size::ad,s0.heap.get? a=ae:=λa ha=>(cI.mp ha).elim (λe=>by
  cases hq:s0.heap.get? a with
  |none=>rfl
  |some o=>have:=k2.keep _ o hq;rw [e,hD0]at this;exact aW this) (had a)
 have hcap:∀y b,(y,r8)∈scope.names->ba y (frz scope.names σ1)=ac b->∃d,b=.fz d:=λy b hy hb=>by
  refine aw (QY _ hb) λb0 q2'=>bu q2' λO O h=>?_;clear q2';exact⟨_,h hy⟩
 have Si:=Yb (s3:={s2 with heap:=s2.heap.push o0}) (ad:=s2.heap.objs.size::ad) S0 ok k3 hnew (λa ha=>(cI.mp ha).elim (λe=>by refine af e ?_;exact⟨_,hD03⟩) λha=>by refine aw ((here2 a ha).1) λo q=>?_;exact⟨o,k23 a o q⟩) hcap;generalize hci:c.comp scope (s2.heap.push o0).objs.size (kY G F1 (s2.heap.objs.size::ad) (s2.heap.push o0))=ci;have hA:ci.A=c.A:=by refine af hci.symm ?_;rfl
 have hsc:ci.sc=mi c.sc scope:=by refine af hci.symm ?_;rfl
 have hKi:ci.K=kY G F1 (s2.heap.objs.size::ad) (s2.heap.push o0):=by refine af hci.symm ?_;rfl
 have hL:ci.env.locals=(s2.heap.push o0).objs.size:=by refine af hci.symm ?_;rfl
 suffices hS:lr (aQ G.prog G.w) c.A (.compStart e 0 (.ref I) (.ref s2.heap.objs.size) ci.env) (compPost (aQ G.prog G.w) c.A aU use Q (.ref s2.heap.objs.size) ci.env.locals) {s2 with heap:=qr ((s2.heap.push o0).push gZ) scope.names} by rw [<-hci]at hS;exact hS
 have Si':aO G (ci.kp (dT ci.K (s2.heap.objs.size::ad) (qr ((s2.heap.push o0).push gZ) scope.names))) (kN scope.names (frz scope.names σ1)) F1 {s2 with heap:=qr ((s2.heap.push o0).push gZ) scope.names}:=by refine af hci.symm ?_;exact Si
 have hC3:(s2.heap.push o0).get? ci.env.locals=ae:=by refine af hL ?_;exact fW _
 have hC0:s0.heap.get? ci.env.locals=ae:=by
  cases hq:s0.heap.get? ci.env.locals with
  |none=>rfl
  |some o=>rw [k3.keep _ o hq]at hC3;exact mD hC3
 have W:qv G ci.A I t F1' ad St:=by refine af hA ?_;exact W'
 have st4:St l (qr ((s2.heap.push o0).push gZ) scope.names):=W'.frame _ _ _ st2 (λa ha=>by
  refine aw ((here2 a ha).1) λo q=>?_;refine af q ?_;exact yR (eN _ (k23 a o q))) λa o e=>yR (eN _ (k23 a o (k2.keep a o (S0'.ok.sat a o e))))
 refine hstart _ _ _ _ _ ?_ λQ hq=>W'.self _ _ _ st4 hq;have hsysm:(s2.heap.objs.size==vr)=am:=by
  rw [beq_eq_false_iff_ne];intro e;refine aw hsys λo q=>?_;clear hsys;have:=k2.keep _ _ (S0'.ok.sat _ _ (S0'.ok.base _ _ q));rw [<-e,hD0]at this;exact aW this
 have hKn:∀a∈s2.heap.objs.size::ad,ci.K a=ae:=λa ha=>by refine af hKi ?_;exact rI λo O O O n=>n ha
 have loop:=@Ui _ _ ci _ _ ({s2 with heap:=qr ((s2.heap.push o0).push gZ) scope.names}) _ _ _ _ _ _ _ _ e (Acc s2.heap.objs.size) stp (Tail s2.heap.objs.size ci.env) b0 r _ (hA▸rule I _ ci.env) (cell _) (λm σ F s o b r Z S hh ho ha hs hz=>tail ci _ ad m σ F s o b r Z hA hsc hDad S hh ho ha hs hz) (hA▸R) W hDad hKn (by refine af hsc ?_;exact h) Si' st4 l1'' (yR (eN _ hD03)) (acc0 _ F1 hsysm);rw [hA]at loop;refine zZ loop λx s5 q=>?_;refine ay q λz0 q0'=>?_;clear q;subst z0;refine d4 q0' λF5 m5 σ5 o5 q1'=>mq q1' λl5 S5 hF5 ho5 acc5=>?_;clear q0' q1';have P:=Xm (ci:=ci.vl m5) (s3:={s2 with heap:=s2.heap.push o0}) S0.ok k3 hnew l5 hKi S5 hF5 ho5;have hCD:ci.env.locals≠s2.heap.objs.size:=λe=>by rw [e,hD03]at hC3;cases hC3
 have hFC:eT F5 s2.heap.objs.size o5 ci.env.locals=ae:=by unfold eT;refine af (if_neg hCD) ?_;exact S5.loc.1
 refine aw S5.ns λmC q2'=>ay q2' λhnC O=>?_;clear q2';have zq:=(S0.asideP P (ad:=[ci.env.locals]) (λa ha=>by refine af (dm.mp ha) ?_;exact hC0) λa ha=>by refine af (dm.mp ha) ?_;exact hFC);refine ay zq λhKC SoK=>?_;clear zq;have lC:=aY.trans P.le;have rd:=fin F5 _ o5 acc5 hF5;have hereC:∀{h:cY} {mC:aL->Option aF},h.Ns ci.env.locals mC->kU [ci.env.locals] h:=λhn a ha=>by
  refine af (dm.mp ha) ?_;exact⟨by refine gB hn λo' es ep q1'=>ay q1' λh3 O=>?_;clear hn q1';exact⟨o',h3⟩,λw q=>Fa q hn rfl⟩
 have last:∀{σ':aA} {F':bn} {m':aL->Option aF} {s':aC} {mC:aL->Option aF} {h':cY},aO G ((c.kp (dT c.K [ci.env.locals] s'.heap)).vl m') σ' F' s'->s'.heap.Ns ci.env.locals mC->mO ci.env.locals s'.heap h'->aO G (c.vl m') σ' F' {s' with heap:=h'}:=
  λ{σ' F' m' s' mC h'} S' hn hs=>(S'.moves (c:=c.vl m') (@iK.one _ _ s' [] s'.toks hs (bZ _)) (hereC hn)).dropKeep (c:=c.vl m') hKC
 unfold compPost;induction use using kC with
 |none=>exact⟨mC,hnC,λh' hs=>hQ rfl _ _ _ lC (last (m':=c.m) SoK hnC hs) rd⟩
 |some u=>
  refine cn (hU u rfl _ _ _ _ lC SoK rd) (λO s6 q=>?_) λO O z=>z;refine aw q λm6 S6=>?_;clear q;have hex:∀a∈[ci.env.locals],∃o,s5.heap.get? a=ac o:=λa ha=>(hereC hnC a ha).1;have e6:=rB (c:=c.vl m6) S6 hex;have hn6:s6.heap.Ns ci.env.locals mC:=hnC.at' λo e=>(e6 _ (dm.mpr rfl)).trans e;have S6':aO G ((c.kp (dT c.K [ci.env.locals] s6.heap)).vl m6) σ' (eT F5 s2.heap.objs.size o5) s6:=by refine af (uf e6) ?_;exact S6
  exact⟨mC,hn6,λh' hs=>hUQ rfl _ _ lC ⟨m6,last S6' hn6 hs⟩⟩
noncomputable def Bi(e:aK)(env:gX)(use:Option (aF->gw Unit)):gw aF:=match e with
 |.ListComp _ gens scope pos=>comprehension e scope env (Hv gens pos) (newList []) (firstAsync gens) (firstIter gens env) use
 |.DictComp _ _ gens scope pos=>comprehension e scope env (Hv gens pos) newDict (firstAsync gens) (firstIter gens env) use
 |_=>pure .none
structure uZ(G:cg)(E:bQ)(n:Nat):Prop where
 go:rj G
 it:v3 G n
 en:DG G E n
theorem IY{α:Type}{f:aK->aK->List aK->Option α}{r:α}{P:Prop}(h:DU gs f=ac r)(k:∀t it ifs,gs=[⟨t,it,ifs,0⟩]->f t it ifs=ac r->P):P:=
 fy h λg e h=>bj h λh0 h=>by
  obtain⟨t,it,ifs,a⟩:=g;have h0:a=0:=of_decide_eq_true h0;(symm;subst h0);exact k t it ifs e h
theorem Iq{G:cg}:gZ.IsDictOf (strKind G.prog G.w) []:=⟨#[],0,⟨rfl,rfl,rfl⟩,rfl,λO h=>by simp at h,.nil,.nil⟩
theorem Dw{c:bU}{use:Option (aF->gw Unit)}{Q:aF->aC->Prop}(H:dp G E n)(U:uZ G E n)(R:bX n c.A)(S:aO G c σ F s)(h:nh G.cx E c.sc σ e=ac r)(hQ:use=ae->∀v F' s',cJ F F'->aO G c r.2 F' s'->aH G F' v r.1->Q v s')(hU:∀u,use=ac u->∀(K' F':bn) (s':aC) (v:aF),cJ F F'->aO G (c.kp K') r.2 F' s'->aH G F' v r.1->aG (aQ G.prog G.w) c.A (u v) (λO s''=>gN G (c.kp K') σ' F' s'') aU s')(hUQ:use.isSome=ag->∀(F':bn) (s':aC),cJ F F'->gN G c σ' F' s'->Q .none s'):
  aG (aQ G.prog G.w) c.A (Bi e c.env use) Q aU s:=by
 cases e with
 |ListComp elt gs scope pos=>
  have h:Ay G.cx E c.sc σ elt gs scope=ac r:=h;unfold Ay at h;refine IY h λt it ifs e h=>bj h λhc h=>aX h λp h1 h=>aX h λl h2 hh=>?_;(symm;subst e);cases hh;refine(?_:aG _ _ (comprehension (.ListComp elt [⟨t,it,ifs,0⟩] scope pos) scope c.env (Hv [⟨t,it,ifs,0⟩] pos) (newList []) am (eval it c.env) use) _ _ _);exact Ip (o0:=dg [] 0) (Acc:=λO=>yi G) (stp:=iy E (mi c.sc scope) ifs elt) (b0:=[]) (Tail:=λD0 ce=>Fr (aQ G.prog G.w) c.A ifs elt (.ref D0) ce) R S (.of hc) rfl (ME H U.it U.en R S h1)
   (λs Q hq=>vE hq (by refine(?_:(#[]:Array aF).size<=lV);decide)) rfl (λitv acc ce R s h0 hs=>codeAny_compStart_list h0 (nu (hs _ h0))) (λI D0 ce=>UU) (λa F o b h=>h.cell)
   (λci D0 ad m σ F s o b r Z hA hsc hD S hh ho acc hs hz=>by refine af hA.symm ?_;exact Ym hD H (by refine af hA ?_;exact R) S hh ho acc (by refine af hsc ?_;exact hs) hz)
   (λa F O=>⟨[],0,rfl,.nil⟩) h2 U.go.sysm (λF a o acc hF=>by refine bV acc λvs k q0'=>ay q0' λz0 hv=>?_;clear acc q0';subst z0;exact .list jj (hv.mono (fj hF))) hQ hU hUQ
 |DictComp key elt gs scope pos=>
  have h:AX G.cx E c.sc σ key elt gs scope=ac r:=h;unfold AX at h;refine IY h λt it ifs e h=>jp h λei h=>bj h λhc h=>aX h λp h1 h=>aX h λl h2 hh=>?_;(symm;subst e ei);cases hh;refine(?_:aG _ _ (comprehension (.DictComp key elt [⟨t,it,[],0⟩] scope pos) scope c.env (Hv [⟨t,it,[],0⟩] pos) newDict am (eval it c.env) use) _ _ _);exact Ip (o0:=gZ) (Acc:=Fs G) (stp:=FK E (mi c.sc scope) key elt) (b0:=([],[])) (Tail:=λD0 ce=>CF (aQ G.prog G.w) c.A [] key elt D0 ce) R S (.of hc) rfl (ME H U.it U.en R S h1)
   (λs Q hq=>vE hq (by first|exact eG _|trivial)) rfl (λitv acc ce R s h0 hs=>codeAny_compStart_dict h0 (nu (hs _ h0))) (λI D0 ce=>O5) (λa F o b h=>by refine aw h λvs q2'=>ay q2' λp O=>?_;clear h q2';exact p.cell)
   (λci D0 ad m σ F s o b r Z hA hsc hD S hh ho acc hs hz=>by refine af hA.symm ?_;exact US hD H (by refine af hA ?_;exact R) S hh ho acc (by refine af hsc ?_;exact hs) hz)
   (λa F hs=>⟨[],⟨Iq,hs,rfl,(λO h=>nomatch h)⟩,.nil⟩) h2 U.go.sysm (λF a o acc hF=>by refine aw acc λvs q1'=>ay q1' λp hv=>?_;clear acc q1';exact .dict jj p (hv.mono (fj hF))) hQ hU hUQ
 |_=>exact aW h
def RT(c:bU)(σ:aA)(h:cY)(v:aF):Prop:=∀y dy u,ba y σ=ac (.ow dy)->c.m y=ac u->∀a∈dZ h v,a∉dZ h u
def qg(G:cg)(c:bU)(σ:aA)(F:bn)(d:ak)(v:aF)(s:aC):Prop:=∃F',cJ F F'/\aO G c σ F' s/\gg G F' s.heap v d/\qx G F' c s.heap v/\RT c σ s.heap v
theorem qg.le(l:cJ F F')(x:qg G c σ F' d v s):qg G c σ F d v s:=x.imp λO p=>⟨l.trans p.1,p.2⟩
theorem qg.data(x:qg G c σ F d v s):be (aO G c σ) F (aZ G d) v s:=by
 refine aw x λF1 q1'=>mq q1' λaY S o al ap=>?_;clear x q1';refine aw (S.freeze o al ap) λF2 q0'=>bu q0' λb6 S2 r=>?_;clear q0';exact⟨F2,aY.trans b6,S2,r⟩
theorem Ls(S:aO G c σ F s)(k:iD s s')(hn:s.heap.get? a=ae)(ha:dZ s'.heap (.ref a)=[a])(ho:gg G F s'.heap (.ref a) d):qg G c σ F d (.ref a) s':=by
 refine⟨F,.rfl,S.ext k,ho,λb hb=>?_,λy dy u hy hu b hb hm=>?_⟩<;>rw [ha]at hb<;>have:=dm.mp hb<;>subst this
 ·refine⟨⟨S.ok.fresh hn,?_,S.ok.notab hn⟩,λe=>?_⟩
  ·cases hq:c.K b with
   |none=>rfl
   |some o=>rw [S.kept b o hq]at hn;exact mD hn
  ·refine aw S.ns λmL q1'=>ay q1' λz0 O=>gB z0 λo es ep q2'=>ay q2' λh1 O=>?_;clear q1' z0 q2'
   rw [<-e,hn]at h1;exact aW h1
 ·refine aw (S.names y _ hy) λu' q0'=>ay q0' λhu' hb'=>?_;clear q0'
  have e:u'=u:=eJ (hu'.symm.trans hu);subst e;have same:∀a∈dZ s.heap u',s'.heap.get? a=s.heap.get? a:=λa ha=>by
   refine aw (hb'.1.here a ha) λo ho=>?_;exact af ho (af (k.keep a o ho) rfl)
  rw [mx same]at hm;refine aw (hb'.1.here b hm) λo ho=>?_;rw [hn]at ho;exact aW ho
theorem Ga{s:aC}{tk:Nat}(ht:s.toks<=tk):iD s {s with heap:=s.heap.push o,toks:=tk}:=⟨λb o e=>eN _ e,rfl,rfl,ht⟩
theorem Kx(S:aO G c σ F s)(r:br G F vs ds):qg G c σ F (.list ds) (.ref s.heap.objs.size) {s with heap:=s.heap.push (dg vs 0)}:=
 have hp:(s.heap.push (dg vs 0)).get? s.heap.objs.size=ac (dg vs 0):=fZ _ rfl
 Ls S (Ga (bZ _)) (fW _) (qB hp) (.list hp r)
theorem W7(U:rj G)(S:aO G c σ F s):(s.heap.objs.size==vr)=am:=by
 rw [beq_eq_false_iff_ne];intro e;refine aw U.sysm λo q=>?_;have:=S.ok.sat _ _ (S.ok.base _ _ q);rw [<-e,fW]at this;exact aW this
theorem LW{c:bU}(U:rj G)(H:dp G E n)(R:bX n c.A)(S:aO G c σ F s)(h:Gs E c.sc σ ks vs=ac r):aG (aQ G.prog G.w) c.A (eval (.Dict ks vs pos) c.env) (qg G c r.2 F r.1) aU s:=by
 have hp:(s.heap.push gZ).get? s.heap.objs.size=ac gZ:=fZ _ rfl;have p0:jS G gZ [] [] s.heap.objs.size:=⟨Iq,W7 U S,rfl,λO h=>nomatch h⟩;refine dG h (λh=>jp h λek h=>jp h λev h=>?_) λh=>fy h λk ek h=>fy h λv ev h=>aX h λk1 ek1 h=>aX h λbC h1 h=>ff h λx nx ex h=>aX h λq2 h2 hh=>?_
 ·(symm;subst ek ev)
  cases h;refine(?_:aG _ _ (do Dc pos;Oa []) _ _ _);refine bv (nJ ?_);have hd:Oa []=(do match(ae:Option bw)with|some d=>pure (.ref d)|none=>newDict):=by
   first
    |rfl
    |simp [Oa]
  refine af hd ?_;exact vE (Ls (s':={s with heap:=s.heap.push gZ}) S (Ga (bZ _)) (fW _) (s9 hp p0) (.dict hp p0 .nil)) (by first|exact eG _|trivial)
 ·(symm;subst ek ev ek1)
  cases hh;have hD:s.heap.get? s.heap.objs.size=ae:=fW _;have zq:=(S.aside (ad:=[s.heap.objs.size]) (Ga (o:=gZ) (bZ _)) λa ha=>by refine af (dm.mp ha) ?_;exact hD);refine ay zq λhK SK=>?_;clear zq;refine wpAny_Dict_walk (knd:=strKind G.prog G.w) rfl rfl (by simp) (by simp) ?_;refine pairTrees_cons_walk (be.seq (H.ev (c.kp (dT c.K [s.heap.objs.size] (s.heap.push gZ))) σ F _ k1 bC R SK h1) λkv F1 s1 aY S1 r1=>?_);refine be.seq (H.ev (c.kp (dT c.K [s.heap.objs.size] (s.heap.push gZ))) bC.2 F1 s1 v q2 R S1 h2) λvv F2 s2 b6 S2 r2=>pairTrees_nil_walk ?_;have r1:=aH.mono b6 r1;rw [ex]at r1;refine aH.str_el r1 λtk e O hax=>?_;(symm;subst e);have hex:∀a∈[s.heap.objs.size],∃o,(s.heap.push gZ).get? a=ac o:=λa ha=>by refine af (dm.mp ha) ?_;exact⟨_,hp⟩
  have e2:=rB (c:=c) S2 hex;have hD2:s2.heap.get? s.heap.objs.size=ac gZ:=(e2 _ (dm.mpr rfl)).trans hp;refine⟨[(toS x,vv)],⟨C6 _ _ _ _,rfl,trivial⟩,rW.mpr ⟨_,hD2,p0.1⟩,λh' hn hs=>?_⟩;refine aw (rW.mp hn) λo7 q2'=>ay q2' λho7 hd7=>?_;clear q2';have p7:jS G o7 [x] [vv] s.heap.objs.size:=⟨hd7,p0.2.1,rfl,λk aB=>by refine af (dm.mp aB) ?_;exact hax⟩;have S2':aO G (c.kp (dT c.K [s.heap.objs.size] s2.heap)) q2.2 F2 s2:=by refine af (uf e2) ?_;exact S2
  have hF2:F2 s.heap.objs.size=ae:=by
   cases hq:F2 s.heap.objs.size with
   |none=>rfl
   |some o=>exact nomatch (S2'.apart _ o hq).symm.trans ((pv (dm.mpr rfl)).trans hD2)
  have S7:=(S2'.moves (c:=c) (@iK.one _ _ _ [] (s2.toks+[(xE (toS x) tk,vv)].length) hs (mS _ _)) λa ha=>by
   refine af (dm.mp ha) ?_;exact⟨⟨_,hD2⟩,λw ⟨o',h1,h2⟩=>by rw [hD2]at h1;cases h1;cases h2⟩).dropKeep (c:=c) hK
  have hno:∀a,dT c.K [s.heap.objs.size] s2.heap a=ae->a≠s.heap.objs.size:=λa q e=>by rw [e,pv (dm.mpr rfl),hD2]at q;cases q
  refine⟨F2,aY.trans b6,S7,.dict ho7 p7 (.cons r2 .nil),λb hb=>?_,λy dy u hy hu b hb hm=>?_⟩<;>rw [s9 ho7 p7]at hb<;>rw [dm.mp hb]at*
  ·exact⟨⟨hF2,hK _ (dm.mpr rfl),S.ok.notab hD⟩,λe=>hno _ S2'.loc.2.1 e.symm⟩
  ·refine aw (S2'.names y _ hy) λu' q1'=>ay q1' λhu' hb'=>?_;clear q1'
   have eu:u'=u:=eJ (hu'.symm.trans hu);subst eu;have no:∀a∈dZ s2.heap u',a≠s.heap.objs.size:=λa ha=>hno a (hb'.2 a ha).1.2.1;rw [mx λa ha=>hs.2 a (no a ha)]at hm;exact no _ hm rfl
theorem YX{c:bU}(U:rj G)(H:dp G E n)(R:bX n c.A)(S:aO G c σ F s)(h:nR E c.sc σ e=ac r):ty e=ag/\aG (aQ G.prog G.w) c.A (eval e c.env) (qg G c r.2 F r.1) aU s:=by
 induction e using fw<;>first|exact aW h|skip
 ·rename_i a op b pos
  induction op using Hl<;>first|exact aW h|skip
  refine aX h λp hp h=>iI h λxs ex h=>aX h λq hq h=>iI h λys ey h=>bj h λhl h=>⟨rfl,?_⟩;refine bG h ?_;refine zR (be.seq (H.ev c σ F s a p R S hp) λva F1 s1 aY S1 r1=>be.seq (H.ev c p.2 F1 s1 b q R S1 hq) λvb F2 s2 b6 S2 r2=>?_);have r1:=aH.mono b6 r1;rw [ex]at r1;rw [ey]at r2;refine aH.list_el r1 λa1 vs k e1 hF hv=>aH.list_el r2 λb1 ws j e2 hF2 hw=>?_;(symm;subst e1 e2);refine ZW (S2.ok.sat _ _ hF) (S2.ok.sat _ _ hF2) (by rw [I7];exact qg.le (aY.trans b6) (Kx S2 (hv.append hw))) ?_;have h1:=hv.length;have h2:=hw.length;have hl:=blt hl;refine af gM ?_;simp [lim]at hl⊢;lia
 ·exact⟨rfl,LW U H R S h⟩
 ·rename_i es pos
  refine bj h λhn h=>bj h λhl h=>aX h λp hp h=>⟨rfl,?_⟩;refine bG h ?_;exact List_ (be.seq (wn H R pos es σ F s p S hn hp) λvs F1 s1 aY S1 r1=>vE (qg.le aY (Kx S1 r1)) (GI hl (DX es hp) r1.length))
abbrev kj(G:cg)(c:bU)(F:bn)(r:cQ×aA):Flow->aC->Prop:=be (gN G c r.2) F (rS G r.1)
theorem nS{J:gN G c σ F' s}(l:cJ F F')(h:go σ=ac r):kj G c F r .next s:=by refine bG h ?_;exact⟨F',l,J,rfl⟩
theorem Nk{G:cg}{c:bU}(hc:ty e=ag)(h1:aG (aQ G.prog G.w) c.A (eval e c.env) (λv s1=>∃F1,cJ F F1/\aO G c σ1 F1 s1/\uq G F1 c s1.heap v b/\∀d y dy u,b=.ow d->ba y σ1=ac (.ow dy)->y≠x->c.m y=ac u->∀a∈dZ s1.heap v,a∉dZ s1.heap u) aU s)(h2:iT c.sc σ1 x b=ac σ')(h3:go σ'=ac r):aG (aQ G.prog G.w) c.A (exec (.Assign [.Name x p] e pos) c.env) (kj G c F r) aU s:=by
 refine af (aah c.env x p e pos (by induction e using fw<;>first|rfl|exact bR hc)) ?_;refine bv (nJ (bv (cn h1 (λv s1 q=>?_) λO O z=>z)));refine aw q λF1 q2'=>dH q2' λaY S1 hb hd=>?_;clear q q2';exact bv (nJ (bv (cn (zc S1 hb hd h2) (λO s2 S2=>cq (nS (J:=S2) aY h3)) λO O z=>z)))
theorem ZH{c:bU}(H:dp G E n)(U:uZ G E n)(R:bX n c.A)(S:aO G c σ F s)(h1:nh G.cx E c.sc σ e=ac q)(h2:iT c.sc q.2 x (.fz q.1)=ac σ')(h3:go σ'=ac r):
  aG (aQ G.prog G.w) c.A (exec (.Assign [.Name x p] e pos) c.env) (kj G c F r) aU s:=by
 have hc:(∃elt gs scope pos,e=.ListComp elt gs scope pos)\/∃key elt gs scope pos,e=.DictComp key elt gs scope pos:=by
  induction e using fw<;>first|exact .inl ⟨_,_,_,_,rfl⟩|exact .inr ⟨_,_,_,_,_,rfl⟩|exact aW h1
 have hsw:∃b,swapsWith e (ac (.Name x p)) pos.line c.env=pure b:=by
  rcases hc with⟨_,_,_,_,rfl⟩|⟨_,_,_,_,_,rfl⟩<;>exact⟨_,rfl⟩
 refine aw hsw λb hb=>?_;clear hsw;induction b using hO with
 |false=>
  refine af (aah c.env x p e pos hb) ?_;have he:eval e c.env=Bi e c.env ae:=by rcases hc with⟨_,_,_,_,rfl⟩|⟨_,_,_,_,_,rfl⟩<;>rfl
  refine af he ?_;exact bv (nJ (bv (Dw (σ':=σ') H U R S h1 (λO v F1 s1 aY S1 r1=>bv (nJ (bv (cn (zc (b:=.fz q.1) S1 r1 (λO O O O e=>nomatch e) h2) (λO s2 S2=>cq (nS (J:=S2) aY h3)) λO O z=>z)))) (λu hu=>nomatch hu) λhu=>nomatch hu)))
 |true=>
  have he:exec (.Assign [.Name x p] e pos) c.env=(do
    Dc pos
    evalThenUse e c.env (assign (.Name x p) c.env)
    return .next):=exec_Assign_Name_used x p e pos hb
  have hu:evalThenUse e c.env (assign (.Name x p) c.env)=(do let _<-Bi e c.env (ac (assign (.Name x p) c.env))):=by rcases hc with⟨_,_,_,_,rfl⟩|⟨_,_,_,_,_,rfl⟩<;>rfl
  refine af he (af hu ?_);refine bv (nJ (bv (bv (Dw (σ':=σ') (Q:=λO s'=>aG (aQ G.prog G.w) c.A (pure ():gw Unit) (λO s''=>aG (aQ G.prog G.w) c.A (pure Flow.next:gw Flow) (kj G c F r) aU s'') aU s') H U R S h1 (λhu=>mD hu) (λu hu K' F' s' v l' S' r'=>?_) (λO F'' s'' l S'=>?_)))))
  ·refine bG hu ?_
   exact yq (c:=c.kp K') S' r' h2
  ·exact cq (cq (nS (J:=S') l h3))
theorem wY{P:Prop}(h:pS σ x f=ac r)(k:∀d,ba x σ=ac (.ow d)->f d=ac r->P):P:=aX h λb hb h=>by
 induction b using bk.casesOn with
 |fz d=>exact aW h
 |ow d=>exact k d hb h
theorem Js(S:aO G c σ F s)(hx:ba x σ=ac (.ow (.list ds))){P:Prop}(k:∀a vs j,c.m x=ac (.ref a)->s.heap.get? a=ac (dg vs j)->br G F vs ds->P):P:=by
 refine aw (S.names x _ hx) λv q1'=>bu q1' λhv ho hf=>?_;clear q1';cases ho with
 |list ho r=>exact k _ _ _ hv ho r
theorem Ig(S:aO G c σ F s)(hx:ba x σ=ac (.ow o))(hv:c.m x=ac v)(aB:aH G F kv k)(hd:aH G F w d)(h:mB o k d=ac o'):
  aG (aQ G.prog G.w) c.A (setItem v kv w) (λO s'=>aO G c (put x (.ow o') σ) F s') aU s:=by
 refine aw (S.names x _ hx) λv' q0'=>bu q0' λhv' ho hal=>?_;clear q0';have ev:v'=v:=eJ (hv'.symm.trans hv);subst ev;refine dG h (λh=>rG h λks ds eo h=>ff h λF8 nk ek h=>bj h λhb hh=>?_) λh=>iI h λds eo h=>jw h λi ni ek h=>aX h λj hj hh=>?_
 ·(symm;subst eo ek)
  refine bG hh ?_;cases ho with
  | @dict a ob ks vs ds ho p r=>
   refine aH.str_el aB λtk e O hax=>?_;(symm;subst e);refine MK (t:=tk) ho p r hd hax hb (λQ hq hsz=>wpAny_setItem_pairs (C6 _ _ _ _) (rW.mpr ⟨ob,ho,p.1⟩) hq hsz) λh' o7 vs' ho7 p7 hv7 hs=>?_;refine S.turn hx hv ⟨λb o hb e=>(hs.2 b λq=>hb (by refine af (s9 ho p) (af q ?_);exact dm.mpr rfl)).trans e,rfl,rfl,mK _⟩ (by refine af (s9 ho p) ?_;exact s9 ho7 p7) (.dict ho7 p7 hv7)
 ·(symm;subst eo ek)
  refine bG hh ?_;cases ho with
  | @list a vs j0 ds ho r=>
   refine aH.int_el aB λtk e O=>?_;(symm;subst e);have fin:∀(f:Array aF->Array aF),f vs.toArray=(vs.set j w).toArray->aO G c (put x (.ow (.list (ds.set j d))) σ) F {s with heap:=s.heap.update a (nN f)}:=λf hf=>by
    have hu:=N8 (show N9 s.heap a vs.toArray j0 from ho) f;rw [hf]at hu;have sb:=xD s.heap a (nN f);exact S.turn (s':={s with heap:=s.heap.update a (nN f)}) hx hv ⟨λb o hb e=>(sb.2 b λq=>hb (by refine af (qB ho) (af q ?_);exact dm.mpr rfl)).trans e,rfl,rfl,bZ _⟩ (by refine af (qB ho) ?_;exact qB hu) (.list hu (r.set hd j))
   rw [<-r.length]at hj;refine dH (xm hj) λh1 h2 h3 h4=>?_;rcases h1 with rfl|⟨rfl,h1⟩
   ·exact ki_setAt (n:=j0) (items:=vs.toArray) ho (Hm _) h4 (by refine af eO ?_;simp_all) (fin _ (by refine(?_:vs.toArray.setIfInBounds j w=_);simp))
   ·refine ki_setBack (n:=j0) (items:=vs.toArray) ho h1 (by refine af eO ?_;lia) h3 (fin _ ?_)
    have e:((j:Int)-(vs.length:Int)+(vs.toArray.size:Int)).toNat=j:=by refine af eO ?_;simp
    simp only [e];simp
theorem YL{c:bU}(ts:List aK):∀{σ σ':aA},An c.sc d ts σ=ac σ'->(Dd ts c.env).map (·.2)=ts.map (λt=>assign t c.env):=by
 induction ts with
 |nil=>exact λO=>rfl
 |cons t r ih=>
  intro σ σ' h;refine lN h λy p e h=>aX h λσ1 O hh=>?_;(symm;subst e);refine(?_:assign (.Name y p) c.env::(Dd r c.env).map (·.2)=_);refine af (ih hh) ?_;rfl
theorem Xn{c:bU}(ts:List aK):∀(m:aL->Option aF)(σ σ':aA)(s:aC),aO G (c.vl m) σ F s->aH G F v d->An c.sc d ts σ=ac σ'->aG (aQ G.prog G.w) c.A (assignAll v (ts.map λt=>assign t c.env)) (u9 G c σ' F) aU s:=by
 induction ts with
 |nil=>intro m σ σ' s S _ h;refine bG h ?_;exact cq ⟨m,S⟩
 |cons t r ih=>
  intro m σ σ' s S hv h;refine lN h λy p e h=>aX h λσ1 h1 hh=>?_;(symm;subst e);induction r using dD with
  |nil=>refine bG hh ?_;exact yq (c:=c.vl m) S hv h1
  |cons u r=>
   refine(?_:aG _ _ (do holding [v] (assign (.Name y p) c.env v);assignAll v ((u::r).map λt=>assign t c.env)) _ _ _);exact bv (qp (cn (yq (c:=c.vl m) S hv h1) (λO s1 S1=>S1.elim λm1 S1=>ih m1 σ1 σ' s1 S1 hv hh) λO O z=>z))
theorem Lt(hf:bD G F s)(ra:aH G F va a)(rb:aH G F vb b)(h:Ex a b=ac d):aP G A (inplaceOp .Add va vb) F s (aZ G d):=
 nz (P:=λva vb=>aP G A (inplaceOp .Add va vb) F s (aZ G d)) h ra rb λi n j m t u hi hj h=>aP.ret h (aP.int hf (tw (intBits_add_le (og hi) (og hj))) λQ h=>P.iadd_int h)
theorem EN(h:bt a b=ag):(a==b)=ag:=by refine af (f0 h) ?_;exact beq_self_eq_true b
theorem V3{c:bU}(H:dp G E n)(R:bX n c.A)(S:aO G c σ F s)(h:Iu E c.sc σ e=ac r):aG (aQ G.prog G.w) c.A (exec (.Expr e spos) c.env) (kj G c F r) aU s:=by
 induction e using fw with
 |Call f args kws pos=>?_
 |_=>exact aW h
 refine jp h λek h=>fy h λe ea h=>?_;induction f using fw with
 |Attribute o mt apos=>?_
 |_=>exact aW h
 refine lN h λy p eo h=>bj h λhmt h=>bj h λhm h=>bj h λhl h=>bj h λhst h=>wY h λo0 hx0 h=>iI h λds0 e0 h=>aX h λq hq h=>wY h λo1 hx1 h=>iI h λds e1 h=>bj h λhb hh=>?_;(symm;subst ek ea eo e0 e1);have:=jq.mp hmt;subst this;refine Js S hx0 λa vs0 k0 hv ho0 O=>?_;have hi:interactive c.env=am:=by unfold interactive;refine af S.eo.kind ?_;rfl
 have hst':lY [e] c.env=[(am,eval e c.env)]:=ua (by simpa using hst);refine wpAny_Expr (wpAny_Call_method_lateS rfl (by refine af hst' ?_;rfl) (EN hl) (vg S hm hv ?_)) hi rfl;refine⟨"list","list.append",PySem.F.plainAttrs_list,aad,PySem.F.type_list_append,⟨_,ho0,rfl⟩,λb hb=>?_,?_⟩
 ·cases hb;exact⟨_,ho0,rfl⟩
 ·refine af hst' ?_
  refine PySem.P.append_list (x:=eval e c.env) (be.seq (H.ev c σ F s e q R S hq) λv F1 s1 aY S1 r1=>Js S1 hx1 λa' vs k hv' ho hr=>?_);have ea:j7 a'=.ref a:=eJ (hv'.symm.trans hv);cases ea;have hlen:=hr.length;have hb:=blt hb;simp only [lim]at hb;refine⟨vs.toArray,k,by refine af gM (af eO ?_);lia,ho,?_⟩;have hu:=N8 (show N9 s1.heap a vs.toArray k from ho) (λxs=>xs.push v);rw [Ko]at hu;have sb:=xD s1.heap a (nN λxs=>xs.push v);exact nS (J:=gN.of (S1.turn (s':={s1 with heap:=s1.heap.update a (nN λxs=>xs.push v)}) hx1 hv ⟨λb o hb e=>(sb.2 b λq=>hb (by refine af (qB ho) (af q ?_);exact dm.mpr rfl)).trans e,rfl,rfl,bZ _⟩ (by refine af (qB ho) ?_;exact qB hu) (.list hu (hr.append (.cons r1 .nil))))) aY hh
theorem U4{c:bU}(H:dp G E n)(R:bX n c.A)(S:aO G c σ F s)(h:(ob (E.ts c.sc σ t) λp=>aN (b9 E c.sc b p.2) (b9 E c.sc a p.2) p.1)=ac r):aG (aQ G.prog G.w) c.A (exec (.If t a b pos) c.env) (kj G c F r) aU s:=by
 refine aX h λp hp h=>wpAny_If (be.seq (H.ts c σ F s t p R S hp) λb' F1 s1 aY S1 e=>?_);obtain⟨b0,σ1⟩:=p;have e:b'=b0:=e;(symm;subst e);induction b' using hO<;>exact be.weakW aY (we (c:=c) H R _ c.m σ1 F1 s1 r S1 h)
theorem SA{c:bU}(H:dp G E n)(hI:v3 G n)(R:bX n c.A)(S:aO G c σ F s)(hset:nU it=am)(h1:E.ev c.sc σ it=ac p)(h2:sP t p.1=ac l)(h3:lO E c.sc t body l p.2=ac r):
  aG (aQ G.prog G.w) c.A (exec (.For t it body [] pos) c.env) (kj G c F r) aU s:=by
 refine wpAny_For (be.seq (H.ev c σ F s it p R S h1) λx F1 s1 aY S1 r1=>cn (hI c.A F1 s1 x p.1 t l R S1.ok r1 h2) (λitv s2 q=>?_) λO O z=>z) (Lg hset c.env);refine gB q λI ad St q2'=>mq q2' λz0 k st W hn=>?_;clear q q2';subst z0;refine ay (S1.aside k hn) λhK SK=>?_;exact zZ (Xq H R W hK h3 SK st .rfl) λx s3 q=>q.elim λfl q=>by refine af q.1 ?_;exact q.2.weak aY
theorem XQ{c:bU}(H:dp G E n)(R:bX n c.A)(S:aO G c σ F s)(hh:(!eW hs)=ag)(h:b9 E c.sc body σ=ac r):aG (aQ G.prog G.w) c.A (exec (.Try body hs [] [] pos) c.env) (kj G c F r) aU s:=by
 induction hs using dD with
 |nil=>exact bR hh
 |cons h0 hs=>
  refine wpAny_Try_except (cn (we (c:=c) H R body c.m σ F s r S h) (λfl s1 q=>?_) λO O z=>z.elim);induction fl using aaa with
  |next=>exact zU q
  |_=>exact q
structure rF(G:cg):Prop where
 set:∀(A:cH)(s:aC)(a dx:bw)(es:List qj)(j:Nat)(name:aL)(v:aF),(∀a o,G.F0 a=ac o->s.heap.get? a=ac o)->s.heap.get? a=ac (jr G dx)->s.heap.get? dx=ac (j6 es j)->has name G.cx.attrs=ag->(oH name es).isSome=ag->es.length<=900->
  ∀Q:Unit->aC->Prop,(∀h' hsh t j' tk,h'.get? dx=ac (j6 (vI name hsh (.str name t) v es) j')->mO dx s.heap h'->s.toks<=tk->Q () {s with heap:=h',toks:=tk})->aG (aQ G.prog G.w) A (setAttr (.ref a) name v) Q aU s
 get:∀(A:cH)(s:aC)(a dx:bw)(es:List qj)(j:Nat)(name:aL)(v:aF),(∀a o,G.F0 a=ac o->s.heap.get? a=ac o)->s.heap.get? a=ac (jr G dx)->s.heap.get? dx=ac (j6 es j)->has name G.cx.attrs=ag->oH name es=ac (ac v)->zY v=ag->
  ∀(e:Bool)(Q:aF->aC->Prop),(∀k,Q v {s with toks:=k})->aG (aQ G.prog G.w) A (vK (.ref a) name e) Q aU s
theorem NC:(xE (toS k) t).isStr y=le y.cps.toList k:=by
 refine(?_:(toS k==y)=_);rw [Hn,beq_iff_eq,lS];exact⟨λe=>e▸rfl,λe=>e▸rfl⟩
theorem kR.cons_get{h:Int}:oH y (⟨h,.str (toS k) t,v⟩::es)=if le y.cps.toList k=ag then ac (ac v)else oH y es:=by
 unfold oH;refine af (NM) ?_;dsimp only;refine af NC ?_;cases le y.cps.toList k with
 |true=>rfl
 |false=>rfl
theorem kR.get(h:kR es ks vs){y:aL}:∀{ds:List ak},br G F vs ds->(∀d,uV y.cps.toList ks ds=ac d->∃v,oH y es=ac (ac v)/\aH G F v d)/\(uJ y.cps.toList ks=am->oH y es=ac ae)/\(oH y es).isSome=ag:=by
 induction h with
 |nil=>exact λO=>⟨λd h=>aW h,λO=>rfl,rfl⟩
 | @cons hh t k v es ks vs r ih=>
  intro ds hv;induction ds using dD with
  |nil=>exact IH hv
  |cons d ds=>
   refine hv.cons_er λv' ws e hr rr=>?_;cases e;refine bu (ih rr) λi1 i2 i3=>?_;refine af kR.cons_get ?_;refine(?_:(∀d',@aN (λO=>Option ak) (uV y.cps.toList ks ds) (ac d) (le y.cps.toList k)=ac d'->_)/\(@aN (λO=>Bool) (uJ y.cps.toList ks) ag (le y.cps.toList k)=am->_)/\_);cases le y.cps.toList k with
   |true=>exact⟨λd' e=>⟨v,rfl,by refine bG e ?_;exact hr⟩,(nomatch ·),rfl⟩
   |false=>exact⟨λd' e=>i1 d' e,λe=>i2 e,i3⟩
theorem kR.put(h:kR es ks vs)(hr:aH G F w d):∀{ds:List ak},br G F vs ds->∃vs',kR (vI y hsh (.str y t) w es) (jL y.cps.toList d ks ds).1 vs'/\br G F vs' (jL y.cps.toList d ks ds).2:=by
 have ey:toS y.cps.toList=y:=by simp [toS]
 induction h with
 |nil=>exact λO=>⟨[w],by refine(?_:kR [⟨hsh,.str y t,w⟩] [y.cps.toList] [w]);have:=@kR.cons hsh t y.cps.toList w [] [] [] .nil;rw [ey]at this;exact this,.cons hr .nil⟩
 | @cons hh t' k v es ks vs r ih=>
  intro ds hv;induction ds using dD with
  |nil=>exact IH hv
  |cons d0 ds=>
   refine hv.cons_er λv' ws e h0 rr=>?_;cases e;refine af Jl ?_;refine(?_:∃vs',kR (if(xE (toS k) t').isStr y=ag then⟨hh,.str (toS k) t',w⟩::es else⟨hh,.str (toS k) t',v⟩::vI y hsh (.str y t) w es) _ _/\_);refine af NC ?_;cases le y.cps.toList k with
   |true=>exact⟨w::vs,.cons r,.cons hr rr⟩
   |false=>
    refine aw (ih rr) λvs' q0'=>ay q0' λe1 e2=>?_;clear q0';exact⟨v::vs',.cons e1,.cons h0 e2⟩
theorem kR.length(h:kR es ks vs):es.length=ks.length:=by
 induction h with
 |nil=>rfl
 |cons _ ih=>exact congrArg (· +1) ih
theorem Px{c:bU}(I:rF G)(H:dp G E n)(R:bX n c.A)(S:aO G c σ F s)(hm:ji c.sc x=ag)(ha:has a G.cx.attrs=ag)(hc:ty e=ag)(hq:E.ev c.sc σ e=ac q)(hx:ba x q.2=ac (.ow (.inst ks ds)))(hl:bB ks.length 500=ag)(h:go (put x (.ow (.inst (jL a.cps.toList q.1 ks ds).1 (jL a.cps.toList q.1 ks ds).2)) q.2)=ac r):aG (aQ G.prog G.w) c.A (exec (.Assign [.Attribute (.Name x p) a ap] e pos) c.env) (kj G c F r) aU s:=by
 refine plainObj_wpAny_Assign_Attribute (be.seq (H.ev c σ F s e q R S hq) λv F1 s1 aY S1 r1=>?_) (by induction e using fw<;>first|rfl|exact bR hc);refine aw (S1.names x _ hx) λw q2'=>bu q2' λhw ho hal=>?_;clear q2';refine vg S1 hm hw ?_;cases ho with
 | @inst b dx ob ks vs ds ho h2 ne ip r=>
  refine bV ip λes j q1'=>ay q1' λz0 ep=>?_;clear ip q1';subst z0;have hl:=blt hl;have el:=ep.length;refine I.set c.A s1 b dx es j a v (λa o e=>S1.ok.sat a o (S1.ok.base a o e)) ho h2 ha (ep.get (y:=a) r).2.2 (by lia) _ λh' hsh t j' tk hg hs ht=>?_;refine aw (ep.put (y:=a) (hsh:=hsh) (t:=t) r1 r) λvs' q0'=>ay q0' λe1 e2=>?_;clear q0';have hob:=(hs.2 b λq=>ne q.symm).trans ho;exact nS (J:=gN.of (S1.turn (s':={s1 with heap:=h',toks:=tk}) hx hw ⟨λb' o hb e=>(hs.2 b' λq=>hb (by refine af (sJ ho) (af q ?_);exact cW _ ck)).trans e,rfl,rfl,ht⟩ (by refine af (sJ ho) ?_;exact sJ hob) (.inst hob hg ne ⟨_,j',rfl,e1⟩ e2))) aY h
set_option backward.match.sparseCases true
noncomputable def xZ(T:String):Bool:=["enumerate","zip","dict_itemiterator","dict_reverseitemiterator","odict_iterator","itertools.zip_longest","itertools.pairwise"].contains T
theorem QZ{A:cH}{s:aC}{v:aF}{M:lq}{I:bw}{cM:aK}{Q:Unit->aC->Prop}{Er:aF->aC->Prop}{o:aJ}{T:String}(ho:s.heap.get? I=ac o)(hc:o.cls=.type T)(hn:xZ T=am)(hQ:Q () s):aG M A (De cM (.ref I) v) Q Er s:=by
 have key:aG M A (do
   let(.ref r,.ref a):=(j7 I,v)|return
   let o<-load r
   match o.cls,o.data with
   |.type n,.fields vs=>
    if xZ n&&vs[0]? ==ac (bO a)then
     rule "for.unpacks-the-owned-tuple"
     updateField r 0 .none
   |_,_=>pure ():gw Unit) Q Er s:=by
  induction v using vA<;>first|exact cq hQ|skip
  rename_i a;refine(?_:aG M A (load I>>=_) Q Er s);refine bv (wpAny_load ho ?_);rw [hc];obtain⟨oc,od,da,sl⟩:=o;cases da<;>first|exact cq hQ|skip
  rename_i vs;refine(?_:aG M A (if(xZ T&&vs[0]? ==ac (bO a))=ag then _ else _) Q Er s);rw [hn,Bool.false_and,if_neg (by decide)];exact cq hQ
 induction cM using fw<;>first|exact cq hQ|exact key
theorem ES{G:cg}{ds:List ak}(W:KTurns G.prog G.w A cM I fp wr n P Md Stw)(hfp:∀b∈fp,b∈wr\/∃o,F b=ac o)(hI:∀i h,Stw i h->kU wr h)(hM:∀i v h,Md i v h->kU wr h)(hn:ds.length=n)(hP:∀i v d F' (s:aC),P i v s.heap->ds[i]? =ac d->cJ F F'->BY G F' s v d/\(rL cM=am->aH G F' v d))(hF:∀a∈wr,∀o,F a=ac o->False)(hs:∀i (s:aC) (Q:aF->aC->Prop),Stw i s.heap->Q (.ref I) s->aG (aQ G.prog G.w) A (rZ (.ref I)) Q aU s):
  qv G A I cM F wr (λl h=>cJ F h.get?/\∃i,Stw i h/\i<=n/\l=ds.drop i):=by
 have mv:∀{s:aC} {h':cY} {tk:Nat},s.toks<=tk->(∀b o,b∉wr->s.heap.get? b=ac o->h'.get? b=ac o)->iK wr s {s with heap:=h',toks:=tk}:=λht aB=>⟨aB,rfl,rfl,ht⟩;have lf:∀{h h':cY},cJ F h.get?->(∀b o,b∉wr->h.get? b=ac o->h'.get? b=ac o)->cJ F h'.get?:=λhf aB b o e=>aB b o (λhb=>hF b hb o e) (hf b o e);refine⟨λl h st=>st.2.elim λi q=>hI i h q.1,λl h h' st aB hF'=>⟨hF',?_⟩,λd l F' s st le ok=>?_,λl s Q st hq=>st.2.elim λi q=>hs i s Q q.1 hq,λF' s st le ok=>?_⟩
 ·refine ay st ?_;clear st;intro hf q0';refine aw q0' λi q1'=>bu q1' λst hi e=>?_;clear q0' q1'
  refine⟨i,W.frame i h h' st (λb hb o ho=>?_),hi,e⟩;rcases hfp b hb with hb|⟨o',ho'⟩
  ·refine af (aB b hb) ?_;exact ho
  ·exact(eJ ((hf b o' ho').symm.trans ho))▸hF' b o' ho'
 ·refine ay st ?_;clear st;intro hf q1';refine aw q1' λi q2'=>bu q2' λst hi e=>?_;clear q1' q2'
  have hd:ds[i]? =ac d:=by
   have:(ds.drop i)[0]? =ac d:=by refine af e.symm ?_;rfl
   rw [List.getElem?_drop]at this;exact this
  have hlt:i<n:=by refine af hn.symm ?_;exact(C7.mp hd).1
  refine cn (oC (bZ s.toks) (W.item i s (λr s1=>s.toks<=s1.toks->iK wr s s1/\kU wr s1.heap/\∃v,r=ac v/\
   aG (aQ G.prog G.w) A (De cM (.ref I) v) (λO s2=>iK wr s1 s2/\(cJ F s2.heap.get?/\∃i,Stw i s2.heap/\i<=n/\l=ds.drop i)/\BY G F' s2 v d/\(rL cM=am->aH G F' v d)) aU s1) aU hlt st λv h' tk md aB ht=>
    ⟨mv ht aB,hM i v h' md,v,rfl,W.go i v _ _ _ md λh2 p st2 hk2=>⟨mv (s:={s with heap:=h',toks:=tk}) (bZ _) hk2,⟨lf (lf hf aB) hk2,i+1,st2,hlt,by refine af zM.symm (af e.symm ?_);rfl⟩,hP i v d F' _ p hd le⟩⟩)) (λr s1 q=>q.2 q.1) λO O z=>z.2
 ·refine ay st ?_;clear st;intro hf q2';refine aw q2' λi q0'=>bu q0' λst hi e=>?_;clear q2' q0'
  have hin:i=n:=by
   have:=congrArg fF e;rw [jA,Ob]at this;lia
  subst hin;exact cn (oC (bZ s.toks) (W.done s (λr s1=>s.toks<=s1.toks->r=ae/\iK wr s s1) aU st λh' tk aB ht=>⟨rfl,mv ht aB⟩)) (λr s1 q=>q.2 q.1) λO O z=>z.2
theorem w5{I:bw}{h:cY}{T:String}(q:∃o,h.get? I=ac o/\o.cls=.type T/\∀w,o.data≠.cell w):kU [I] h:=λa ha=>by
 refine aw q λo q1'=>bu q1' λho O hc=>?_;clear q q1';refine af (dm.mp ha) ?_;exact⟨⟨o,ho⟩,λw ⟨o',h1,h2⟩=>by rw [ho]at h1;cases h1;exact hc w h2⟩
theorem Qf{G:cg}{ds:List ak}(W:Walks G.prog G.w A I fp [I] n P Stw)(hfp:∀b∈fp,b=I\/∃o,F b=ac o)(hI:∀i h,Stw i h->∃o T,h.get? I=ac o/\o.cls=.type T/\xZ T=am/\∀w,o.data≠.cell w)(hn:ds.length=n)(hP:∀i v d,P i v->ds[i]? =ac d->aH G F v d)(hF:∀o,F I=ac o->False):
  qv G A I cM F [I] (λl h=>cJ F h.get?/\∃i,Stw i h/\i<=n/\l=ds.drop i):=
 have here:∀i h,Stw i h->kU [I] h:=λi h st=>(hI i h st).elim λo q=>q.elim λT q=>w5 ⟨o,q.1,q.2.1,q.2.2.2⟩
 ES (KTurns.ofWalks W λi v s Q Er st hQ=>(hI i s.heap st).elim λo q=>q.elim λT q=>QZ q.1 q.2.1 q.2.2.1 hQ) (λb hb=>(hfp b hb).imp (λe=>dm.mpr e) id) here (λi v h md=>here _ h md.2) hn
  (λi v d F' s p hd le=>⟨.inl (aH.mono le (hP i v d p hd)),λO=>aH.mono le (hP i v d p hd)⟩) (λa ha o e=>hF o (dm.mp ha▸e)) λi s Q st hq=>W.self i s Q aU st hq
def BF(G:cg)(A:cH)(F:bn)(s:aC)(t:aK)(l:List ak)(itv:aF)(s':aC):Prop:=∃I ad St,itv=.ref I/\iD s s'/\St l s'.heap/\qv G A I t F ad St/\∀a∈ad,s.heap.get? a=ae
theorem wW{s:aC}{ds:List ak}{tk:Nat}(ht:s.toks<=tk)(hf:bD G F s)(W:Walks G.prog G.w A s.heap.objs.size fp [s.heap.objs.size] m P Stw)(hfp:∀b∈fp,b=s.heap.objs.size\/∃o,F b=ac o)(hI:∀i h,Stw i h->∃o T,h.get? s.heap.objs.size=ac o/\o.cls=.type T/\xZ T=am/\∀w,o.data≠.cell w)(hn:ds.length=m)(hP:∀i v d,P i v->ds[i]? =ac d->aH G F v d)(h0:Stw 0 (s.heap.push o)):BF G A F s cM ds (.ref s.heap.objs.size) {s with heap:=s.heap.push o,toks:=tk}:=
 have k:iD s {s with heap:=s.heap.push o,toks:=tk}:=⟨λb o e=>eN _ e,rfl,rfl,ht⟩
 ⟨_,[s.heap.objs.size],λl h=>cJ F h.get?/\∃i,Stw i h/\i<=m/\l=ds.drop i,rfl,k,⟨λa o e=>k.keep a o (hf.sat a o e),0,h0,eG _,rfl⟩,Qf W hfp hI hn hP (λo e=>by rw [hf.fresh (fW _)]at e;exact aW e),λa ha=>by refine af (dm.mp ha) ?_;exact fW _⟩
theorem A2{F:bn}{I:bw}(h:F l=ac o):∀b∈[I,l],b=I\/∃o,F b=ac o:=λb hb=>(cI.mp hb).imp id λhb=>⟨o,by refine af (dm.mp hb) ?_;exact h⟩
theorem zx(h:br G F vs ds){i:Nat}(hv:vs.toArray[i]? =ac v)(hd:ds[i]? =ac d):aH G F v d:=by
 refine aw (h.get hd) λv' q1'=>ay q1' λhv' r=>?_;clear q1';rw [l6,hv']at hv;refine bG hv ?_;exact r
theorem ED(n:Nat):∀a,(fJ n a).length=n:=by
 induction n with
 |zero=>exact λO=>rfl
 |succ n ih=>exact λa=>congrArg (· +1) (ih (a+1))
theorem yx(i:Int):i.natAbs<2^dW i:=tw (by unfold dW Hj;split<;>simp)
theorem Iw(n:Nat):∀(a:Int)(i:Nat)(d:ak),(fJ n a)[i]? =ac d->d=.int (a+i) (dW (a+i)):=by
 induction n with
 |zero=>exact λa i d h=>aW h
 |succ n ih=>
  intro a i d h;induction i using j8 with
  |zero=>refine bG h ?_;exact af (show(a+((0:Nat):Int))=a from l7 a) rfl
  |succ i=>
   have:=ih (a+1) i d h;refine af (show a+((i+1:Nat):Int)=a+1+(i:Int) by lia) ?_;exact this
theorem R7(x:T):(jU x).length=x.length:=by
 induction x with
 |nil=>rfl
 |cons c r ih=>exact congrArg (· +1) ih
theorem Pf(x:T):∀(i:Nat)(d:ak),(jU x)[i]? =ac d->∃c,x[i]? =ac c/\d=.str [c] 1:=by
 induction x with
 |nil=>exact λi d h=>aW h
 |cons c r ih=>
  intro i d h;induction i using j8 with
  |zero=>refine bG h ?_;exact⟨c,rfl,rfl⟩
  |succ i=>exact ih i d h
theorem FL(x:List T):(re x).length=x.length:=by
 induction x with
 |nil=>rfl
 |cons c r ih=>exact congrArg (· +1) ih
theorem Nw(x:List T):∀(i:Nat)(d:ak),(re x)[i]? =ac d->∃c,x[i]? =ac c/\d=Bu c:=by
 induction x with
 |nil=>exact λi d h=>aW h
 |cons c r ih=>
  intro i d h;induction i using j8 with
  |zero=>refine bG h ?_;exact⟨c,rfl,rfl⟩
  |succ i=>exact ih i d h
theorem Ar{ks:List T}{vs:List aF}(h:ks.length=vs.length):((ks.map toS).zip vs).length=ks.length:=by rw [aag,gj,h,Nat.min_self]
theorem Ck{ks:List T}{i:Nat}(h:((ks.map toS).zip vs)[i]? =ac (k,x)):∃c,ks[i]? =ac c/\k=toS c/\vs[i]? =ac x:=by
 refine ay (List.getElem?_zip_eq_some.mp h) λh1 h2=>?_;rw [Hw]at h1;refine aw (C9.mp h1) λc q0'=>ay q0' λhc e=>?_;clear q0';exact⟨c,hc,e.symm,h2⟩
theorem Bp{s:aC}(ho:s.heap.get? a=ac o)(p:jS G o ks vs a):∃ep,s.heap.DictAt (strKind G.prog G.w) a ((ks.map toS).zip vs) ep:=by
 refine ay p λz0 O=>bV z0 λes ep r=>?_;clear p z0;exact⟨ep,o,es,ho,r⟩
theorem M7{x y:Int}(hx:x.natAbs<2^20)(hy:y.natAbs<2^20):abO x y 1=ag:=small_one (by lia) (by omega) (by lia) (by lia)
theorem M2:Oc a b 1=((b-a).toNat:Nat):=by
 unfold Oc;simp
 try lia
theorem Sw(R:bX n A)(hf:bD G F s)(hr:aH G F v d)(h:sP cM d=ac l)(items:∀ks ds,d=.items ks ds->rL cM=ag->l=uN ks ds->aG (aQ G.prog G.w) A (rZ v) (BF G A F s cM l) aU s):aG (aQ G.prog G.w) A (rZ v) (BF G A F s cM l) aU s:=by
 refine dG h (λh=>iI h λds e h=>?_) λh=>dG h (λh=>rR h λds e h=>?_) λh=>dG h (λh=>ff h λx k e h=>?_) λh=>dG h (λh=>rG h λks ds e h=>?_) λh=>dG h (λh=>HW h λa b e h=>?_) λh=>
  dG h (λh=>Q3 h λks ds e h=>bj h λht h=>items ks ds e ht (eJ h).symm) λh=>P9 h λks ds e hh=>?_
 ·(symm;subst e);cases h
  exact aH.list_el hr λa vs k e hF r=>by
   subst e;have hl:s.heap.IsList a vs.toArray:=⟨_,hf.sat _ _ hF,rfl,_,rfl⟩;exact Hx hl (wW (bZ _) hf (Hy R.hh _ a (iP (jy (hf.sat _ _ hF))) vs.toArray) (A2 hF) (λi h ⟨⟨o,h1,h2,h3⟩,_⟩=>⟨o,_,h1,h2,by decide,λw e=>by rw [h3]at e;cases e⟩)
    (by refine af eO ?_;exact r.length.symm) (λi v d hv hd=>zx r hv hd) ⟨⟨_,fZ _ rfl,rfl,rfl⟩,hl.push _⟩)
 ·(symm;subst e);cases h
  exact aH.tup_el hr λa vs k e hF r=>by
   subst e;have hl:s.heap.IsTuple a vs.toArray:=⟨_,hf.sat _ _ hF,rfl,_,rfl⟩;exact Hz hl (wW (bZ _) hf (Walks.tuple R.hh _ a (iP (jy (hf.sat _ _ hF))) vs.toArray) (A2 hF) (λi h ⟨⟨o,h1,h2,h3⟩,_⟩=>⟨o,_,h1,h2,by decide,λw e=>by rw [h3]at e;cases e⟩)
    (by refine af eO ?_;exact r.length.symm) (λi v d hv hd=>zx r hv hd) ⟨⟨_,fZ _ rfl,rfl,rfl⟩,hl.push _⟩)
 ·(symm;subst e);cases h
  exact aH.str_el hr λt e O ha=>by
   (symm;subst e);have hasc:(toS x).cps.all (· <128)=ag:=by
    simp only [toS,ZZ,eV,decide_eq_true_eq];exact ha
   exact wpAny_pyIter_ascii hasc (wW (bZ _) hf (Walks.strAscii R.hh _ (toS x) t) (λb hb=>.inl (dm.mp hb)) (λi h ⟨o,h1,h2,h3⟩=>⟨o,_,h1,h2,by decide,λw e=>by rw [h3]at e;cases e⟩)
    (by rw [R7];simp [toS]) (λi v d ⟨c,u,hc,e⟩ hd=>by
     refine aw (Pf x i d hd) λc' q2'=>ay q2' λhc' e'=>?_;clear q2';have:x[i]? =ac c:=by simpa [toS]using hc
     rw [this]at hc';cases hc';(symm;subst e e');exact aH.str (bZ _) (b8.cons (ha c (vz this)) b8.nil)) ⟨_,fZ _ rfl,rfl,rfl⟩)
 ·(symm;subst e);cases h
  exact aH.dict_el hr λa o vs e hF p r=>by
   subst e;refine aw (Bp (hf.sat _ _ hF) p) λep hm=>?_;exact wpAny_pyIter_dict p.2.1 hm (wW (bZ _) hf (Walks.dictKeys R.hh _ a (iP (jy (hf.sat _ _ hF))) _ ep) (A2 hF) (λi h ⟨⟨o,h1,h2,h3⟩,_⟩=>⟨o,_,h1,h2,by decide,λw e=>by rw [h3]at e;cases e⟩)
    (by rw [FL,Ar p.2.2.1]) (λi v d ⟨k,x,aB,hi⟩ hd=>by
     refine aw (Nw ks i d hd) λc q1'=>ay q1' λhc e=>?_;clear q1';refine aw (Ck aB) λc' q0'=>bu q0' λhc' e' O=>?_;clear q0';rw [hc]at hc';cases hc';refine aw (Od hi) λt z1=>?_;subst z1;(symm;subst e e');exact aH.str (bZ _) (p.2.2.2 c (vz hc))) ⟨⟨_,fZ _ rfl,rfl,rfl⟩,hm.push _⟩)
 ·(symm;subst e);cases h
  refine d4 hr λr t u w q2'=>dH q2' λe hF hx hy=>?_;clear hr q2';subst e;have hsz:Oc a b 1=(b-a).toNat:=M2;refine wpAny_pyIter_range (hf.sat _ _ hF) (M7 hx hy) (wW (bZ _) hf (Walks.range R.hh _ a 1 (b-a).toNat) (λb hb=>.inl (dm.mp hb)) (λi h st=>⟨_,_,st,rfl,by decide,λw e=>nomatch e⟩) (ED _ _) (λi v d ⟨t,e⟩ hd=>?_) ?_)
  ·have:=Iw _ _ _ _ hd
   (symm;subst e this);rw [tM];exact aH.int (yx _)
  ·refine af hsz ?_
   have:=fZ s.heap (o:={cls:=.type "range_iterator",data:=.fields #[bO a,bO ((b-a).toNat:Int),bO 1]}) rfl;simpa using this
 ·(symm;subst e);cases hh
  refine bV hr λw dd q2'=>bu q2' λe hF q0'=>bV q0' λo vs q1'=>bu q1' λhD p r=>?_;clear hr q2' q0' q1';subst e;refine aw (Bp (hf.sat _ _ hD) p) λep hm=>?_;exact wpAny_pyIter_values ⟨_,hf.sat _ _ hF,rfl,rfl⟩ hm (wW (bZ _) hf (Walks.dictValues R.hh _ dd (iP (jy (hf.sat _ _ hD))) _ ep) (A2 hD) (λi h ⟨⟨o,h1,h2,h3⟩,_⟩=>⟨o,_,h1,h2,by decide,λw e=>by rw [h3]at e;cases e⟩)
   (by refine af (Ar p.2.2.1) (af p.2.2.1 ?_);exact(br.length r).symm) (λi v d ⟨k,aB⟩ hd=>by
    refine aw (Ck aB) λc q1'=>bu q1' λO O hv=>?_;clear q1';exact zx r (by refine af (l6) ?_;exact hv) hd) ⟨⟨_,fZ _ rfl,rfl,rfl⟩,hm.push _⟩)
set_option backward.match.sparseCases false
theorem abx(h:ty e=ag):swapsWith e t l env=pure am:=by
 induction e using fw<;>first|rfl|exact bR h
theorem abJ{J:Unit->aC->Prop}(l:cJ F F')(h:go σ'=ac r):∀u s',u9 G c σ' F' u s'->kj G c F r .next s':=λu s' S=>by refine bG h ?_;exact⟨F',l,S,rfl⟩
theorem UH(S:aO G c σ F s)(ho:gg G F s.heap v o)(hi:wI G F s iv ix)(hp:pP o ix=ac d):aP G A (mM v iv) F s (aZ G d):=by
 cases ho with
 |list ho r=>exact(FO S.ok ho r hi hp).1
 |dict ho p r=>exact(G7 S.ok ho p r hi hp).1
 |inst ho h2 ne p r=>
  induction ix using mA.casesOn with
  |«at» k=>induction k using ak.casesOn<;>exact aW (r:=d) hp
  |_=>exact aW (r:=d) hp
theorem Ud{c:bU}(U:uZ G E n)(I:rF G)(H:dp G E n)(R:bX n c.A)(S:aO G c σ F s)(h:Lr G.cx E c.sc σ t e=ac r):aG (aQ G.prog G.w) c.A (exec (.Assign [t] e pos) c.env) (kj G c F r) aU s:=by
 induction t using fw<;>first|exact aW h|skip
 ·rename_i o a ap
  refine lN h λy p eo h=>bj h λhm h=>bj h λha h=>bj h λhc h=>aX h λq hq h=>wY h λo1 hx h=>FC h λks ds e1 h=>bj h λhl hh=>?_;(symm;subst eo e1);exact Px I H R S hm ha hc hq hx hl hh
 ·rename_i o i ip
  refine lN h λy p eo h=>bj h λhm h=>bj h λhi h=>aX h λq hq h=>aX h λb1 hb1 h=>aX h λq2 hq2 h=>wY h λo1 hx h=>aX h λo2 hs hh=>?_;(symm;subst eo);refine wpAny_Assign_Subscript (be.seq (H.ev c σ F s e q R S hq) λv F1 s1 aY S1 r1=>?_) (by induction e using fw<;>rfl);refine aw (S1.names y b1 hb1) λov q0'=>ay q0' λhv O=>?_;clear q0';refine vg S1 hm hv (be.seq (H.ev c q.2 F1 s1 i q2 R S1 hq2) λiv F2 s2 b6 S2 r2=>?_);exact cn (Ig S2 hx hv r2 (aH.mono b6 r1) hs) (λO s3 S3=>nS (J:=gN.of S3) (aY.trans b6) hh) λO O z=>z
 ·rename_i y p
  refine dG h (λh=>aX h λq hq h=>aX h λσ1 h1 hh=>?_) λh=>dG h (λh=>aX h λq hq h=>aX h λσ1 h1 hh=>ZH H U R S hq h1 hh) λh=>bj h λhc h=>aX h λq hq h=>aX h λσ1 h1 hh=>?_
  ·refine ay (YX U.go H R S hq) λhc hw=>?_
   refine Nk (b:=.ow q.1) hc (cn hw (λv s1 x=>?_) λO O z=>z) h1 hh;refine aw x λF1 q2'=>mq q2' λaY S1 ho al ap=>?_;clear x q2';exact⟨F1,aY,S1,⟨ho,al⟩,λO y dy u O hy O hu=>ap y dy u hy hu⟩
  ·exact Nk (b:=.fz q.1) hc (be.seq (H.ev c σ F s e q R S hq) λv F1 s1 aY S1 r1=>⟨F1,aY,S1,r1,λO O O O e=>nomatch e⟩) h1 hh
 ·rename_i ts k tp
  refine bj h λhc h=>aX h λq hq h=>rR h λds ed h=>aX h λσ1 h1 hh=>?_;refine Assign_Tuple (be.seq (H.ev c σ F s e q R S hq) λv F1 s1 aY S1 r1=>?_) (by induction e using fw<;>first|rfl|exact bR hc) (by induction e using fw<;>first|rfl|exact bR hc);exact cn (G4 (t:=.Tuple ts k tp) R S1 (.inl r1) (λO=>r1) (by refine(?_:oT q.1 _=_);refine af ed ?_;exact h1)) (λO s2 S2=>nS (J:=S2) aY hh) λO O z=>z
theorem LI(S:aO G c σ F s)(h:Bd c.sc x=ag):c.env.kindOf x=ac .local/\ke c.sc x=ag:=by
 rw [rH S.eo];unfold Bd at h;unfold ke;cases aB:ba x c.sc.names with
 |none=>rw [aB]at h;cases h
 |some k=>
  rw [aB]at h;refine ay (cZ.mp h) λh1 h2=>?_;induction k using jb<;>first|exact⟨rfl,cZ.mpr ⟨h1,rfl⟩⟩|exact nomatch h2
theorem WO{env:gX}{px py:eF}(hf:env.scope.kind=.function)(h1:(!lT u)=ag)(h2:(!lT w)=ag)(h3:env.kindOf x=ac .local)(h4:env.kindOf y=ac .local)(h5:bt px.line py.line=ag)(h6:(!d8 x y)=ag)(h7:(!(zG 8 u&&zG 8 w))=ag)(h8:(!(zH 8 u&&zH 8 w))=ag):swappedStores [.Tuple [.Name x px,.Name y py] k tp] (.Tuple [u,w] j tq) env=pure (ac [x,y]):=by
 have e5:px.line=py.line:=f0 h5;have hb:env.blockKind=.function:=by unfold Env.blockKind;refine af hf ?_;rfl
 have hne:¬x=y:=λe=>by rw [jq.mpr e]at h6;exact bR h6
 have hd:[x,y].eraseDups.length=2:=by refine af aai ?_;have e:(y==x)=am:=beq_eq_false_iff_ne.mpr (r9 hne);simp [aaj,e,aai]
 have n7:¬(zG 8 u=ag/\zG 8 w=ag):=λq=>by rw [q.1,q.2]at h7;exact bR h7
 have n8:¬(zH 8 u=ag/\zH 8 w=ag):=λq=>by rw [q.1,q.2]at h8;exact bR h8
 have ep:∀z q,(Expr.Name z q).pos=q:=λO O=>rfl;unfold swappedStores;simp [hb,h3,h4,ep,e5];exact af (if_neg (λq=>by rcases q with q|q;(· induction u using fw<;>first|(exact bR q;done)|(exact bR h1;done));(· induction w using fw<;>first|(exact bR q;done)|(exact bR h2;done)))) (af (if_pos hd) (af (if_neg n7) (af (if_neg n8) rfl)))
theorem YP{c:bU}(H:dp G E n)(R:bX n c.A)(S:aO G c σ F s)(h:(J2 c.sc t e λx y=>ob (E.ev c.sc σ e) λp=>oT p.1 λds=>b6 ds λd1 d2=>ob (iT c.sc p.2 y (.fz d2)) λσ1=>ob (iT c.sc σ1 x (.fz d1)) go)=ac r):
  aG (aQ G.prog G.w) c.A (exec (.Assign [t] e pos) c.env) (kj G c F r) aU s:=by
 induction t using fw<;>first|exact aW h|skip
 refine oV h λa b et h=>lN h λx px ea h=>lN h λy py eb h=>?_;induction e using fw<;>first|exact aW h|skip
 refine oV h λu w ev h=>bj h λh1 h=>bj h λh2 h=>bj h λh3 h=>bj h λh4 h=>bj h λh5 h=>bj h λh6 h=>bj h λh7 h=>bj h λh8 h=>
  aX h λq hq h=>rR h λds ed h=>oV h λd1 d2 e2 h=>aX h λσ1 eI h=>aX h λσ2 eU hh=>?_
 (symm;subst et ea eb ev);refine Assign_Tuple_swapped (be.seq (H.ev c σ F s _ q R S hq) λv F1 s1 aY S1 r1=>?_) rfl (WO S.eo.kind h1 h2 (LI S h3).1 (LI S h4).1 h5 h6 h7 h8);rw [ed,e2]at r1;refine aH.tup_el r1 λa vs k e hF r2=>?_;subst e;refine r2.cons_er λv1 w1 e1 a1 r2=>r2.cons_er λv2 w2 e2 a2 r2=>?_;(symm;subst r2);subst e2 e1;refine wpAny_unpackItems_tuple (items:=[v1,v2].toArray) R.hh ⟨_,S1.ok.sat _ _ hF,rfl,_,rfl⟩ λh' he=>?_;have S2:aO G c q.2 F1 {s1 with heap:=h'}:=S1.ext ⟨KE he,rfl,rfl,bZ _⟩;refine(?_:aG _ _ (do holding [v1] (bindName c.env y v2);holding [] (bindName c.env x v1);pure ()) _ _ _);refine bv (qp (cn (zc (b:=.fz d2) S2 a2 (λO O O O e=>nomatch e) eI) (λO s3 S3=>?_) λO O z=>z));refine aw S3 ?_;clear S3;intro m3 S3;refine bv (qp (cn (zc (c:=c.vl m3) (b:=.fz d1) S3 a1 (λO O O O e=>nomatch e) eU) (λO s4 S4=>cq (nS (J:=S4) aY hh)) λO O z=>z))
theorem Uz{c:bU}(H:dp G E n)(R:bX n c.A)(S:aO G c σ F s)(h:L6 E c.sc σ t e=ac r):aG (aQ G.prog G.w) c.A (exec (.AugAssign t .Add e pos) c.env) (kj G c F r) aU s:=by
 cases t<;>first|exact aW h|skip
 ·rename_i o i ip
  refine lN h λy p eo h=>bj h λhm h=>bj h λhi h=>aX h λb0 hb0 h=>aX h λq hq h=>wY h λo1 hx h=>aX h λd0 hd0 h=>aX h λq2 hq2 h=>aX h λd hd h=>wY h λo2 hx2 h=>aX h λo3 hs hh=>?_;(symm;subst eo);refine aw (S.names y b0 hb0) λov q1'=>ay q1' λhv O=>?_;clear q1';refine wpAny_AugAssign_SubscriptAny (vg S hm hv (be.seq (H.ev c σ F s i q R S hq) λiv F1 s1 aY S1 r1=>?_)) (by intros;cases i<;>first|rfl|exact bR hi);refine aw (S1.names y _ hx) λov' q0'=>ay q0' λhv' hbv=>?_;clear q0';have e':ov'=ov:=eJ (hv'.symm.trans hv);(symm;subst e');refine be.seq (S1.yd (UH (ix:=.at q.1) S1 hbv.1 r1 hd0)) λold F2 s2 b6 S2 r2=>be.seq (H.ev c q.2 F2 s2 e q2 R S2 hq2) λw F3 s3 sY S3 r3=>be.seq (S3.yd (Lt S3.ok (aH.mono sY r2) r3 hd)) λnw F4 s4 sU S4 r4=>?_;exact cn (Ig S4 hx2 hv (aH.mono (b6.trans (sY.trans sU)) r1) r4 hs) (λO s5 S5=>nS (J:=gN.of S5) (aY.trans (b6.trans (sY.trans sU))) hh) λO O z=>z
 ·rename_i y p
  refine bj h λhm h=>aX h λb hb h=>aX h λq hq h=>aX h λd hd h=>aX h λσ1 h1 hh=>bj h1 λhw h1=>?_;cases h1;refine aw (S.names y b hb) λv q2'=>ay q2' λhv hbv=>?_;clear q2';cases b with
  |ow d0=>
   refine jw hd λi n ea h=>?_;have ea:d0=.int i n:=ea;(symm;subst ea);exact nomatch hbv.1
  |fz d0=>
   refine wpAny_AugAssign_Name (IC S hm hv (be.seq (H.ev c σ F s e q R S hq) λw F1 s1 aY S1 r1=>be.seq (S1.yd (Lt S1.ok (aH.mono aY hbv) r1 hd)) λw2 F2 s2 b6 S2 r2=>?_));exact cn (J8 (b:=.fz d) S2 hw r2 (λO O O O e=>nomatch e)) (λO s3 S3=>nS (J:=S3) (aY.trans b6) hh) λO O z=>z
theorem UG{c:bU}{ts:List aK}(H:dp G E n)(R:bX n c.A)(S:aO G c σ F s)(hl:bB 2 ts.length=ag)(h:(ob (E.ev c.sc σ e) λp=>ob (An c.sc p.1 ts p.2) go)=ac r):aG (aQ G.prog G.w) c.A (exec (.Assign ts e pos) c.env) (kj G c F r) aU s:=by
 refine aX h λq hq h=>aX h λσ1 h1 hh=>?_;induction ts using dD with
 |nil=>exact bR hl
 |cons t ts=>
  induction ts using dD with
  |nil=>exact bR hl
  |cons u ts=>
   refine wpAny_Assign_stores (be.seq (H.ev c σ F s e q R S hq) λv F1 s1 aY S1 r1=>?_) rfl (by induction t using fw<;>first|rfl|(cases e<;>rfl));refine af (YL _ h1) ?_;exact cn (Xn _ c.m q.2 σ1 s1 S1 r1 h1) (λO s2 S2=>nS (J:=S2) aY hh) λO O z=>z
theorem VI{c:bU}(H:dp G E n)(R:bX n c.A)(S:aO G c σ F s)(h:(ob (E.ev c.sc σ e) λp=>ac (cQ.ret p.1,p.2))=ac r):aG (aQ G.prog G.w) c.A (exec (.Return (ac e) pos) c.env) (kj G c F r) aU s:=
 aX h λq hq hh=>by
  refine bG hh ?_;exact aak (be.seq (H.ev c σ F s e q R S hq) λv F1 s1 aY S1 r1=>⟨F1,aY,gN.of S1,v,rfl,r1⟩)
theorem Y0{c:bU}(H:dp G E n)(R:bX n c.A)(S:aO G c σ F s)(h:(ob (E.ts c.sc σ t) λp=>aS p.1 (go p.2))=ac r):aG (aQ G.prog G.w) c.A (exec (.Assert t msg pos) c.env) (kj G c F r) aU s:=
 aX h λq hq h=>bj h λht hh=>wpAny_Assert_holds (be.seq (H.ts c σ F s t q R S hq) λb F1 s1 aY S1 e=>⟨Eq.trans e ht,nS (J:=gN.of S1) aY hh⟩)
theorem Vm{c:bU}(U:uZ G E n)(I:rF G)(hI:v3 G n)(H:dp G E n)(st:bY)(R:bX n c.A)(S:aO G c σ F s)(h:H1 G.cx E c.sc σ st=ac r):aG (aQ G.prog G.w) c.A (exec st c.env) (kj G c F r) aU s:=by
 induction st using Stmt.casesOn<;>first|exact aW h|skip
 ·exact aX h λe eo h=>eo▸VI H R S h
 ·rename_i ts e pos
  exact dG h (λh=>fy h λt et h=>et▸dG h (λh=>Ud U I H R S h) λh=>YP H R S h) λh=>bj h λhl h=>UG H R S hl h
 ·rename_i t op e pos
  induction op using Hl<;>first|exact aW h|exact Uz H R S h
 ·exact jp h λe h=>e▸bj h λhs h=>aX h λp hp h=>aX h λl hl h=>SA H hI R S (by simpa using hs) hp hl h
 ·exact jp h λe h=>e▸wpAny_While (zZ (Rn H R S h) λx s1 q=>q.elim λfl q=>by refine af q.1 ?_;exact q.2)
 ·exact U4 H R S h
 ·exact jp h λe h=>jp h λe' h=>bj h λhh hx=>by(symm;subst e e');exact XQ H R S hh hx
 ·exact Y0 H R S h
 ·exact V3 H R S h
 ·refine bG h ?_;exact wpAny_Break (sL (J:=gN G c σ) (gN.of S) rfl)
theorem Ur(ks:List T):∀{ds:List ak} {i:Nat} {d:ak},(uN ks ds)[i]? =ac d->∃k e,ks[i]? =ac k/\ds[i]? =ac e/\d=.tup [Bu k,e]:=by
 induction ks with
 |nil=>exact λh=>aW h
 |cons k r ih=>
  intro ds i d h;induction ds using dD with
  |nil=>exact aW h
  |cons e ds=>
   induction i using j8 with
   |zero=>refine bG h ?_;exact⟨k,e,rfl,rfl,rfl⟩
   |succ i=>exact ih h
theorem Yq(ks:List T):∀{ds:List ak},ks.length=ds.length->(uN ks ds).length=ks.length:=by
 induction ks with
 |nil=>exact λO=>rfl
 |cons k r ih=>
  intro ds h;induction ds using dD with
  |nil=>cases h
  |cons e ds=>exact congrArg (· +1) (ih (xy h))
theorem U9(R:bX n A)(hf:bD G F s)(hr:aH G F v (.items ks ds))(ht:rL cM=ag):aG (aQ G.prog G.w) A (rZ v) (BF G A F s cM (uN ks ds)) aU s:=by
 refine bV hr λw dd q0'=>bu q0' λe hF q1'=>bV q1' λo vs q2'=>bu q2' λhD p r=>?_;clear hr q0' q1' q2';have r:br G F vs ds:=r;(symm;subst e);obtain⟨elts,k,pos,rfl⟩:∃elts k pos,cM=.Tuple elts k pos:=by cases cM<;>first|exact⟨_,_,_,rfl⟩|exact bR ht
 refine aw (Bp (hf.sat _ _ hD) p) λep hm=>?_;have hne:=iP (jy (hf.sat _ _ hD));have W:=kti_itemsTurns (prog:=G.prog) (w:=G.w) (A:=A) (elts:=elts) (kk:=k) (pos:=pos) R.hh s.heap.objs.size dd hne ((ks.map toS).zip vs) ep (knd:=strKind G.prog G.w);have kp:iD s {s with heap:=s.heap.push {cls:=.type "dict_itemiterator",data:=.fields #[.none,.bool am,.ref dd,.int 0 0,.int ((ks.map toS).zip vs).length 0,.int ep 0,.none,.none]}}:=⟨λb o e=>eN _ e,rfl,rfl,bZ _⟩;refine wpAny_pyIter_items ⟨_,hf.sat _ _ hF,rfl,rfl⟩ hm ⟨_,[s.heap.objs.size],λl h=>cJ F h.get?/\∃i,((∃ok ov,IsItemIter h s.heap.objs.size dd i ((ks.map toS).zip vs).length ep ok ov)/\h.DictAt (strKind G.prog G.w) dd ((ks.map toS).zip vs) ep)/\i<=((ks.map toS).zip vs).length/\l=(uN ks ds).drop i,rfl,kp,⟨λa o e=>kp.keep a o (hf.sat a o e),0,⟨⟨.none,.none,fZ _ rfl⟩,hm.push _⟩,eG _,rfl⟩,
  ES (ds:=uN ks ds) W (λb hb=>(cI.mp hb).imp (λe=>dm.mpr e) λhb=>⟨o,by refine af (dm.mp hb) ?_;exact hD⟩) (λi h st=>?_) (λi v h md=>?_) (by exact af (Yq ks (p.2.2.1.trans r.length)) (af (Ar p.2.2.1) rfl)) (λi v d F' s' hp hd le=>⟨.inr ?_,λq=>nomatch ht.symm.trans q⟩) (λa ha o e=>?_) (λi s' Q st hq=>?_),λa ha=>by refine af (dm.mp ha) ?_;exact fW _⟩
 ·refine ay st λz0 O=>bV z0 λa b e=>?_;clear st z0
  exact w5 ⟨_,e,rfl,λw e=>nomatch e⟩
 ·refine d4 md λT key k x q1'=>bV q1' λok ov q2'=>gY q2' λO O O O e O=>?_;clear md q1' q2'
  exact w5 ⟨_,e,rfl,λw e=>nomatch e⟩
 ·refine d4 hp λT key k x q0'=>dH q0' λz0 hx aB hT=>?_;clear hp q0';subst z0
  refine bV (Ur ks hd) λc e q2'=>bu q2' λhc he z2=>?_;clear q2';subst z2;refine aw (Ck hx) λc' q1'=>bu q1' λhc' ek hv=>?_;clear q1';rw [hc]at hc';cases hc';refine aw (Od aB) λt z1=>?_;subst z1;subst ek;exact⟨T,_,_,rfl,hT,rfl,.cons (aH.str (bZ _) (p.2.2.2 c (vz hc))) (.cons (aH.mono le (zx r (by refine af (l6) ?_;exact hv) he)) .nil)⟩
 ·rw [dm.mp ha,hf.fresh (fW _)]at e;exact aW e
 ·refine ay st λz0 O=>bV z0 λa b e=>?_;clear st z0
  exact kcp_self e hq
theorem Pe:v3 G n:=λA F s v d t l R hf hr h=>Sw R hf hr h λks ds e ht el=>by subst e el;exact U9 R hf hr ht
theorem XY{A:cH}(hh:A.handled=ae)(it t:bw)(hne:t≠it)(items:Array aF):Draws prog w A it [it,t] items.size (λi v=>items[i]? =ac v) (λi h=>h.IsTupleIter it t i/\h.IsTuple t items)where
 live:=λO O st=>st.1.elim λo q=>⟨o,q.1⟩
 frame:=λO O O st aB=>⟨st.1.at λo e=>aB it ck o e,st.2.at λo e=>aB t (cW _ ck) o e⟩
 item:=λi s Q E hi st hQ=>by
  refine ay (id st) λz0 hT=>aw z0 λo q2'=>bu q2' λho hc hd=>?_;clear z0 q2';refine aw (id hT) λol q0'=>bu q0' λhol O q1'=>aw q1' λnl hdl=>?_;clear q0' q1';have hx:items[i]? =ac items[i]:=Array.getElem?_eq_getElem hi;unfold aal;refine bv (aam (name:=fi "__next__") st.1.typeIs HA (aan HA st.1.typeIs aao ?_ (aap _)));refine(?_:aG _ _ (field (.ref it) 0>>=_) _ _ s);refine bv (Dg ho hd (x:=.ref t) rfl ?_);refine(?_:aG _ _ (if(j7 t==z7)=ag then _ else _) _ _ s);refine af (if_neg (show¬((j7 t==z7)=ag)from Oe)) ?_;refine(?_:aG _ _ (field (.ref it) 1>>=_) _ _ s);refine bv (Dg ho hd (x:=.int i 0) rfl ?_);refine(?_:aG _ _ (HB (.ref t)>>=_) _ _ s);refine bv (HC hol hdl ?_);simp only [C5,hx];refine bv (wpAny_setField ho hd (mP 1) (cq ⟨_,rfl,cq (hQ _ _ s.toks hx ⟨?_,hT.extBut (xD ..).extBut hne⟩ (xD ..))⟩));exact⟨_,z8 _ ho (Obj.isFreed_of_fields (aaq hd _)),(Obj.cls_mapFields ..).trans hc,by rw [aaq hd];simp [bO]⟩
 done:=λs Q E st hE=>by
  refine ay (id st) λz0 hT=>aw z0 λo q2'=>bu q2' λho hc hd=>?_;clear z0 q2';refine aw (id hT) λol q0'=>bu q0' λhol O q1'=>aw q1' λnl hdl=>?_;clear q0' q1';have hx:items[items.size]? =ae:=Array.getElem?_eq_none (bZ _);unfold aal;refine bv (aam (name:=fi "__next__") st.1.typeIs HA (aan HA st.1.typeIs aao ?_ (aap _)));refine(?_:aG _ _ (field (.ref it) 0>>=_) _ _ s);refine bv (Dg ho hd (x:=.ref t) rfl ?_);refine(?_:aG _ _ (if(j7 t==z7)=ag then _ else _) _ _ s);refine af (if_neg (show¬((j7 t==z7)=ag)from Oe)) ?_;refine(?_:aG _ _ (field (.ref it) 1>>=_) _ _ s);refine bv (Dg ho hd (x:=.int items.size 0) rfl ?_);refine(?_:aG _ _ (HB (.ref t)>>=_) _ _ s);refine bv (HC hol hdl ?_);simp only [C5,hx];refine bv (wpAny_rule (bv (wpAny_setField ho hd (Nat.zero_lt_succ 1) ?_)));refine(?_:aG _ _ (newExc (.type "StopIteration") []>>=_) _ _ _);refine bv ?_;simp only [newExc,z9];refine bv (vE ?_ (by size_fits));refine bv (m:=firstArgMember _ _) (wpAny_of_eq (a:=z7) (by first|rfl|(simp only [firstArgMember];rfl)) ?_);refine vE ?_ (by size_fits);simp only [raiseNew];refine bv (wpAny_handled ?_)
  first|refine af (show A.in1.handled=ae from hh) ?_|exact af hh rfl
  refine bv (cq (wpAny_throw ?_));exact hE _ _ (((xD ..).extBut.push _).push _) ⟨_,fZ _ rfl,rfl⟩
noncomputable abbrev uc(h:cY):aJ:={cls:=.type "enumerate",data:=.fields #[.none,.bool am,.ref h.objs.size,bO 0,.none,.none]}
noncomputable abbrev ru(l:bw):aJ:={cls:=.type "tuple_iterator",data:=.fields #[.ref l,.int 0 0]}
theorem Ug(l:bw)(items:List aF)(n:Nat):Meets (fO.«enumerate.__new__» ⟨[.type "enumerate",.ref l],[]⟩) (λO R s=>s.heap.get? l=ac (gA items n)/\
  R (.ok (.ret (.ref (s.heap.push (ru l)).objs.size))) {s with heap:=(s.heap.push (ru l)).push (uc s.heap)}):=
 .of_wp λprog w A R s h=>by
  obtain⟨hp,g,d,tk,os⟩:=s;refine ay h ?_;clear h;intro hl h;have hsub:=sub_enumerate;have hL:Heap.IsTuple (Shared.heap ⟨hp,g,d,tk,os⟩) l items.toArray:=⟨_,hl,rfl,n,rfl⟩
  wp_walk using HD hl
  refine wpAny_stack_any λst=>cq ?_;split
  ·rename_i c _ _ _ _ _
   cases(c==Value.type "enumerate")
   ·wp_walk using HD hl,Hz hL
    exact⟨_,rfl,h⟩
   ·wp_walk using HD hl,Hz hL
    exact⟨_,rfl,h⟩
  ·wp_walk using HD hl,Hz hL
   exact⟨_,rfl,h⟩
theorem Re{s:aC}{Q:aF->aC->Prop}(hL:s.heap.get? l=ac (gA items n))(h:Q (.ref (s.heap.objs.size+1)) {s with heap:=(s.heap.push (ru l)).push (uc s.heap)}):
  aG (aQ prog w) A (call (.type "enumerate") [.ref l]) Q E s:=by
 have hz:(s.heap.push (ru l)).objs.size=s.heap.objs.size+1:=nM ..;refine callType_new PySem.F.called_enumerate (by decide) (PySem.F.typeCall_enumerate_1 _) (PySem.F.newCall_enumerate_1 _) (λobj=>PySem.F.args_object_init_2 obj _) PySem.F.entry_enumerate_new (Ug l items n) ⟨hL,?_⟩;refine af hz ?_;have he:((s.heap.push (ru l)).push (uc s.heap)).get? (s.heap.objs.size+1)=ac (uc s.heap):=hz▸fZ _ rfl;exact⟨⟨_,he,rfl⟩,h⟩
theorem JB{ad:List bw}{h:cY}(q:∀a∈ad,∃o vs,h.get? a=ac o/\o.data=.fields vs):kU ad h:=λa ha=>by
 refine bV (q a ha) λo vs q1'=>ay q1' λho hd=>?_;clear q1';exact⟨⟨o,ho⟩,λw ⟨o',h1,h2⟩=>by rw [ho]at h1;cases h1;exact nomatch hd.symm.trans h2⟩
theorem O3(l:List ak):∀{k i:Nat} {d:ak},(wD l k)[i]? =ac d->∃e,l[i]? =ac e/\d=.tup [fN (k+i),e]:=by
 induction l with
 |nil=>exact λh=>aW h
 |cons e r ih=>
  intro k i d h;induction i using j8 with
  |zero=>refine bG h ?_;exact⟨e,rfl,rfl⟩
  |succ i=>
   refine aw (ih (k:=k+1) h) λx q0'=>ay q0' λh1 h2=>?_;clear q0';exact⟨x,h1,by rw [h2,nI,kB 1 i]⟩
theorem RG(l:List ak):∀k,(wD l k).length=l.length:=by
 induction l with
 |nil=>exact λO=>rfl
 |cons e r ih=>exact λk=>congrArg (· +1) (ih (k+1))
theorem Vf(U:rj G)(H:dp G E n):DG G E n:=λc σ F s t a np pos p l R S hv aB ht h1 el=>by
 refine lN hv λx q en h=>bj h λhx h=>bj h λhn O=>?_;have:=jq.mp hx;(symm;subst en this);obtain⟨elts,k,tp,rfl⟩:∃elts k pos,t=.Tuple elts k pos:=by induction t using fw<;>first|exact⟨_,_,_,rfl⟩|exact bR ht
 refine Call_name1 (ua (by have hn:(!lT a&&ag)=ag:=hn;cases hs:lT a with|false=>rfl|true=>rw [hs]at hn;exact bR hn)) ?_;cases qk:ba ("enumerate":aL) c.sc.names with
 |none=>rw [qk]at aB;exact bR aB
 |some nk=>
  rw [qk]at aB;induction nk using jb<;>first|(exact bR aB;done)|skip
  refine rY ?_ (S.eo.plain _ _ qk).1;refine af (loadName_read S.eo.kind ((rH S.eo _).trans qk)) ?_;refine U.enum c s _ _ _ _ (λa o e=>S.ok.sat a o (S.ok.base a o e)) S.eo (callWith_type1 (be.seq (H.ev c σ F s a p R S h1) λv F1 s1 aY S1 r1=>?_));rw [el]at r1;refine aH.tup_el r1 λb vs j e hF r2=>?_;subst e;have hb:=S1.ok.sat _ _ hF;have hlt:=jy hb;refine Re hb ?_;have hz:(s1.heap.push (ru b)).objs.size=s1.heap.objs.size+1:=nM ..;have he:((s1.heap.push (ru b)).push (uc s1.heap)).get? (s1.heap.objs.size+1)=ac (uc s1.heap):=hz▸fZ _ rfl;have kp:iD s1 {s1 with heap:=(s1.heap.push (ru b)).push (uc s1.heap)}:=⟨λb o e=>eN _ (eN _ e),rfl,rfl,bZ _⟩;have W:=KTurns.ofWalksU (elts:=elts) (k:=k) (pos:=tp) (WalksT.enumerateD (@XY G.prog G.w c.A.in1 R.hh s1.heap.objs.size b (iP hlt) vs.toArray) (s1.heap.objs.size+1) (Og _)
   (λq=>by rcases cI.mp q with q|q;exact Og _ q;exact sf (zX hlt) (dm.mp q)) ck).toU
  have two:∀{P:bw->Prop},P (s1.heap.objs.size+1)->P s1.heap.objs.size->∀a∈[s1.heap.objs.size+1,s1.heap.objs.size],P a:=λh1 h2 a ha=>by
   rcases cI.mp ha with rfl|ha
   ·exact h1
   ·refine af (dm.mp ha) ?_;exact h2
  have no1:s1.heap.get? (s1.heap.objs.size+1)=ae:=by
   cases q:s1.heap.get? (s1.heap.objs.size+1)with
   |none=>rfl
   |some o=>exact absurd (jy q) (vL.mpr (mK _))
  refine aar he ⟨F1,s1,s1.heap.objs.size+1,[s1.heap.objs.size+1,s1.heap.objs.size],λl' h=>cJ F1 h.get?/\∃i:Nat,((∃old,IsEnum h (s1.heap.objs.size+1) s1.heap.objs.size i old)/\h.IsTupleIter s1.heap.objs.size b i/\h.IsTuple b vs.toArray)/\i<=vs.toArray.size/\l'=(wD l 0).drop i,aY,S1,rfl,kp,
   ⟨λa o e=>kp.keep a o (S1.ok.sat a o e),0,⟨⟨.none,he⟩,⟨ru b,eN _ (fZ _ rfl),rfl,rfl⟩,⟨gA vs j,kp.keep _ _ hb,rfl,j,rfl⟩⟩,eG _,rfl⟩,
   ES (ds:=wD l 0) W (λa ha=>?_) (λi h st=>?_) (λi v h md=>?_) (by rw [RG,eO];exact r2.length.symm) (λi v d F' s' hp hd le=>⟨.inr ?_,λq=>nomatch ht.symm.trans q⟩) (two (P:=λa=>∀o,F1 a=ac o->False) (λo e=>nomatch (S1.ok.fresh no1).symm.trans e) λo e=>nomatch (S1.ok.fresh (fW _)).symm.trans e) (λi s' Q st hq=>?_),two (P:=λa=>s1.heap.get? a=ae) no1 (fW _)⟩
  ·rcases cI.mp ha with rfl|ha
   ·exact .inl ck
   ·rcases cI.mp ha with rfl|ha
    ·exact .inl (cW _ ck)
    ·exact .inr ⟨_,by refine af (dm.mp ha) ?_;exact hF⟩
  ·refine bu st λz0 z1 O=>aw z0 λold h1=>aw z1 λo q2'=>bu q2' λh2 O h3=>?_;clear st z0 z1 q2'
   exact JB (two (P:=λa=>∃o vs,h.get? a=ac o/\o.data=.fields vs) ⟨_,_,h1,rfl⟩ ⟨_,_,h2,h3⟩)
  ·refine bV md λT vals q0'=>gY q0' λO O O z3 z4 O=>aw z3 λx h1=>ay z4 λz0 O=>aw z0 λo q1'=>bu q1' λh2 O h3=>?_;clear md q0' z3 z4 z0 q1'
   exact JB (two (P:=λa=>∃o vs,h.get? a=ac o/\o.data=.fields vs) ⟨_,_,h1,rfl⟩ ⟨_,_,h2,h3⟩)
  ·refine bV hp λT vals q1'=>bu q1' λz0 z1 hT=>?_;clear hp q1';subst z0;refine bV z1 ?_;clear z1;intro tk x q2';refine ay q2' λhx z1=>?_;clear q2';subst z1
   refine aw (O3 l hd) λe q0'=>ay q0' λhe z1=>?_;clear q0';subst z1;refine⟨T,_,_,rfl,hT,rfl,.cons ?_ (.cons (aH.mono le (zx r2 hx he)) .nil)⟩;rw [iA];exact aH.int (yx _)
  ·refine ay st λz0 O=>aw z0 λold h1=>?_;clear st z0
   exact aar h1 hq
theorem O7(x:T)(l:List T):cy [] (x::l)=x++cy [] l:=by
 induction l using dD with
 |nil=>exact(ka x).symm
 |cons y l=>rfl
theorem uA{k m:Nat}(h:k<=m)(hm:m<=lim):k<=lV:=by
 refine af gM ?_;unfold lim at hm;lia
theorem gy(h:bB a b=ag):a<=b:=blt h
theorem Rg{c:bU}(H:dp G E n)(R:bX n c.A)(es:List aK):∀(σ:aA)(F:bn)(s:aC)(out:T)(N:Nat)(p:List ak×aA)(q:List T×Nat),aO G c σ F s->dQ E c.sc es σ=ac p->iW p.1=ac q->b8 out->out.length+q.2<=N->N<=lim->
  aG (aQ G.prog G.w) c.A (joinParts (toS out) (evalEach es c.env)) (be (aO G c p.2) F (aZ G (.str (out++cy [] q.1) N))) aU s:=by
 induction es with
 |nil=>
  intro σ F s out N p q S h1 h2 ha hN hl;cases h1;cases h2;have hlen:out.length<=N:=hN;refine S.yd (aP.str S.ok (by refine af (show out++cy [] []=out from ka out) ?_;exact hlen) (by refine af (show out++cy [] []=out from ka out) ?_;exact ha) λQ hq=>?_);rw [show out++cy [] []=out from ka out]at hq;exact joinParts_nil (hq _ _) (by rw [fH];exact uA hlen hl)
 |cons e es ih=>
  intro σ F s out N p q S h1 h2 ha hN hl;refine aX h1 λp1 eI h1=>aX h1 λp2 eU hh=>?_;cases hh;refine ff h2 λy m ey h2=>aX h2 λq2 gC hh=>?_;cases hh;refine(?_:aG _ _ (joinParts (toS out) (eval e c.env::evalEach es c.env)) _ _ _);refine joinParts_cons (be.seq (H.ev c σ F s e p1 R S eI) λv F1 s1 aY S1 r1=>?_);rw [ey]at r1;refine aH.str_el r1 λt ev hm hy=>?_;(symm;subst ev);have hN':(out++y).length+q2.2<=N:=by rw [gx];exact bM (by lia) hN
  refine⟨?_,?_⟩
  ·rw [rM,fH];exact uA (bM (mS _ _) hN') hl
  ·rw [rM]
   have:=ih p1.2 F1 s1 (out++y) N p2 q2 S1 eU gC (λk aB=>(vw.mp aB).elim (ha k) (hy k)) hN' hl;rw [O7,<-ja];exact be.weakW aY this
theorem R9{c:bU}{es:List aK}(H:dp G E n)(R:bX n c.A)(S:aO G c σ F s)(hl:bB 2 es.length=ag)(h:(ob (dQ E c.sc es σ) λp=>ob (iW p.1) λq=>ob (iO (cy [] q.1) q.2) λd=>ac (d,p.2))=ac r):
  aG (aQ G.prog G.w) c.A (eval (.JoinedStr es pos) c.env) (be (aO G c r.2) F (aZ G r.1)) aU s:=by
 refine aX h λp h1 h=>aX h λq h2 h=>aX h λd h3 h=>bj h3 λhb h3=>?_;cases h3;cases h;have:=Rg H R es σ F s [] q.2 p q S h1 h2 (λO h=>nomatch h) (tK (iA _)) (gy hb);cases es with
 |nil=>exact bR hl
 |cons e1 es=>
  cases es with
  |nil=>exact bR hl
  |cons e2 es=>exact JoinedStr_many this
theorem W9{c:bU}(H:dp G E n)(R:bX n c.A)(S:aO G c σ F s)(h:(ob (E.ev c.sc σ e) λp=>fB p.1 λO n=>aS (bB n lim) (ac p))=ac r):
  aG (aQ G.prog G.w) c.A (eval (.FormattedValue e 115 ae pos) c.env) (be (aO G c r.2) F (aZ G r.1)) aU s:=by
 refine aX h λp h1 h=>ff h λy m ey h=>bj h λhb h=>?_;have ep:=eJ h;(symm;subst ep);refine wpAny_FormattedValue_s (be.seq (H.ev c σ F s e p R S h1) λv F1 s1 aY S1 r1=>?_);have r0:=r1;rw [ey]at r1;refine aH.str_el r1 λt ev hm hy=>?_;subst ev;have hz:(toS y).length<=lV:=by rw [fH];exact uA hm (gy hb)
 refine cn (oC (bZ s1.toks) (habitSame_str (Q:=λr s2=>aG (aQ G.prog G.w) c.A (formatField r Str.empty) (λv s3=>s1.toks<=s3.toks->be (aO G c p.2) F (aZ G p.1) v s3) aU s2) (λt' k=>formatField_str (λt2 k2 ht=>⟨F1,aY,S1.ext ⟨λO O e=>e,rfl,rfl,ht⟩,by refine af ey ?_;exact aH.str hm hy⟩) hz) hz)) (λv s2 q=>?_) λO O z=>z.2;exact cn (oC q.1 q.2) (λv s3 q=>q.2 q.1) λO O z=>z.2
theorem Ly{c:bU}(H:dp G E n)(U:uZ G E n)(R:bX n c.A)(S:aO G c σ F s)(h:nh G.cx E c.sc σ e=ac r):aG (aQ G.prog G.w) c.A (Bi e c.env ae) (be (aO G c r.2) F (aZ G r.1)) aU s:=
 Dw (σ':=σ) H U R S h (λO v F' s' l S' r'=>⟨F',l,S',r'⟩) (λu hu=>nomatch hu) λhu=>nomatch hu
theorem W1{c:bU}(H:dp G E n)(R:bX n c.A)(S:aO G c σ F s)(h:NH E c.sc σ e=ac r):aG (aQ G.prog G.w) c.A (isTrue e c.env (eval e c.env)) (be (aO G c r.2) F (λO b=>b=r.1)) aU s:=by
 induction e using fw<;>first|exact aW h|skip
 ·rename_i op es pos;exact wpAny_isTrue_BoolOp (Zy H R op es σ F s r S h)
 ·rename_i op a pos
  cases op<;>first|exact aW h|skip
  exact wpAny_isTrue_Not (aX h λp hp hh=>by refine bG hh ?_;exact be.seq (H.ts c σ F s a p R S hp) λb F1 s1 aY S1 e=>⟨F1,aY,S1,by exact af e rfl⟩)
 ·rename_i a ops bs pos;exact fy h λop eo h=>fy h λb eb h=>by(symm;subst eo eb);exact Vp H R S h
 ·exact F6 H R S rfl h
 ·exact F6 H R S rfl h
 ·exact F6 H R S rfl h
theorem B8{n:Nat}:aH G F (.int (n:Int) t) (fN n):=aH.int (yx _)
theorem DM{n:Nat}(h:n<32768):aH G F (.int (n:Int) t) (gc n):=aH.int h
theorem LS{n m:Nat}(h:n<=m)(hm:m<=lim):(n:Int)<2^63:=by unfold lim at hm;lia
theorem Ie(hf:bD G F s)(ho:s.heap.get? a=ac (dg vs k))(r:br G F vs ds)(hb:bB ds.length 32767=ag):aP G A (call (.builtin "len") [.ref a]) F s (aZ G (gc ds.length)):=by
 rw [<-r.length]at hb⊢;exact aP.of hf (aas (items:=vs.toArray) ⟨_,ho,rfl,k,rfl⟩ (by refine af eO ?_;exact LS (gy hb) (by decide)) (by refine af eO ?_;exact hJ (P:=aZ G (gc vs.length)) (DM (ZL (gy hb)))))
theorem Jb(hf:bD G F s)(hr:aH G F v o)(h:i6 .len [o]=ac d):aP G A (call (.builtin "len") [v]) F s (aZ G d):=by
 delta i6 at h;dsimp only at h;refine fy h λe he h=>?_;cases he;refine dG h (λh=>iI h λds e h=>bj h λhb hh=>?_) λh=>dG h (λh=>rR h λds e h=>bj h λhb hh=>?_) λh=>ff h λx n e h=>bj h λhb hh=>?_
 ·(symm;subst e);refine bG hh ?_
  exact aH.list_el hr λa vs k e hF r=>by subst e;exact Ie hf (hf.sat _ _ hF) r hb
 ·(symm;subst e);refine bG hh ?_
  exact aH.tup_el hr λa vs k e hF r=>by
   subst e;rw [<-r.length]at hb⊢;have hb:=gy hb;exact aP.of hf (PyProof.Rows.len_tuple (items:=vs.toArray) ⟨_,hf.sat _ _ hF,rfl,k,rfl⟩ (by refine af eO ?_;lia) (by rw [eO];exact hJ (P:=aZ G (gc vs.length)) (DM (by exact mH hb (of_decide_eq_true (id (tN ag)))))))
 ·(symm;subst e);refine bG hh ?_
  exact aH.str_el hr λt e hn ha=>by
   subst e;have hb:=gy hb;have hfit:=LS hn (bM hb (by decide));exact aP.of hf (PyProof.Rows.len_str (by rw [fH];simp_all) (by rw [fH];exact hJ (P:=aZ G (gc x.length)) (DM (by lia))))
theorem Xo{x y:Int}{n m:Nat}(hf:bD G F s)(hx:x.natAbs<2^n)(hy:y.natAbs<2^m)(hn:bB n 20=ag)(hm:bB m 20=ag):aP G A (call (.type "range") [.int x t,.int y u]) F s (aZ G (.rng x y)):=
 have up:∀{k n:Nat},k<2^n->bB n 20=ag->k<2^20:=λh hn=>kA h (q7 (by decide) (gy hn))
 aP.of1 hf (call_range_2 (xp (P:=aZ G (.rng x y)) (o:=Bv x y t u s.toks) rfl ⟨_,t,u,_,rfl,jj,up hx hn,up hy hm⟩))
theorem WI{y:Int}{m:Nat}(hf:bD G F s)(hy:y.natAbs<2^m)(hm:bB m 20=ag):aP G A (call (.type "range") [.int y u]) F s (aZ G (.rng 0 y)):=
 have up:y.natAbs<2^20:=kA hy (q7 (by decide) (gy hm))
 aP.of1 hf (call_range_1 (xp (P:=aZ G (.rng 0 y)) (o:=Bv 0 y s.toks u (s.toks+1)) rfl ⟨_,_,u,_,rfl,jj,by decide,up⟩))
theorem So(hf:bD G F s):aP G A (call (.builtin "isinstance") [.int i t,.type "tuple"]) F s (aZ G (.bool am)):=
 aP.of hf (call_isinstance (PySem.isinstance_false_int rfl (by left) (by rw [lu];left)) (hJ (P:=aZ G (.bool am)) rfl))
theorem Sn(hf:bD G F s)(ho:s.heap.get? a=ac (dg vs k)):aP G A (call (.builtin "isinstance") [.ref a,.type "str"]) F s (aZ G (.bool am)):=
 aP.of hf (call_isinstance (PySem.isinstance_false_list rfl (by left) (by rw [lu];left)) ⟨⟨_,ho,rfl⟩,hJ (P:=aZ G (.bool am)) rfl⟩)
theorem WL(hf:bD G F s)(ho:s.heap.get? a=ac (dg vs k))(r:br G F vs ds)(hb:bB ds.length lim=ag):aP G A (call (.type "tuple") [.ref a]) F s (aZ G (.tup ds)):=by
 refine aP.of1 hf (call_tuple_list (items:=vs.toArray) ⟨_,ho,rfl,k,rfl⟩ (λh' aB=>?_) (by refine af eO (af r.length ?_);exact uA (gy hb) (bZ _)));have hn:s.heap.get? h'.objs.size=ae:=by
  cases q:s.heap.get? h'.objs.size with
  |none=>rfl
  |some o=>exact absurd (jy (aB _ _ q)) (vt _)
 exact⟨λb o e=>eN _ (aB b o e),rfl,rfl,h'.objs.size,gA vs 0,hn,fZ _ rfl,aH.tup jj (r.mono (fj (hf.fresh hn)))⟩
theorem Ll(ds:List ak):∀{vs:List aF} {p:List Int×Nat},l8 ds=ac p->br G F vs ds->(∀(i:Nat) v,vs[i]? =ac v->∃t,v=.int (p.1.getD i 0) t)/\p.1.length=vs.length/\∀x∈p.1,x.natAbs<2^p.2:=by
 induction ds with
 |nil=>intro vs p h r;refine bG h ?_;subst r;exact⟨λi v h=>(nomatch h),rfl,λx h=>nomatch h⟩
 |cons d ds ih=>
  intro vs p h r;refine r.cons_er λv ws e hr rr=>jw h λi n ed h=>aX h λq hq hh=>?_;(symm;subst e ed);refine bG hh ?_;refine bu (ih hq rr) λh1 h2 h3=>?_;refine aH.int_el hr λt e hi=>⟨λj v' hj=>?_,congrArg (· +1) h2,λx hx=>?_⟩
  ·induction j using j8 with
   |zero=>refine bG hj ?_;exact⟨t,e⟩
   |succ j=>exact h1 j v' hj
  ·rcases cI.mp hx with rfl|hx
   ·exact kA hi (q7 (by decide) (HE _ _))
   ·exact kA (h3 x hx) (q7 (by decide) (Oh _ _))
theorem Wc(f:Nat->Int)(n:Nat):Aa f (n+1)=f 0+Aa (λi=>f (i+1)) n:=by
 induction n with
 |zero=>exact Int.add_comm _ _
 |succ n ih=>
  refine(?_:Aa f (n+1)+f (n+1)=f 0+(Aa (λi=>f (i+1)) n+f (n+1)));rw [ih,aat]
theorem YD(l:List Int):∀a,lI l a=a+Aa (λi=>l.getD i 0) l.length:=by
 induction l with
 |nil=>exact λa=>(l7 a).symm
 |cons x r ih=>
  intro a;refine(?_:lI r (a+x)=a+Aa (λi=>(x::r).getD i 0) (r.length+1));rw [ih,Wc,aat];rfl
theorem Xr(n:Nat)(l:List Int):∀a,(∀x∈l,x.natAbs<2^n)->(lI l a).natAbs<=a.natAbs+l.length*2^n:=by
 induction l with
 |nil=>exact λa O=>mS _ _
 |cons x r ih=>
  intro a h;have h1:=ih (a+x) λy hy=>h y (cW _ hy);have h2:=h x ck;have h3:=Int.natAbs_add_le a x;refine(?_:(lI r (a+x)).natAbs<=a.natAbs+(r.length+1)*2^n);rw [Nat.add_mul,Nat.one_mul];exact bM h1 (bM (C3 (bM h3 (vu (lW h2) _)) _) (tK (by rw [nI,kB (2^n)])))
theorem G6(n:Nat):n<=eL n:=by unfold eL;lia
theorem UE{A:cH}(hh:A.handled=ae)(hf:bD G F s)(ho:s.heap.get? a=ac (dg vs k))(r:br G F vs ds)(hi:l8 ds=ac p):aP G A (call (.builtin "sum") [.ref a]) F s (aZ G (.int (lI p.1 0) (eL (p.2+p.1.length+1)))):=by
 refine bu (Ll ds hi r) λh1 h2 h3=>?_;have hl:s.heap.IsList a vs.toArray:=⟨_,ho,rfl,k,rfl⟩;have hlt:=jy ho;have hb:(lI p.1 0).natAbs<2^(p.2+p.1.length+1):=by
  refine mH (Xr p.2 p.1 0 h3) ?_;refine(?_:0+_<_);rw [iA,aau,Nat.pow_add,Oi (2^p.2)];have:=Nat.mul_lt_mul_of_pos_right (k:=2^p.2) (Nat.lt_two_pow_self (n:=p.1.length)) (Nat.pow_pos (by decide));exact bM this (ik (2^p.fst.length*2^p.snd) ((2^p.fst.length*2^p.snd).mul 1))
 refine aP.of hf (call_sum_walkAnyS (Hx hl ⟨s.heap.objs.size,[s.heap.objs.size,a],[s.heap.objs.size],_,vs.toArray.size,_,_,λi=>p.1.getD i 0,rfl,(Hy (prog:=G.prog) (w:=G.w) (A:=A.in1) hh s.heap.objs.size a (iP hlt) vs.toArray).toS,⟨⟨_,fZ _ rfl,rfl,rfl⟩,hl.push _⟩,λb hb=>?_,λi v hv=>h1 i v (by rw [l6]at hv;exact hv),λs' t' hm=>?_⟩))
 ·rw [nM]
  rcases cI.mp hb with rfl|hb
  ·exact mP _
  ·refine af (dm.mp hb) ?_;exact zX hlt
 ·refine⟨λb o e=>hm.heap b o (λhb=>?_) (eN _ e),hm.os,hm.gens,?_⟩
  ·rw [dm.mp hb,fW]at e;exact aW e
  ·have e:=YD p.1 0
   rw [Ab,h2]at e;refine af eO (af e.symm ?_);exact aH.int (kA hb (q7 (by decide) (G6 _)))
theorem br.ofGet(ds:List ak):∀{vs:List aF},vs.length=ds.length->(∀(i:Nat) v d,vs[i]? =ac v->ds[i]? =ac d->aH G F v d)->br G F vs ds:=by
 induction ds with
 |nil=>intro vs h _;induction vs using dD with|nil=>exact .nil|cons v vs=>cases h
 |cons d ds ih=>
  intro vs h k;induction vs using dD with
  |nil=>cases h
  |cons v vs=>exact .cons (k 0 v d rfl rfl) (ih (xy h) λi v d=>k (i+1) v d)
theorem aP.made{ds:List ak}(hf:bD G F s)(h:∀Q:aF->aC->Prop,(∀h' tk (acc:Array aF) c,(∀b o,s.heap.get? b=ac o->h'.get? b=ac o)->h'.get? s.heap.objs.size=ac (dg acc.toList c)->acc.toList.length=ds.length->
  (∀(i:Nat) v d,acc.toList[i]? =ac v->ds[i]? =ac d->aH G F v d)->Q (.ref s.heap.objs.size) {s with heap:=h',toks:=tk})->aG (aQ G.prog G.w) A t Q aU s):aP G A t F s (aZ G (.list ds)):=
 aP.of1 hf (h _ λh' tk acc c aB ho hl hv=>⟨aB,rfl,rfl,s.heap.objs.size,_,fW _,ho,.list jj ((br.ofGet ds hl hv).mono (fj (hf.fresh (fW _))))⟩)
theorem SP{A:cH}(hh:A.handled=ae)(hf:bD G F s)(hr:aH G F v (.rng a b))(hb:bB (fJ (b-a).toNat a).length lim=ag):aP G A (call (.type "list") [v]) F s (aZ G (.list (fJ (b-a).toNat a))):=by
 refine d4 hr λr t u w q2'=>dH q2' λe hF hx hy=>?_;clear hr q2';subst e;have hb:=gy hb;rw [ED]at hb;refine aP.made hf λQ hq=>call_list_range (n:=(b-a).toNat) hh (hf.sat _ _ hF) (M7 hx hy) M2 (by unfold lim at hb;exact bM hb (of_decide_eq_true (id (tN ag)))) λh' tk acc c aB ho hi=>hq h' tk acc c aB ho (by rw [aav,hi.1,ED]) λi v d hv hd=>?_;have zq:=(hi.2 i v (by refine af (aaw).symm ?_;exact hv));refine aw zq λt e=>?_;clear zq;have e2:=Iw _ _ _ _ hd;subst e e2;rw [tM];exact aH.int (yx _)
theorem Pl{A:cH}(hh:A.handled=ae)(hf:bD G F s)(hr:aH G F v (.dict ks ds))(hb:bB (re ks).length lim=ag):aP G A (call (.type "list") [v]) F s (aZ G (.list (re ks))):=
 aH.dict_el hr λa o vs e hF p r=>by
  subst e;refine aw (Bp (hf.sat _ _ hF) p) λep hm=>?_;have hz:((ks.map toS).zip vs).length=ks.length:=Ar p.2.2.1;have hb:=gy hb;rw [FL]at hb;refine aP.made hf λQ hq=>kdl_call (kdl_dict (knd:=strKind G.prog G.w) (kvs:=(ks.map toS).zip vs) (ep:=ep) p.2.1) hh hm (uA (tK hz) hb) λh' tk acc c aB ho hi=>hq h' tk acc c aB ho (by rw [aav,hi.1,hz,FL]) λi v d hv hd=>?_;have zq:=(hi.2 i v (by refine af (aaw).symm ?_;exact hv));refine bV zq λk x q1'=>ay q1' λhx hi=>?_;clear zq q1';refine aw (Nw ks i d hd) λc1 q0'=>ay q0' λhc e=>?_;clear q0';refine aw (Ck hx) λc2 q2'=>bu q2' λhc2 e2 O=>?_;clear q2';rw [hc]at hc2;cases hc2;refine aw (Od hi) λt z1=>?_;subst z1;(symm;subst e e2);exact aH.str (bZ _) (p.2.2.2 c1 (vz hc))
noncomputable def mf(val:Nat->Int)(i j:Nat):Bool:=az (val i>val j)
theorem VU(val:Nat->Int)(r:List Int):∀k,(∀i x,r[i]? =ac x->x=val (k+1+i))->jc r (val (nO (mf val) k))=val (nO (mf val) (k+r.length)):=by
 induction r with
 |nil=>exact λk O=>rfl
 |cons x r ih=>
  intro k h;have hx:x=val (k+1):=h 0 x rfl;have step:val (nO (mf val) (k+1))=@aN (λO=>Int) (val (nO (mf val) k)) x (jY (val (nO (mf val) k)) x):=by
   refine(?_:val (if mf val (k+1) (nO (mf val) k)=ag then k+1 else nO (mf val) k)=_);unfold mf jY;refine af hx ?_;by_cases q:val (nO (λi j=>decide (val i>val j)) k)<val (k+1)
   ·refine af (if_pos (decide_eq_true q)) ?_
    refine(?_:_=@aN (λO=>Int) _ _ (az (val (nO (λi j=>decide (val i>val j)) k)<val (k+1))));exact af (decide_eq_true q) rfl
   ·rw [if_neg (by rw [decide_eq_false q];exact Oe)]
    refine(?_:_=@aN (λO=>Int) _ _ (az (val (nO (λi j=>decide (val i>val j)) k)<val (k+1))));exact af (decide_eq_false q) rfl
  have:=ih (k+1) λi y hy=>by refine af (show k+1+1+i=k+1+(i+1) by exact aax (k+1) 1 i) ?_;exact h (i+1) y hy
  refine af (show k+(x::r).length=k+1+r.length by simp;exact Eq.symm (Dh k r.length)) (af this.symm (af step ?_));refine(?_:@aN (λO=>Int) (jc r (val (nO (mf val) k))) (jc r x) (jY (val (nO (mf val) k)) x)=_);cases jY (val (nO (mf val) k)) x<;>rfl
theorem Rm(l:List Int):∀i,jc l i∈i::l:=by
 induction l with
 |nil=>exact λi=>ck
 |cons x r ih=>
  intro i;show@aN (λO=>Int) (jc r i) (jc r x) (jY i x)∈_;cases jY i x with
  |true=>exact cW _ (ih x)
  |false=>exact(cI.mp (ih i)).elim (λe=>cI.mpr (.inl e)) λe=>cW _ (cW _ e)
theorem Ph{A:cH}{i:Int}(hh:A.handled=ae)(hf:bD G F s)(ho:s.heap.get? a=ac (dg vs k))(r:br G F vs ds)(hi:l8 ds=ac p)(hp:p.1=i::l):aP G A (call (.builtin "max") [.ref a]) F s (aZ G (.int (jc l i) p.2)):=by
 refine bu (Ll ds hi r) λh1 h2 h3=>?_;have hl:s.heap.IsList a vs.toArray:=⟨_,ho,rfl,k,rfl⟩;have hlt:=jy ho;have hn:vs.length=l.length+1:=by rw [<-h2,hp];rfl
 refine aP.of hf (call_max_walk (Hx hl ⟨s.heap.objs.size,[s.heap.objs.size,a],[s.heap.objs.size],vs.toArray.size,_,_,mf λi=>p.1.getD i 0,rfl,Hy (prog:=G.prog) (w:=G.w) (A:=A.in1) hh s.heap.objs.size a (iP hlt) vs.toArray,⟨⟨_,fZ _ rfl,rfl,rfl⟩,hl.push _⟩,λb hb=>?_,by rw [eO,hn];exact oF _,
  CmpOf.ints_gt (λi=>p.1.getD i 0) (λi v hv=>h1 i v (by rw [l6]at hv;exact hv)),λv h' tk hv aB=>?_⟩))
 ·rw [nM]
  rcases cI.mp hb with rfl|hb
  ·exact mP _
  ·rw [dm.mp hb];exact zX hlt
 ·refine⟨λb o e=>aB b o (λhb=>?_) (eN _ e),rfl,rfl,?_⟩
  ·rw [dm.mp hb,fW]at e;exact aW e
  ·rw [l6]at hv
   refine aw (h1 _ _ hv) λt e=>?_;have hb:=VU (λi=>p.1.getD i 0) l 0 λj x hx=>by
    refine(?_:x=p.1.getD (0+1+j) 0);rw [hp,iA,kB,aay,List.getElem?_cons_succ,hx];rfl
   have e0:p.1.getD 0 0=i:=by refine af hp ?_;rfl
   have hb:jc l i=p.1.getD (nO (mf λi=>p.1.getD i 0) (vs.toArray.size-1)) 0:=by
    rw [eO,hn,Oj];rw [iA]at hb;rw [<-hb,<-e0];rfl
   refine af e (af hb.symm ?_);refine aH.int ?_;exact h3 _ (hp▸Rm l i)
theorem PA{A:cH}{i j:Int}{n m:Nat}(hh:A.handled=ae)(hf:bD G F s)(hi:i.natAbs<2^n)(hj:j.natAbs<2^m):aP G A (call (.builtin "max") [.int i t,.int j u]) F s (aZ G (.int (jc [j] i) (cK n m))):=by
 refine aP.of hf (max_two_ints hh λh' tk aB=>⟨aB,rfl,rfl,?_⟩);refine(?_:aH G F _ (.int (@aN (λO=>Int) i j (az (i<j))) _));by_cases q:i<j
 ·refine af (if_pos q) (af (decide_eq_true q) ?_)
  exact aH.int (kA hj (q7 (by decide) (Oh _ _)))
 ·refine af (if_neg q) (af (decide_eq_false q) ?_)
  exact aH.int (kA hi (q7 (by decide) (HE _ _)))
theorem E3(f n:Nat):fD (f+1) n=@aN (λO=>T) (fD f (n/10)++[48+n% 10]) [48+n] (eK n 10):=rfl
theorem K9:∀n,n<10->(Ok n).toNat=48+n:=by decide
theorem Wp:∀(f n:Nat),n<10^f->0<f->(aaz 10 n).map Char.toNat=fD f n:=by
 intro f;induction f with
 |zero=>exact λn O h=>absurd h (vt _)
 |succ f ih=>
  intro n h _;rw [E3];cases hb:eK n 10 with
  |true=>
   have hb:n<10:=by simpa using hb
   rw [Nat.toDigits_of_lt_base hb];refine(?_:[(Ok n).toNat]=_);rw [K9 n hb]
  |false=>
   have hb:¬n<10:=λq=>by rw [show eK n 10=ag by simpa using q]at hb;cases hb
   rw [Nat.toDigits_of_base_le (by decide) (vL.mp hb),xF];have hf:0<f:=Nat.pos_of_ne_zero λe=>by(symm;subst e);contradiction
   rw [ih (n/10) (by rw [aau,Oi]at h;exact aaA h) hf];refine(?_:_++[(Ok (n% 10)).toNat]=_);rw [K9 _ (Nat.mod_lt _ (by decide))]
theorem MC{k f:Nat}(h:k<10^f)(hf:0<f):fi (HF (k:Int))=toS (fD f k):=by
 have e:(HF (k:Int)).toList=aaz 10 k:=by
  refine(?_:(Nat.repr k).toList=_);simp [Nat.repr]
 rw [Str.ofString_eq_byList,<-Wp f k h hf,<-e];rfl
theorem DE(f:Nat):∀n,(fD f n).length<=f:=by
 induction f with
 |zero=>exact λn=>bZ _
 |succ f ih=>
  intro n;rw [E3];cases eK n 10 with
  |true=>exact sg (eG _)
  |false=>show(fD f (n/10)++[48+n% 10]).length<=f+1;rw [gx];exact sg (ih _)
theorem Mn(f:Nat):∀n,b8 (fD f n):=by
 induction f with
 |zero=>exact λn c h=>nomatch h
 |succ f ih=>
  intro n;rw [E3];cases hb:eK n 10 with
  |true=>
   have hb:n<10:=by simpa using hb
   intro c hc;rw [dm.mp hc];lia
  |false=>exact λc hc=>(vw.mp hc).elim (ih _ c) λhc=>by rw [dm.mp hc];lia
theorem Qb{k:Nat}(hf:bD G F s)(aB:k<10000):aP G A (call (.type "str") [.int (k:Int) t]) F s (aZ G (.str (fD 5 k) 5)):=by
 have e:fi (HF (k:Int))=toS (fD 5 k):=MC (vy aB (by decide)) (by decide);refine aP.of hf (aaB ?_ ?_)
 ·refine(?_:Nat.log2 k<1920)
  by_cases h0:k=0
  ·subst h0;decide
  ·exact(NL h0).mpr (kA aB (bM (by decide:10000<=2^14) (q7 (by decide) (by decide))))
 ·rw [e];exact hJ (P:=aZ G (.str (fD 5 k) 5)) (aH.str (DE 5 k) (Mn 5 k)) (k:=s.toks+1)
theorem br.one{P:Prop}(h:br G F vs [d])(k:∀v,vs=[v]->aH G F v d->P):P:=h.cons_er λv ws e r rr=>k v (by exact af e (af rr.nil_er rfl)) r
theorem br.two{P:Prop}(h:br G F vs [d,o])(k:∀v w,vs=[v,w]->aH G F v d->aH G F w o->P):P:=h.cons_er λv ws e r rr=>rr.one λw e' r'=>k v w (by exact af e (af e' rfl)) r r'
theorem Ze{A:cH}(hh:A.handled=ae)(hf:bD G F s)(r:br G F vs ds)(hv:∀b,G.val (.bf b)=wa b)(h:i6 f ds=ac d):aP G A (call (wa f) vs) F s (aZ G d):=by
 induction f using oM.casesOn with
 |len=>
  have h0:=h;delta i6 at h;dsimp only at h;refine fy h λe he O=>?_;(symm;subst he);exact r.one λv ev rv=>by subst ev;exact Jb hf rv h0
 |sum=>
  delta i6 at h;dsimp only at h;refine fy h λe he h=>iI h λl el h=>aX h λp hp hx=>?_;(symm;subst he el);refine bG hx ?_;exact r.one λv ev rv=>aH.list_el rv λa ws k e hF rr=>by subst ev e;exact UE hh hf (hf.sat _ _ hF) rr hp
 |tuple=>
  delta i6 at h;dsimp only at h;refine fy h λe he h=>iI h λl el h=>bj h λhb hx=>?_;(symm;subst he el);refine bG hx ?_;exact r.one λv ev rv=>aH.list_el rv λa ws k e hF rr=>by subst ev e;exact WL hf (hf.sat _ _ hF) rr hb
 |str=>
  delta i6 at h;dsimp only at h;refine fy h λe he h=>jw h λi n ei h=>qK h λk ek h=>bj h λhb hx=>?_;(symm;subst he ei ek);refine bG hx ?_;exact r.one λv ev rv=>aH.int_el rv λt e O=>by(symm;subst ev e);exact Qb hf (by simpa using hb)
 |max=>
  delta i6 at h;dsimp only at h;refine dG h (λh=>fy h λe he h=>iI h λl el h=>aX h λp hp hx=>?_) λh=>oV h λa b hab hx=>?_
  ·(symm;subst he el)
   cases hl:p.1 with
   |nil=>rw [hl]at hx;exact aW hx
   |cons i is=>
    rw [hl]at hx;refine bG hx ?_;exact r.one λv ev rv=>aH.list_el rv λa ws k e hF rr=>by subst ev e;exact Ph hh hf (hf.sat _ _ hF) rr hp hl
  ·(symm;subst hab)
   exact r.two λv w e ra rb=>by
    subst e;exact nz (P:=λva vb=>aP G A (call (.builtin "max") [va,vb]) F s (aZ G d)) hx ra rb λi n j m t u hi hj h=>aP.ret h (PA hh hf hi hj)
 |range=>
  delta i6 at h;dsimp only at h;refine dG h (λh=>fy h λe he h=>jw h λi n ei h=>bj h λhb hx=>?_) λh=>oV h λa b hab hx=>?_
  ·(symm;subst he ei)
   refine bG hx ?_;exact r.one λv ev rv=>aH.int_el rv λt e hi=>by subst ev e;exact WI hf hi hb
  ·(symm;subst hab)
   exact r.two λv w e ra rb=>by
    subst e;exact nz (P:=λva vb=>aP G A (call (.type "range") [va,vb]) F s (aZ G d)) hx ra rb λi n j m t u hi hj h=>bj h λh1 h=>bj h λh2 h=>aP.ret h (Xo hf hi hj h1 h2)
 |list=>
  delta i6 at h;dsimp only at h;refine fy h λe he h=>dG h (λh=>HW h λa b eb h=>bj h λhb hx=>?_) λh=>rG h λks l el h=>bj h λhb hx=>?_
  ·(symm;subst he eb)
   refine bG hx ?_;exact r.one λv ev rv=>by subst ev;exact SP hh hf rv hb
  ·(symm;subst he el)
   refine bG hx ?_;exact r.one λv ev rv=>by subst ev;exact Pl hh hf rv hb
 |isinstance=>
  delta i6 at h;dsimp only at h;refine oV h λa b hab h=>AP h λhd eb hz=>?_;(symm;subst hab eb);exact r.two λv w e ra rb=>by
   subst e;have ew:w=G.val hd:=rb;induction hd using iw.casesOn with
   |bf b=>
    rw [hv b]at ew;induction b using oM.casesOn<;>first|exact aW hz|skip
    ·exact jw hz λi n ei hx=>by
      subst ei;refine bG hx ?_;exact aH.int_el ra λt e O=>by(symm;subst e ew);exact So hf
    ·exact iI hz λl el hx=>by
      subst el;refine bG hx ?_;exact aH.list_el ra λa ws k e hF rr=>by subst e ew;exact Sn hf (hf.sat _ _ hF)
   |_=>exact aW hz
theorem CV(pos:eF)(env:gX)(es:List aK)(h:gh es=ag):(qo pos (lY es env)).any (·.1)=am/\(qo pos (lY es env)).all (λx=> !x.1)=ag:=by
 induction es with
 |nil=>exact⟨rfl,rfl⟩
 |cons e es ih=>
  refine ay (Gf h) λh1 h2=>?_;refine af (ua h1) ?_;exact⟨(ih h2).1,(ih h2).2⟩
theorem AG{t:List (Bool×gw aF)}{Q:Args->aC->Prop}(hp:t.all (λx=> !x.1)=ag)(h:aG M A (spliced t) (λvs s'=>Q ⟨vs,[]⟩ s') Er s):aG M A (evalArgs f ag t []) Q Er s:=by
 induction t using dD with
 |nil=>
  unfold evalArgs;refine bv (cn h (λvs s' h'=>?_) λO O x=>x);refine qp ?_;exact bv (cq (bv (cq (cq h'))))
 |cons p t=>
  obtain⟨b,m⟩:=p;induction b using hO with
  |true=>exact bR hp
  |false=>exact Calls.evalArgs_plain h
theorem abl{t:List (Bool×gw aF)}(hp:t.any (·.1)=am/\t.all (λx=> !x.1)=ag)(h:aG M A (spliced t) (λvs s1=>aG M A (call (wa b) vs) Q Er s1) Er s):aG M A (Di pos (wa b) [] t []) Q Er s:=by
 induction b using oM.casesOn<;>first|exact aaC hp.1 (AG hp.2 h)|exact PySem.callWith_type hp.1 (AG hp.2 h)
theorem JS{c:bU}(H:dp G E n)(R:bX n c.A)(S:aO G c σ F s)(r:br G F vs ds)(h:E.call k ds=ac d):aG (aQ G.prog G.w) c.A (call (G.val (.fn k)) vs) (be (aO G c σ) F (aZ G d)) aU s:=
 Ac (zZ (H.call c.A F s k vs ds d R S.ok r h) λx s' q=>q.elim λv q=>by refine af q.1 ?_;exact q.2.rec λF' l j p=>⟨F',l,S.pass j,p⟩)
abbrev je(G:cg)(h:cY):Prop:=∀a o,G.F0 a=ac o->h.get? a=ac o
structure tW(G:cg):Prop where
 keeps:∀(hd:iw),(∀p,hd≠.pat p)->∀(M:lq)(h:cY),je G h->∃k,(k=aaD\/k=aaE\/k=aaF)/\Looks M h (keeperOf (G.val hd)) k
 bf:∀b,G.val (.bf b)=wa b
 meth:∀(A:cH)(s:aC)(a dx:bw)(es:List qj)(j:Nat)(name:aL)(f:Nat),je G s.heap->s.heap.get? a=ac (jr G dx)->s.heap.get? dx=ac (j6 es j)->ba name G.cx.meths=ac f->oH name es=ac ae->
  ∀(pl:gw Bool)(Q:aF×List aF->aC->Prop),Q (G.val (.fn f),[.ref a]) s->aG (aQ G.prog G.w) A (HG (.ref a) name pl) Q aU s
 stat:∀(A:cH)(s:aC)(a:aL)(d:ak),je G s.heap->ba a G.cx.statics=ac d->∀(e:Bool)(Q:aF->aC->Prop),(∀v k,(∀F:bn,aH G F v d)->Q v {s with toks:=k})->aG (aQ G.prog G.w) A (vK (G.val .cls) a e) Q aU s
def Ed(G:cg)(E:bQ)(n:Nat):Prop:=∀(c:bU)(σ:aA)(F:bn)(s:aC)(vs:List aF)(ds:List ak)(d:ak),bX (n+1) c.A->aO G c σ F s->br G F vs ds->sX G.cx E ds=ac d->aG (aQ G.prog G.w) c.A (call (G.val .cls) vs) (be (aO G c σ) F (aZ G d)) aU s
theorem aO.std(S:aO G c σ F s):je G s.heap:=λa o e=>S.ok.sat a o (S.ok.base a o e)
theorem H8(K:tW G)(np:∀p,hd≠.pat p)(hn:gh es=ag)(h:aG (aQ G.prog G.w) A (spliced (qo pos (lY es env))) (λvs s1=>je G s1.heap/\aG (aQ G.prog G.w) A (call (G.val hd) (first++vs)) Q Er s1) Er s):aG (aQ G.prog G.w) A (Di pos (G.val hd) first (qo pos (lY es env)) []) Q Er s:=
 have p:=CV pos env es hn
 callWith_of (P:=je G) (by refine af p.1 ?_;rfl) (λh q=>K.keeps hd np _ h q) (AG p.2 h)
theorem ZI{c:bU}(K:tW G)(NW:Ed G E n)(H:dp G E n)(R1:bX (n+1) c.A)(S:aO G c σ F s)(hn:gh args=ag)(h:(ob (E.ev c.sc σ (.Name x np)) λp=>sZ p.1 λh=>aN (ob (dQ E c.sc args p.2) λq=>ob (on G.cx E h q.1) λd=>ac (d,q.2)) (aY args λa=>ob (pn E c.sc p.2 a) λq=>ob (i6 .len [q.1]) λd=>ac (d,q.2)) (tH h))=ac r):
  aG (aQ G.prog G.w) c.A (eval (.Call (.Name x np) args [] pos) c.env) (be (aO G c r.2) F (aZ G r.1)) aU s:=by
 have R:=R1.down;refine aX h λp hp h=>AP h λhd eh h=>Call_Name rfl (be.seq (H.ev c σ F s _ p R S hp) λv F1 s1 lL S1 r1=>?_);rw [eh]at r1;have ev:v=G.val hd:=r1;(symm;subst ev);have np:∀p,hd≠.pat p:=λp e=>by subst e;exact aX (o:=dQ E c.sc args _) h λq O h=>aX h λd hd' O=>aW hd'
 refine H8 K np hn ?_;cases hl:tH hd with
 |false=>
  rw [hl]at h;refine aX h λq hq h=>aX h λd hd' h=>be.seq (wn H R pos args p.2 F1 s1 q S1 hn hq) λvs F2 s2 b6 S2 r2=>⟨S2.std,be.weakW (lL.trans b6) (rf (J:=aO G c) h ?_)⟩;refine(?_:aG _ _ (call (G.val hd) vs) _ _ _);induction hd using iw.casesOn with
  |bf b=>refine af (K.bf b) ?_;exact S2.yd (Ze R.hh S2.ok r2 K.bf hd')
  |pat p=>exact aW hd'
  |fn k=>exact JS H R S2 r2 hd'
  |cls=>exact NW c q.2 F2 s2 vs q.1 d R1 S2 r2 hd'
 |true=>
  rw [hl]at h;induction hd using iw.casesOn with
  |bf b=>
   induction b using oM.casesOn<;>first|(exact bR hl;done)|skip
   refine fy h λa ea h=>aX h λq hq h=>aX h λd hd' hz=>?_;(symm;subst ea);refine ay (Gf hn) λh1 O=>?_;refine af (ua h1) ?_;refine xG (be.seq (ER H R S1 hq) λv F2 s2 b6 S2 r2=>Dj ⟨S2.std,be.weakW (lL.trans b6) (rf (J:=aO G c) hz ?_)⟩);refine(?_:aG _ _ (call (G.val (.bf .len)) [v]) _ _ _);rw [K.bf];rcases r2 with r2|⟨y,py,_,hy,hv⟩
   ·exact S2.yd (Jb S2.ok r2 hd')
   ·refine aw (S2.names y _ hy) λv' q0'=>bu q0' λhv' ho O=>?_;clear q0'
    have ev:v'=v:=eJ (hv'.symm.trans hv);(symm;subst ev);generalize hq1:q.1=o at*;cases ho with
    |list ho rr=>
     delta i6 at hd';dsimp only at hd';refine fy hd' λe he h=>dG h (λh=>iI h λds e h=>bj h λhb hx=>?_) λh=>dG h (λh=>rR h λds e h=>?_) λh=>ff h λx n e h=>?_
     ·cases he;cases e;refine bG hx ?_;exact S2.yd (Ie S2.ok ho rr hb)
     ·cases he;cases e
     ·cases he;cases e
    |_=>exact aW hd'
  |_=>exact bR hl
theorem t7(x:aL):toS x.cps.toList=x:=by cases x;rfl
theorem xb{a b:aL}(h:a.cps.toList=b.cps.toList):a=b:=by rw [<-t7 a,h,t7]
theorem KI(x:T):(io y x=ae/\∀i:Nat,x[i]?≠ac y)\/∃i:Nat,io y x=ac i/\x[i]? =ac y/\∀k:Nat,k<i->x[k]?≠ac y:=by
 induction x with
 |nil=>exact .inl ⟨rfl,λi=>(nomatch ·)⟩
 |cons b x ih=>
  refine(?_:(@aN (λO=>Option Nat) (ob (io y x) λk=>ac (k+1)) (ac 0) (bt y b)=ae/\_)\/∃i:Nat,@aN (λO=>Option Nat) (ob (io y x) λk=>ac (k+1)) (ac 0) (bt y b)=ac i/\_);cases h:bt y b with
  |true=>exact .inr ⟨0,rfl,by refine af (f0 h) ?_;rfl,λk aB=>(Ol _ aB).elim⟩
  |false=>
   have nb:∀r:T,(b::r)[0]?≠ac y:=λr e=>Z0 h (eJ e).symm;rcases ih with⟨e,hn⟩|⟨i,e,hi,hn⟩
   ·exact .inl ⟨by refine af e ?_;rfl,λi=>by induction i using j8 with|zero=>exact nb x|succ i=>exact hn i⟩
   ·exact .inr ⟨i+1,by refine af e ?_;rfl,hi,λk aB=>by induction k using j8 with|zero=>exact nb x|succ k=>exact hn k (aaG aB)⟩
theorem zj{y:Nat}:StrLaws.At (toS x) (toS [y]) (toS x).length i↔x[i]? =ac y:=StrLaws.subAt_one (toS x) y i
theorem Q8(s:T)(y:Nat):Txt.find (toS s) (toS [y])=@dL Nat (λO=>Int) (-1) (λk=>(k:Int)) (io y s):=by
 unfold Txt.find;rcases StrLaws.occ_head (toS s) (toS [y]) 1 (bZ _)with⟨e,hn⟩|⟨i,r,e,hi,hn⟩
 ·refine af e ?_
  rcases @KI y s with⟨e',_⟩|⟨j,_,hj,_⟩
  ·exact af e' rfl
  ·exact(hn j (zj.mpr hj)).elim
 ·refine af e ?_
  rcases @KI y s with⟨_,hj⟩|⟨j,e',hj,hm⟩
  ·exact(hj i (zj.mp hi)).elim
  ·refine af e' ?_
   have:i=j:=Nat.le_antisymm (vL.mp λh=>hn j h (zj.mpr hj)) (vL.mp λh=>hm i h (zj.mp hi));exact af this rfl
theorem Qi(p:Nat->Bool)(l:T):(l.takeWhile p).length=bE p l:=by
 induction l with
 |nil=>rfl
 |cons c r ih=>
  refine af aaH ?_;refine(?_:_=@aN (λO=>Nat) 0 (bE p r+1) (p c));cases p c with
  |true=>exact congrArg (· +1) ih
  |false=>rfl
theorem T6(p:Nat->Bool)(l:T):l.drop (l.takeWhile p).length=l.dropWhile p:=by
 induction l with
 |nil=>rfl
 |cons c r ih=>
  refine af aaH (af aaI ?_);cases p c with
  |true=>exact ih
  |false=>rfl
theorem Vx(s:T):Txt.lstrip (toS s)=toS (s.drop (bE cG s)):=by
 have e:(toS s).cps.toList=s:=rfl;have hl:PySem.stripLo ZN ag (toS s)=bE cG s:=Qi _ s;unfold Txt.lstrip Txt.stripBy;split
 ·rename_i h
  unfold aaJ at h;rw [hl,HH,beq_iff_eq]at h;refine af h.1 ?_;rfl
 ·unfold aaK
  refine af hl ?_;apply xb;rw [aaL];refine(?_:(s.drop (bE cG s)).take _=s.drop (bE cG s));refine Hr ?_;refine af jA ?_;exact tK rfl
theorem Fh(p:Nat->Bool)(l:T):nT p l=(l.reverse.dropWhile p).reverse:=by
 induction l with
 |nil=>rfl
 |cons c r ih=>
  refine af List.reverse_cons (af List.dropWhile_append ?_);refine(?_:@bW Nat (λO=>T) (@aN (λO=>T) [c] [] (p c)) (λe l O=>c::e::l) (nT p r)=_);refine af ih ?_;cases h:r.reverse.dropWhile p with
  |nil=>
   refine(?_:@aN (λO=>T) [c] [] (p c)=(List.dropWhile p [c]).reverse);refine af aaI ?_;cases p c<;>rfl
  |cons a b=>
   refine(?_:_=((a::b)++[c]).reverse);refine af List.reverse_append ?_;cases h2:(a::b).reverse with
   |nil=>exact absurd (congrArg fF h2) (by simp)
   |cons u v=>rfl
theorem Rb(s:T):Txt.rstrip (toS s)=toS (nT cG s):=by
 have hh:s.take (s.length-(s.reverse.takeWhile cG).length)=nT cG s:=by
  rw [Fh,<-T6,List.reverse_drop,List.reverse_reverse,Om]
 unfold Txt.rstrip Txt.stripBy;split
 ·rename_i h
  unfold aaJ at h;rw [HH]at h;have h2:s.length-(s.reverse.takeWhile cG).length=s.length:=beq_iff_eq.mp h.2;rw [h2,aaM]at hh;exact af hh.symm rfl
 ·unfold aaK
  apply xb;rw [aaL];exact hh
theorem Q6(s:T)(y:Nat):On (toS s) (toS [y])=@bW Nat (λO=>Bool) am (λe O O=>bt y e) s:=by
 have h:On (toS s) (toS [y])=ag↔s[0]? =ac y:=by
  unfold On;rw [HH,decide_eq_true_iff];exact zj (i:=0)
 rw [Hn,h];induction s using dD with
 |nil=>exact⟨(nomatch ·),(nomatch ·)⟩
 |cons e r=>
  refine(?_:ac e=ac y↔bt y e=ag);exact⟨λq=>by refine bG q ?_;exact Dk _,λq=>by exact af (f0 q) rfl⟩
theorem yh(sep:T)(l:List T):Oo (toS sep) (l.map toS)=toS (cy sep l):=by
 induction l with
 |nil=>rfl
 |cons x r ih=>
  induction r using dD with
  |nil=>rfl
  |cons y r=>
   refine(?_:toS x++toS sep++Oo (toS sep) (toS y::r.map toS)=toS (x++(sep++cy sep (y::r))));have ih:Oo (toS sep) (toS y::r.map toS)=_:=ih;rw [ih,rM,rM,ja]
theorem Qp(c:Nat)(r:T):c8 c (c::r)=([],(c8 c r).1::(c8 c r).2):=by
 refine(?_:@aN (λO=>T×List T) (c::(c8 c r).1,(c8 c r).2) ([],(c8 c r).1::(c8 c r).2) (bt c c)=_);rw [Dk]
theorem LN{c:Nat}(h:c∉p)(r:T):c8 c (p++r)=(p++(c8 c r).1,(c8 c r).2):=by
 induction p with
 |nil=>rfl
 |cons e p ih=>
  have hb:bt e c=am:=Bool.eq_false_iff.mpr λq=>h (by refine af (f0 q) ?_;exact ck);refine(?_:@aN (λO=>T×List T) (e::(c8 c (p++r)).1,(c8 c (p++r)).2) ([],(c8 c (p++r)).1::(c8 c (p++r)).2) (bt e c)=_);refine af hb (af (ih λq=>h (cW _ q)) ?_);rfl
theorem Yo{c:Nat}(ps:List T):ps≠[]->(∀p∈ps,c∉p)->(c8 c (cy [c] ps)).1::(c8 c (cy [c] ps)).2=ps:=by
 induction ps with
 |nil=>exact λh=>(h rfl).elim
 |cons p r ih=>
  intro _ hf;have hp:=hf p ck;induction r using dD with
  |nil=>
   have:=LN hp [];rw [ka]at this;refine(?_:(c8 c p).1::(c8 c p).2=[p]);rw [this];exact congrArg (· ::[]) (ka p)
  |cons q r=>
   refine(?_:(c8 c (p++(c::cy [c] (q::r)))).1::(c8 c (p++(c::cy [c] (q::r)))).2=_);rw [LN hp,Qp,ih (nomatch ·) λx hx=>hf x (cW _ hx)];exact congrArg (· ::q::r) (ka p)
theorem KQ(s:T)(c:Nat):Ad (toS s) (toS [c])=((c8 c s).1::(c8 c s).2).map toS:=by
 have hj:=StrLaws.join_split (toS s) (toS [c]);have hf:=StrLaws.split_free (toS s) c;have hn:Ad (toS s) (toS [c])≠[]:=by
  unfold Ad;split
  ·exact(nomatch ·)
  ·split
   ·exact(nomatch ·)
   ·rw [StrLaws.partsBetween_eq]
    refine bV (StrLaws.partsFrom_ne (toS s) (toS [c]).length 0 (Hu (toS s) (toS [c]) 0 (toS s).length ((toS s).length+1))) λp r e=>?_;refine af e ?_;exact(nomatch ·)
 have hf:∀p∈Ad (toS s) (toS [c]),c∉p.cps.toList:=hf;generalize Ad (toS s) (toS [c])=ps at hj hf hn;have e:ps=(ps.map λp=>p.cps.toList).map toS:=by
  refine af jB ?_;exact(List.map_id' ps).symm.trans (Ht λp O=>(t7 p).symm)
 rw [e,yh]at hj;have hs:cy [c] (ps.map λp=>p.cps.toList)=s:=congrArg (λx:aL=>x.cps.toList) hj;have:=@Yo c (ps.map λp=>p.cps.toList) (by simpa using hn) λp hp=>by
  refine aw (jD.mp hp) λq q1'=>ay q1' λhq z1=>?_;clear q1';subst z1;exact hf q hq
 rw [hs]at this;refine af this ?_;exact e
theorem Wm(c:Nat)(b s:T):cy b ((c8 c s).1::(c8 c s).2)=eR c b s:=by
 have hd:∀(x:Nat)(p:T)(r:List T),cy b ((x::p)::r)=x::cy b (p::r):=λx p r=>by induction r using dD<;>rfl
 induction s with
 |nil=>rfl
 |cons e s ih=>
  refine(?_:cy b ((@aN (λO=>T×List T) (e::(c8 c s).1,(c8 c s).2) ([],(c8 c s).1::(c8 c s).2) (bt e c)).1::(@aN (λO=>T×List T) (e::(c8 c s).1,(c8 c s).2) ([],(c8 c s).1::(c8 c s).2) (bt e c)).2)=@aN (λO=>T) (e::eR c b s) (b++eR c b s) (bt e c));refine af ih.symm ?_;cases bt e c with
  |true=>rfl
  |false=>exact hd e _ _
theorem Ta(s:T)(c:Nat)(b:T):Txt.replace (toS s) (toS [c]) (toS b)=toS (eR c b s):=
 (StrLaws.replace_one (toS s) (toS b) c).trans (by
  have:=KQ s c;have e:(toS [c])=(⟨#[c]⟩:aL):=rfl;rw [e]at this;rw [this,yh,Wm])
set_option backward.match.sparseCases true
theorem Yr{c:Nat}(hf:bD G F s):aP G A (call (.builtin "str.find") [.str (toS x) t,.str (toS [c]) u]) F s (aZ G (@dL Nat (λO=>ak) (.int (-1) 1) fN (io c x))):=by
 refine aP.of hf (SC.find ?_);rw [Q8];refine hJ ?_;cases io c x with
 |none=>exact aH.int (by decide)
 |some k=>exact B8
theorem DB{x:T}{k:Nat}(h:x.length<=k)(hb:bB k lim=ag):(toS x).length<=lV:=by rw [fH];exact uA h (gy hb)
theorem Qx{x:T}{n:Nat}(hf:bD G F s)(hx:x.length<=n)(ha:b8 x)(hb:bB n lim=ag):aP G A (call (.builtin "str.lstrip") [.str (toS x) t]) F s (aZ G (.str (x.drop (bE cG x)) n)):=
 aP.of hf (SC.lstrip (λt' k=>by rw [Vx];exact hJ (P:=aZ G (.str (x.drop (bE cG x)) n)) (aH.str (bM (by rw [jA];exact oG _ _) hx) (ha.sub λc hc=>xC hc))) (DB hx hb))
theorem Yz{x:T}{n:Nat}(hf:bD G F s)(hx:x.length<=n)(ha:b8 x)(hb:bB n lim=ag):aP G A (call (.builtin "str.rstrip") [.str (toS x) t]) F s (aZ G (.str (nT cG x) n)):=by
 have hm:∀c∈nT cG x,c∈x:=λc hc=>by
  rw [Fh,aaN]at hc;exact aaN.mp ((aaO _).subset hc)
 have hl:(nT cG x).length<=x.length:=by
  rw [Fh,Om,<-Om (as:=x)];exact(aaO _).length_le
 exact aP.of hf (SC.rstrip (λt' k=>by rw [Rb];exact hJ (P:=aZ G (.str (nT cG x) n)) (aH.str (bM hl hx) (ha.sub hm))) (DB hx hb))
theorem R6{c:Nat}(hf:bD G F s):aP G A (call (.builtin "str.startswith") [.str (toS x) t,.str (toS [c]) u]) F s (aZ G (.bool (@bW Nat (λO=>Bool) am (λe O O=>bt c e) x))):=
 aP.of hf (SC.startswith (by rw [Q6];exact hJ (k:=s.toks) (P:=aZ G (.bool (@bW Nat (λO=>Bool) am (λe O O=>bt c e) x))) rfl))
theorem X4(l:List T):∀(k:Nat),(∀p∈l,b8 p)->br G F (strsFrom k (l.map toS)) (qR l):=by
 induction l with
 |nil=>exact λO O=>.nil
 |cons p l ih=>exact λk h=>.cons (aH.str (bZ _) (h p ck)) (ih _ λq hq=>h q (cW _ hq))
theorem RY(l:T):∀p∈(c8 c l).1::(c8 c l).2,∀e∈p,e∈l:=by
 induction l with
 |nil=>exact λp hp e he=>by rw [dm.mp hp]at he;exact he
 |cons a l ih=>
  have hb:c8 c (a::l)=@aN (λO=>T×List T) (a::(c8 c l).1,(c8 c l).2) ([],(c8 c l).1::(c8 c l).2) (bt a c):=rfl;refine af hb ?_;cases bt a c with
  |true=>exact λp hp e he=>(cI.mp hp).elim (λq=>by rw [q]at he;exact nomatch he) λq=>cW _ (ih p q e he)
  |false=>exact λp hp e he=>(cI.mp hp).elim (λq=>by
    rw [q]at he;exact(cI.mp he).elim (λq=>by refine af q ?_;exact ck) λq=>cW _ (ih _ ck e q)) λq=>cW _ (ih p (cW _ q) e he)
theorem Zb(l:T):((c8 c l).2).length<=l.length:=by
 induction l with
 |nil=>exact bZ _
 |cons a l ih=>
  refine(?_:(@aN (λO=>T×List T) (a::(c8 c l).1,(c8 c l).2) ([],(c8 c l).1::(c8 c l).2) (bt a c)).2.length<=l.length+1);cases bt a c with
  |true=>exact sg ih
  |false=>exact tO ih
theorem XM{x:T}{n c:Nat}(hf:bD G F s)(hx:x.length<=n)(ha:b8 x)(hb:bB n lim=ag):aP G A (call (.builtin "str.split") [.str (toS x) t,.str (toS [c]) u]) F s (aZ G (.list (qR ((c8 c x).1::(c8 c x).2)))):=by
 have he:=KQ x c;have hasc:∀p∈(c8 c x).1::(c8 c x).2,b8 p:=λp hp=>ha.sub (RY x p hp);have hy:((toS [c]).length==0)=am:=rfl;have one:Ad (toS x) (toS [c])=[toS x]->br G F [.str (toS x) t] (qR ((c8 c x).1::(c8 c x).2)):=λh=>by
  rw [he]at h;have h1:(c8 c x).1=x:=congrArg (λl:List aL=>match l with|[]=>[]|p::_=>p.cps.toList) h;have h2:(c8 c x).2=[]:=by
   have:=congrArg fF h;simpa using this
  refine af h1 (af h2 ?_);exact .cons (aH.str (bZ _) ha) .nil
 refine aP.of1 hf ?_;cases h1:(az ((toS x).length<(toS [c]).length)||decide (aaP (toS x)<aaP (toS [c])))
 ·cases hf':(Hu (toS x) (toS [c]) 0 (toS x).length ((toS x).length+1)).isEmpty
  ·have hp:Builtin.Str.partsBetween (toS x) (Hu (toS x) (toS [c]) 0 (toS x).length ((toS x).length+1)) (toS [c]).length=((c8 c x).1::(c8 c x).2).map toS:=by
    refine af he.symm ?_;exact((if_neg (ne_true_of_eq_false h1)).trans (if_neg (ne_true_of_eq_false hf'))).symm
   refine zJ HI (zN _ _ _) Op (Oq _ _) (meets_str_split_sep (toS x) (toS [c]) t u h1 hy hf' (DB hx hb) ?_) ?_
   ·rw [hp,gj,kb,gM]
    have:=bM (@Zb c x) (bM hx (gy hb));unfold lim at this;exact mH this (of_decide_eq_true (id (tN ag)))
   ·refine af hp ?_
    exact B7 hf (X4 _ _ hasc)
  ·exact zJ HI (zN _ _ _) Op (Oq _ _) (meets_str_split_not_found (toS x) (toS [c]) t u h1 hy hf') (B7 (k:=s.toks) hf (one ((if_neg (ne_true_of_eq_false h1)).trans (if_pos hf'))))
 ·exact zJ HI (zN _ _ _) Op (Oq _ _) (meets_str_split_cannot_occur (toS x) (toS [c]) t u h1) (B7 (k:=s.toks) hf (one (if_pos h1)))
theorem Ua(ds:List ak):∀{vs:List aF} {p:List T×Nat},br G F vs ds->iW ds=ac p->sh vs (p.1.map toS)/\(p.1.map fF).sum<=p.2/\∀q∈p.1,b8 q:=by
 induction ds with
 |nil=>intro vs p h hp;refine bG hp ?_;refine af h.nil_er ?_;exact⟨.nil,bZ _,λO h=>nomatch h⟩
 |cons d ds ih=>
  intro vs p h hp;refine ff hp λx n ed hp=>aX hp λq hq hz=>h.cons_er λv ws ev r rr=>?_;refine bG hz ?_;rw [ed]at r;refine bu (ih rr hq) λi1 i2 i3=>?_;refine aH.str_el r λt e hn ha=>?_;refine af ev (af e ?_);exact⟨.cons _ _ i1,xx hn i2,λz hz=>(cI.mp hz).elim (λe=>by refine af e ?_;exact ha) (i3 z)⟩
theorem Ge(sep:T)(l:List T):(cy sep l).length<=(l.map fF).sum+sep.length*l.length:=by
 induction l with
 |nil=>exact eG _
 |cons x r ih=>
  induction r using dD with
  |nil=>exact bM (mS _ _) (mS _ _)
  |cons y r=>
   refine(?_:(x++(sep++cy sep (y::r))).length<=x.length+((y::r).map fF).sum+sep.length*((y::r).length+1));rw [gx,gx,Os];lia
theorem Jd(hs:b8 sep)(l:List T):(∀q∈l,b8 q)->b8 (cy sep l):=by
 induction l with
 |nil=>exact λO O h=>nomatch h
 |cons x r ih=>
  intro h;induction r using dD with
  |nil=>exact h x ck
  |cons y r=>exact λc hc=>(vw.mp hc).elim (h x ck c) λhc=>(vw.mp hc).elim (hs c) (ih (λq hq=>h q (cW _ hq)) c)
theorem Ss{x:T}{n:Nat}(hf:bD G F s)(hx:x.length<=n)(ha:b8 x)(ho:s.heap.get? a=ac (dg vs k))(r:br G F vs ds)(hp:iW ds=ac p)(h:iO (cy x p.1) (eL (p.2+n*p.1.length))=ac d):
  aP G A (call (.builtin "str.join") [.str (toS x) t,.ref a]) F s (aZ G d):=by
 refine bj h λhb hh=>?_;refine bG hh ?_;refine bu (Ua ds r hp) λh1 h2 h3=>?_;have hb:=bM (G6 _) (gy hb);have hm:x.length*p.1.length<=n*p.1.length:=Nat.mul_le_mul_right _ hx;refine aP.of hf (join_list (items:=vs.toArray) (ys:=p.1.map toS) ⟨_,ho,rfl,k,rfl⟩ h1 ?_ λt' k=>?_)
 ·rw [jB,gj,fH,Oi]
  have e:((λx=>tL x)∘toS)=(fF:T->Nat):=funext λq=>fH q;rw [e];unfold lim at hb;lia
 ·have e:Ot (toS x) (p.1.map toS)=toS (cy x p.1):=(Ou _ _).trans (yh x p.1)
  refine af e ?_;exact hJ (P:=aZ G (.str (cy x p.1) (eL (p.2+n*p.1.length)))) (aH.str (bM (bM (Ge x p.1) (xx h2 hm)) (G6 _)) (Jd ha _ h3))
theorem YF(c:Nat)(b:T)(l:T):(eR c b l).length<=l.length*cK 1 b.length/\∀e∈eR c b l,e∈l\/e∈b:=by
 induction l with
 |nil=>exact⟨eG _,λO h=>nomatch h⟩
 |cons a l ih=>
  refine(?_:(@aN (λO=>T) (a::eR c b l) (b++eR c b l) (bt a c)).length<=(l.length+1)*cK 1 b.length/\∀e∈@aN (λO=>T) (a::eR c b l) (b++eR c b l) (bt a c),_);rw [HJ];cases bt a c with
  |true=>exact⟨by rw [gx,kB];exact xx ih.1 (Oh _ _),λe he=>(vw.mp he).elim .inr λh=>(ih.2 e h).imp (cW _) id⟩
  |false=>exact⟨xx ih.1 (HE _ _),λe he=>(cI.mp he).elim (λh=>.inl (by rw [h];exact ck)) λh=>(ih.2 e h).imp (cW _) id⟩
theorem UZ{x:T}{n c:Nat}(hf:bD G F s)(hu:u≠0)(hv:w≠0)(huv:u≠w)(hx:x.length<=n)(ha:b8 x)(hb:bB n lim=ag)(hne:le [c] b=am)(hz:bB b.length 14=ag)(hab:b8 b):
  aP G A (call (.builtin "str.replace") [.str (toS x) t,.str (toS [c]) u,.str (toS b) w]) F s (aZ G (.str (eR c b x) (eR c b x).length)):=
 aP.of hf (SC.replaceW hu hv huv (by rw [beq_eq_false_iff_ne];exact λe=>by rw [lS.mpr (show [c]=b from congrArg (λz:aL=>z.cps.toList) e)]at hne;cases hne) (by rw [fH];exact bM hx (gy hb)) (by rw [fH];exact gy hz) λt' k=>by
  rw [Ta];exact hJ (P:=aZ G (.str (eR c b x) (eR c b x).length)) (aH.str (bZ _) λe he=>((YF c b x).2 e he).elim (ha e) (hab e)))
theorem Yc(hf:bD G F s)(hr:aH G F v (.dict ks ds)):aP G A (call (.builtin "dict.items") [v]) F s (aZ G (.items ks ds)):=
 aH.dict_el hr λa o vs e hF p r=>by
  subst e;have hd:s.heap.DictOf (strKind G.prog G.w) a ((ks.map toS).zip vs):=rW.mpr ⟨o,hf.sat _ _ hF,p.1⟩;exact aP.of1 hf (call_meetsIn aaQ hd.typeIs PySem.F.entry_dict_items (PySem.F.args_dict_items_1 _) (meets_dict_items (strKind G.prog G.w) a p.2.1) ⟨⟨_,hd⟩,xp (k:=s.toks) (P:=aZ G (.items ks ds)) rfl ⟨_,a,rfl,jj,o,vs,fj (hf.fresh (fW _)) _ _ hF,p,r.mono (fj (hf.fresh (fW _)))⟩⟩)
theorem Tk(hf:bD G F s)(hr:aH G F v (.dict ks ds)):aP G A (call (.builtin "dict.values") [v]) F s (aZ G (.vals ks ds)):=
 aH.dict_el hr λa o vs e hF p r=>by
  subst e;have hd:s.heap.DictOf (strKind G.prog G.w) a ((ks.map toS).zip vs):=rW.mpr ⟨o,hf.sat _ _ hF,p.1⟩;exact aP.of1 hf (call_meetsIn aaR hd.typeIs PySem.F.entry_dict_values (PySem.F.args_dict_values_1 _) (meets_dict_values (strKind G.prog G.w) a p.2.1) ⟨⟨_,hd⟩,xp (k:=s.toks) (P:=aZ G (.vals ks ds)) rfl ⟨_,a,rfl,jj,o,vs,fj (hf.fresh (fW _)) _ _ hF,p,r.mono (fj (hf.fresh (fW _)))⟩⟩)
section
open Builtin Builtin.Re
theorem Fp:Ae "re.Match":=⟨⟨"object.__getattribute__",by rw [iQ,iR];left,by decide+kernel⟩,by rw [iQ,iR];left⟩
theorem AW:kD "re.Match" "group" "re.Match.group":=
 .of (owner:="re.Match") (n:="group") (by rw [iQ,iR];left) (by decide+kernel) (by decide+kernel) (by decide+kernel) (.inr (by decide+kernel)) (by rw [lu];left)
theorem Lc:qs table "re.Match.group"=ac fO.«re.Match.group»:=si (by left)
theorem JH:sj (.builtin "re.Match.group")=pure (.type "method_descriptor"):=by refine(?_:Ov _=_);refine af Ow ?_;left
theorem M9(a b:aF):kE "re.Match.group" ⟨[a,b],[]⟩:=by unfold kE;left
theorem Kk:kD "re.Match" "span" "re.Match.span":=
 .of (owner:="re.Match") (n:="span") (by rw [iQ,iR];left) (by decide+kernel) (by decide+kernel) (by decide+kernel) (.inr (by decide+kernel)) (by rw [lu];left)
theorem Sa:qs table "re.Match.span"=ac fO.«re.Match.span»:=si (by left)
theorem Pa:sj (.builtin "re.Match.span")=pure (.type "method_descriptor"):=by refine(?_:Ov _=_);refine af Ow ?_;left
theorem Tv(a b:aF):kE "re.Match.span" ⟨[a,b],[]⟩:=by unfold kE;left
theorem uP{A:cH}{s:aC}{M:nH}{W:b7}{T:String}{name:aL}{id:String}{bk:fO}{self:aF}{rest:List aF}{Q:aF->aC->Prop}{E:aF->aC->Prop}(slot:kD T name id)(hT:s.TypeIs self T)(entry:qs table id=ac bk)(args:kE id ⟨self::rest,[]⟩)(h:aG (aQ M W) A.in1 (bk ⟨self::rest,[]⟩) (λfin s'=>∃v,fin=.done (.ret v)/\Q v s') E s):
  aG (aQ M W) A (call (.builtin id) (self::rest)) Q E s:=
 Ac (HK slot.plain entry (slot.check _ _ _ _ _ _ _ _ hT args (cn h (λfin s' h'=>by refine aw h' λv q2'=>ay q2' λz0 hv=>?_;clear h' q2';subst z0;exact hv) λO O h=>h)))
theorem Iz(sp:List Nat):sk reRawOf ((ac (g8 sp).toArray).getD #[])=(sp.map λn:Nat=>(n:Int)).toArray:=by
 refine(?_:sk reRawOf (g8 sp).toArray=_);unfold g8;refine af Dl (af jB ?_);rfl
theorem BD{sp:List Nat}{i:Nat}(h:sp[i]? =ac p):(sp.map λn:Nat=>(n:Int)).toArray.getD i (-1)=(p:Int):=by
 refine af (q9) (af (l6) (af (Hw) (af h ?_)));rfl
theorem BM(x:T)(p q:Nat):(im x p q).length<=x.length:=by
 unfold im;rw [Hp,jA];exact bM (Hq _ _) (oG _ _)
theorem MW{s:aC}{Q:Fin->aC->Prop}(ho:s.heap.get? a=ac (rN x t pa li tp))(htp:s.heap.get? tp=ac (gA (g8 sp) k))(hp:sp[2]? =ac p)(hq:sp[3]? =ac q)(hx:x.length<=lV)(h:∀t' tk,Q (.done (.ret (.str (toS (im x p q)) t'))) {s with toks:=tk}):aG (aQ M W) A (fO.«re.Match.group» ⟨[.ref a,.int 1 u],[]⟩) Q E s:=by
 unfold fO.«re.Match.group»
 repeat (any_goals (first|assumption|wp_step))
 rw [Iz];have hl:3<sp.length:=(C7.mp hq).1;rw [if_neg (by rw [vM,decide_eq_true_iff,decide_eq_true_iff,eO,gj];lia)];refine cq (bv ?_);unfold reGroupText;dsimp only;rw [show 2*dM 1=2 from rfl,show 2+1=3 from rfl,BD hp,BD hq,if_neg (by rw [vM,decide_eq_true_iff,decide_eq_true_iff];exact of_decide_eq_false rfl)]
 repeat (any_goals (first|assumption|wp_step))
 have e:(⟨((toS x).cps,0).fst.extract (dM (p:Int)) (dM (q:Int))⟩:aL)=toS (im x p q):=xb (by simp [toS,im]);refine af e ?_;refine wpAny_mkStr (cq (h _ _)) ?_;rw [fH];exact bM (BM x p q) hx
theorem P3(hf:bD G F s)(hr:aH G F v (.mat x n sp))(hp:sp[2]? =ac p)(hq:sp[3]? =ac q)(hn:n<=lim):aP G A (call (.builtin "re.Match.group") [v,.int 1 u]) F s (aZ G (.str (im x p q) n)):=by
 refine d4 hr λa tp pa t q0'=>bV q0' λli k q1'=>gY q1' λz0 ha htp hx hasc O=>?_;clear hr q0' q1';subst z0;have hm:∀c∈im x p q,c∈x:=λc hc=>xC (Z5 hc);exact aP.of hf (uP AW ⟨_,hf.sat _ _ ha,rfl⟩ Lc (M9 _ _) (MW (hf.sat _ _ ha) (hf.sat _ _ htp) hp hq (uA hx hn) λt' tk=>⟨_,rfl,hJ (P:=aZ G (.str (im x p q) n)) (aH.str (bM (BM x p q) hx) (hasc.sub hm))⟩))
theorem RU{G:cg}{A:cH}{F:bn}{s:aC}{x:T}{u:fh}{n:Nat}{v:aF}{sp:List Nat}{p q:Nat}(hf:bD G F s)(hr:aH G F v (.mat x n sp))(hp:sp[0]? =ac p)(hq:sp[1]? =ac q):aP G A (call (.builtin "re.Match.span") [v,.int 0 u]) F s (aZ G (.tup [fN p,fN q])):=by
 refine d4 hr λa tp pa t q1'=>bV q1' λli k q2'=>gY q2' λz0 ha htp hx hasc O=>?_;clear hr q1' q2';subst z0;have ha:=hf.sat _ _ ha;have htp:=hf.sat _ _ htp;refine aP.of1 hf (uP Kk ⟨_,ha,rfl⟩ Sa (Tv _ _) ?_);have hl:1<sp.length:=(C7.mp hq).1;unfold fO.«re.Match.span»
 repeat (any_goals (first|assumption|wp_step))
 rw [Iz];rw [if_neg (by rw [vM,decide_eq_true_iff,decide_eq_true_iff,eO,gj];lia)]
 repeat (any_goals (first|assumption|wp_step))
 refine(?_:∃v,Fin.done (N4 (j7 s.heap.objs.size))=Fin.done (N4 v)/\_);refine⟨_,rfl,?_⟩;have e0:(sp.map λn:Nat=>(n:Int)).toArray.getD (2*dM 0) (-1)=(p:Int):=BD hp;have e1:(sp.map λn:Nat=>(n:Int)).toArray.getD (2*dM 0+1) (-1)=(q:Int):=BD hq;dsimp only;refine af e0 (af e1 ?_);exact H9 (k:=s.toks+1+1) (vs:=[.int (p:Int) _,.int (q:Int) _]) hf (.cons B8 (.cons B8 .nil))
theorem Gj:sj (.builtin "re.Match.string")=pure (.type "member_descriptor"):=by left
theorem UK:xz (.type "re.Match") "string"=pure (ac (.builtin "re.Match.string")):=by rw [iQ,iR];left
theorem Hf:kD "member_descriptor" "__get__" "member_descriptor.__get__":=
 .of (owner:="member_descriptor") (n:="__get__") (by rw [iQ,iR];left) (by decide+kernel) (by decide+kernel) (by decide+kernel) (.inl (by decide+kernel)) (by rw [lu];left)
theorem YK:kD "member_descriptor" "__set__" "member_descriptor.__set__":=
 .of (owner:="member_descriptor") (n:="__set__") (by rw [iQ,iR];left) (by decide+kernel) (by decide+kernel) (by decide+kernel) (.inl (by decide+kernel)) (by rw [lu];left)
theorem WW:qs table "member_descriptor.__get__"=ac fO.«member_descriptor.__get__»:=si (by left)
theorem PY(a b c:aF):kE "member_descriptor.__get__" ⟨[a,b,c],[]⟩:=by unfold kE;left
theorem UB:qs table "re.Match.string"=ac fO.«re.Match.string»:=si (by left)
theorem Cc:kD "re.Match" "__getattribute__" "object.__getattribute__":=
 .of (owner:="object") (n:="__getattribute__") (by rw [iQ,iR];left) (by decide+kernel) (by decide+kernel) (by decide+kernel) (.inl (by decide+kernel)) (by rw [lu];left)
theorem QF:(".".intercalate ("re.Match.string".cutAt '.').dropLast)="re.Match":=by
 have e0:"re.Match.string".cutAt '.'=["re","Match","string"]:=by first|rfl|decide+kernel
 refine af e0 ?_;decide+kernel
theorem QB:Ox (.type "re.Match") (.type "re.Match")=pure ag:=by rw [lu];left
theorem V5{h:cY}{g:Array HL}{dr:Drawn}{tk:Nat}{os:dl}{R:vG->aC->Prop}(hx:h.get? a=ac (rN x t pa li tp))(hq:R (.ok (.ret (.str (toS x) t))) ⟨h,g,dr,tk,os⟩):
  lr (aQ M W) A (.call (.builtin "member_descriptor.__get__") ⟨[.builtin "re.Match.string",.ref a,.type "re.Match"],[]⟩) R ⟨h,g,dr,tk,os⟩:=by
 have hT:(⟨h,g,dr,tk,os⟩:aC).TypeIs (.ref a) "re.Match":=⟨_,hx,rfl⟩;have hT5:(⟨h,g,dr,tk,os⟩:aC).TypeIs (.builtin "re.Match.string") "member_descriptor":=Gj;have f8:Ox (.type "re.Match") (.type (".".intercalate ("re.Match.string".cutAt '.').dropLast))=pure ag:=by refine af QF ?_;exact QB
 have hnd:(xE (toS x) t==doubtfulMember)=am:=rfl;refine HK Hf.plain WW (Hf.check _ _ _ _ _ _ _ _ hT5 (PY _ _ _) ?_)
 repeat (any_goals (first|assumption|wp_step))
 refine⟨aaS _ (by decide+kernel),codeAny_builtin UB ?_⟩;unfold fO.«re.Match.string»
 repeat (any_goals (first|assumption|with_reducible refine Dg hx rfl rfl ?_|wp_step))
theorem PL:qs table "object.__getattribute__"=ac fO.«object.__getattribute__»:=si (by left)
theorem Yg(a b:aF):kE "object.__getattribute__" ⟨[a,b],[]⟩:=by unfold kE;left
theorem SD{h:cY}{g:Array HL}{dr:Drawn}{tk:Nat}{os:dl}{expr:Bool}{Q:aF->aC->Prop}(hx:h.get? a=ac (rN x t pa li tp))(hq:∀k,Q (.str (toS x) t) ⟨h,g,dr,k,os⟩):
  aG (aQ M W) A (vK (.ref a) "string" expr) Q E ⟨h,g,dr,tk,os⟩:=by
 have hT:∀k,(⟨h,g,dr,k,os⟩:aC).TypeIs (.ref a) "re.Match":=λk=>⟨_,hx,rfl⟩;have hT':=hT tk;have hT1:=hT (tk+1);have hT5:(⟨h,g,dr,tk+1,os⟩:aC).TypeIs (.builtin "re.Match.string") "member_descriptor":=Gj;have f2:=Cc.lookup;have f3:=Cc.bind (.ref a);have f4:=UK;have f5:=Gj;have f6:=Hf.lookup;have f7:=YK.lookup;have hx0:(expr&&onTheHeap (Oy "object.__getattribute__"))=am:=by induction expr using hO<;>rfl
 unfold vK getAttrBy
 repeat (any_goals (first|assumption|wp_step))
 refine HK Cc.plain PL (Cc.check _ _ _ _ _ _ _ _ hT1 (Yg _ _) ?_)
 repeat (any_goals (first|assumption|wp_step))
 refine V5 (t:=t) hx ?_
 repeat (any_goals (first|assumption|wp_step))
 exact hq _
theorem V4(hf:bD G F s)(hr:aH G F v (.mat x n sp)):aP G A (vK v "string" e) F s (aZ G (.str x n)):=by
 refine d4 hr λa tp pa t q2'=>bV q2' λli k q0'=>gY q0' λz0 ha htp hx hasc O=>?_;clear hr q2' q0';subst z0;obtain⟨hh,g,d,tk,os⟩:=s;exact aP.of hf (SD (hf.sat _ _ ha) λk=>hJ (s:=⟨hh,g,d,tk,os⟩) (P:=aZ G (.str x n)) (aH.str hx hasc))
end
theorem UT{G:cg}(hh:∀h,zY (G.val h)=ag)(hr:aH G F v d):zY v=ag:=by
 induction d using ak.casesOn with
 |hd h=>refine af (show v=G.val h from hr) ?_;exact hh h
 |none=>refine af (show v=.none from hr) ?_;rfl
 |bool b=>refine af (show v=.bool b from hr) ?_;rfl
 |int i n=>exact hr.int_el λt e O=>by refine af e ?_;rfl
 |str i n=>exact hr.str_el λt e O O=>by refine af e ?_;rfl
 |tup ds=>exact hr.tup_el λa O O e O O=>by refine af e ?_;rfl
 |list ds=>exact hr.list_el λa O O e O O=>by refine af e ?_;rfl
 |dict ks ds=>exact hr.dict_el λa O O e O O O=>by refine af e ?_;rfl
 |inst ks ds=>refine d4 hr λa O O O q2'=>ay q2' λe O=>?_;clear hr q2';refine af e ?_;rfl
 |mat s n sp=>refine d4 hr λa O O O q0'=>bV q0' λO O q1'=>ay q1' λe O=>?_;clear hr q0' q1';refine af e ?_;rfl
 |rng a b=>refine d4 hr λa O O O q2'=>ay q2' λe O=>?_;clear hr q2';refine af e ?_;rfl
 |items ks ds=>refine bV hr λa O q1'=>ay q1' λe O=>?_;clear hr q1';refine af e ?_;rfl
 |vals ks ds=>refine bV hr λa O q0'=>ay q0' λe O=>?_;clear hr q0';refine af e ?_;rfl
theorem H5(U:rj G)(I:rF G)(hf:bD G F s)(ho:s.heap.get? a=ac (jr G dx))(h2:s.heap.get? dx=ac o)(ip:Ca o dx ks vs)(r:br G F vs ds)(hy:has y G.cx.attrs=ag)(aB:uV y.cps.toList ks ds=ac d):aP G A (vK (.ref a) y e) F s (aZ G d):=by
 refine bV ip λes j q2'=>ay q2' λz0 ep=>?_;clear ip q2';subst z0;refine aw ((ep.get (y:=y) r).1 d aB) λw q1'=>ay q1' λh3 hr=>?_;clear q1';exact aP.of hf (I.get A s a dx es j y w (λa o e=>hf.sat a o (hf.base a o e)) ho h2 hy h3 (UT U.handed hr) e _ λk=>hJ (P:=aZ G d) hr)
theorem WC{c:bU}(U:rj G)(I:rF G)(K:tW G)(H:dp G E n)(R:bX n c.A)(S:aO G c σ F s)(h:(kh e λO O=>ob (pn E c.sc σ e) λp=>ob (KD G.cx p.1 a) λd=>ac (d,p.2))=ac r):
  aG (aQ G.prog G.w) c.A (eval (.Attribute e a pos) c.env) (be (aO G c r.2) F (aZ G r.1)) aU s:=by
 refine lN h λy np ee h=>aX h λp hp h=>aX h λd hd hz=>?_;(symm;subst ee);refine Attribute_name (be.seq (ER H R S hp) λv F1 s1 lL S1 r1=>be.weakW lL (rf (J:=aO G c) hz ?_));refine dG hd (λhd=>FC hd λks ds eo hd=>bj hd λha aB=>?_) λhd=>dG hd (λhd=>AP hd λhh eo hd=>?_) λhd=>wl hd λx k sp eo hd=>bj hd λhs hx=>?_
 ·rw [eo]at r1
  rcases r1 with r1|⟨z,pz,_,hz',hv⟩
  ·refine d4 r1 λb dx o vs q0'=>gY q0' λz0 ho h2 ne ip r=>?_;clear r1 q0';subst z0
   exact S1.yd (H5 U I S1.ok (S1.ok.sat _ _ ho) (S1.ok.sat _ _ h2) ip r ha aB)
  ·refine aw (S1.names z _ hz') λv' q2'=>bu q2' λhv' ho O=>?_;clear q2'
   have ev:v'=v:=eJ (hv'.symm.trans hv);(symm;subst ev);cases ho with
   |inst ho h2 ne ip r=>exact S1.yd (H5 U I S1.ok ho h2 ip r ha aB)
 ·induction hh using iw.casesOn with
  |cls=>
   have r2:v=G.val .cls:=by
    rcases r1 with r1|⟨z,pz,_,hz',hv⟩
    ·rw [eo]at r1;exact r1
    ·refine aw (S1.names z _ hz') λv' q1'=>bu q1' λhv' ho O=>?_;clear q1'
     rw [eo]at ho;cases ho
   refine af r2 ?_;exact S1.yd (aP.of S1.ok (K.stat c.A s1 a d S1.std hd ag _ λw k hw=>hJ (P:=aZ G d) (hw F1)))
  |_=>exact aW hd
 ·have ea:=jq.mp hs
  (symm;subst ea);refine bG hx ?_;rcases r1 with r1|⟨z,pz,_,hz',hv⟩
  ·rw [eo]at r1
   exact S1.yd (V4 S1.ok r1)
  ·refine aw (S1.names z _ hz') λv' q0'=>bu q0' λhv' ho O=>?_;clear q0'
   rw [eo]at ho;cases ho
set_option backward.match.sparseCases false
theorem V8(h:xg o=ag):attributeBase o name env w=w:=by
 induction o using fw with
 |Call f args kws pos=>
  induction f using fw<;>first|rfl|(induction args using dD with|cons a r=>rfl|nil=>exact bR h)
 |_=>rfl
theorem D8{apos pos:eF}(hb:xg o=ag)(hn:gh args=ag)(hl:bB args.length 9=ag)(hline:(apos.endLine==pos.line)=ag)(h:aG M A (eval o env) (λov s1=>∀pl,aG M A (HG ov name pl) (λfx s2=>aG M A (Di pos fx.1 fx.2 (qo pos (lY args env)) []) Q E s2) E s1) E s):aG M A (eval (.Call (.Attribute o name apos) args [] pos) env) Q E s:=by
 rw [arm_eval_Call,V8 hb];refine bv (cn h (λov s1 h1=>bv (nJ ?_)) λO O e=>e);have hform:methodCallForm (args.length+([]:List HM).length) (qo pos (lY args env)) (backToKw pos (keywordEach [] env))=ag:=by
  refine(?_:((qo pos (lY args env)).all (λx=> !x.1)&&ag&&az (args.length+0+0<30))=ag);refine af ((CV pos env args hn).2) (af (decide_eq_true (show args.length+0+0<30 from mH (gy hl) (by decide))) ?_);rfl
 have hpos:methodCallPos ag o env apos pos=pure pos:=by unfold methodCallPos;refine af hline ?_;rfl
 unfold methodCall;refine af hform ?_;exact bv (qp (cn (h1 _) (λfx s2 h2=>bv (wpAny_of_eq hpos h2)) λO O e=>e))
def DO(t:mm):String:=@mm.rec (λO=>String) "str" "str" "str" "str" "str" "str" "dict" "dict" "re.Pattern" "re.Pattern" "re.Pattern" "re.Match" "re.Match" t
def EG(t:mm):aL:=@mm.rec (λO=>aL) "find" "lstrip" "rstrip" "startswith" "split" "join" "items" "values" "search" "subn" "fullmatch" "group" "span" t
def EJ(t:mm):String:=@mm.rec (λO=>String) "str.find" "str.lstrip" "str.rstrip" "str.startswith" "str.split" "str.join" "dict.items" "dict.values" "re.Pattern.search" "re.Pattern.subn" "re.Pattern.fullmatch" "re.Match.group" "re.Match.span" t
theorem Sv(h:Io m=ac t):m=EG t:=by
 have all:∀q∈([("find",.find),("lstrip",.lstrip),("rstrip",.rstrip),("startswith",.startswith),("split",.split),("join",.join),("items",.items),("values",.values),("search",.search),("subn",.subn),("fullmatch",.fullmatch),("group",.group),("span",.span)]:List (aL×mm)),q.1=EG q.2:=by
  repeat first|refine lv.mpr ⟨rfl,?_⟩|exact λO h=>(oE h).elim
 exact all _ (v9 _ h)
def WH:Prop:=Ae "re.Pattern"/\(kD "re.Pattern" "search" "re.Pattern.search"/\sj (.builtin "re.Pattern.search")=pure (.type "method_descriptor"))/\(kD "re.Pattern" "subn" "re.Pattern.subn"/\sj (.builtin "re.Pattern.subn")=pure (.type "method_descriptor"))/\
 (kD "re.Pattern" "fullmatch" "re.Pattern.fullmatch"/\sj (.builtin "re.Pattern.fullmatch")=pure (.type "method_descriptor"))/\(kD "re.Pattern" "sub" "re.Pattern.sub"/\sj (.builtin "re.Pattern.sub")=pure (.type "method_descriptor"))
theorem LQ:WH:=by
 refine⟨⟨⟨"object.__getattribute__",by rw [iQ,iR];left,by decide+kernel⟩,by rw [iQ,iR];left⟩,⟨.of (owner:="re.Pattern") (n:="search") (by rw [iQ,iR];left) (by decide+kernel) (by decide+kernel) (by decide+kernel) (.inr (by decide+kernel)) (by rw [lu];left),?_⟩,
  ⟨.of (owner:="re.Pattern") (n:="subn") (by rw [iQ,iR];left) (by decide+kernel) (by decide+kernel) (by decide+kernel) (.inr (by decide+kernel)) (by rw [lu];left),?_⟩,
  ⟨.of (owner:="re.Pattern") (n:="fullmatch") (by rw [iQ,iR];left) (by decide+kernel) (by decide+kernel) (by decide+kernel) (.inr (by decide+kernel)) (by rw [lu];left),?_⟩,
  ⟨.of (owner:="re.Pattern") (n:="sub") (by rw [iQ,iR];left) (by decide+kernel) (by decide+kernel) (by decide+kernel) (.inr (by decide+kernel)) (by rw [lu];left),?_⟩⟩<;>(show Ov _=_;rw [Ow];left)
theorem PT(t:mm):Ae (DO t)/\kD (DO t) (EG t) (EJ t)/\sj (.builtin (EJ t))=pure (.type "method_descriptor"):=by
 refine mq LQ λp0 p1 p2 p3 O=>?_;induction t using mm.casesOn
 ·exact⟨vN,PySem.F.slot_str_find,PySem.F.type_str_find⟩
 ·exact⟨vN,PySem.F.slot_str_lstrip,PySem.F.type_str_lstrip⟩
 ·exact⟨vN,PySem.F.slot_str_rstrip,PySem.F.type_str_rstrip⟩
 ·exact⟨vN,PySem.F.slot_str_startswith,PySem.F.type_str_startswith⟩
 ·exact⟨vN,HI,PySem.F.type_str_split⟩
 ·exact⟨vN,aaT,aaU⟩
 ·exact⟨aaV,aaQ,PySem.F.type_dict_items⟩
 ·exact⟨aaV,aaR,PySem.F.type_dict_values⟩
 ·exact⟨p0,p1⟩
 ·exact⟨p0,p2⟩
 ·exact⟨p0,p3⟩
 ·exact⟨Fp,AW,JH⟩
 ·exact⟨Fp,Kk,Pa⟩
structure td(G:cg):Prop where
 is:∀(p:fM)(s:aC),je G s.heap->∃a o,G.val (.pat p)=.ref a/\s.heap.get? a=ac o/\o.cls=.type "re.Pattern"/\o.dict=ae
 search:∀(A:cH)(F:bn)(s:aC)(p:fM)(x:T)(t:fh)(n:Nat)(r:Option (List Nat)),bD G F s->x.length<=n->n<=lim->b8 x->rl p x=ac r->aP G A (call (.builtin "re.Pattern.search") [G.val (.pat p),.str (toS x) t]) F s (aZ G (@dL (List Nat) (λO=>ak) .none (λsp=>.mat x n sp) r))
 subn:∀(A:cH)(F:bn)(s:aC)(x:T)(t u:fh)(n j:Nat),A.handled=ae->bD G F s->x.length<=n->n<=lim->b8 x->bE sw x=j+1->aP G A (call (.builtin "re.Pattern.subn") [G.val (.pat .junk),.str (toS []) u,.str (toS x) t]) F s (aZ G (.tup [.str (x.drop (j+1)) n,fN 1]))
 full:∀(A:cH)(F:bn)(s:aC)(x:T)(t:fh)(n:Nat),bD G F s->x.length<=n->n<=lim->b8 x->aP G A (call (.builtin "re.Pattern.fullmatch") [G.val (.pat .jtok),.str (toS x) t]) F s (aZ G (@aN (λO=>ak) .none (.mat x n [0,x.length]) (!eW x&&bt (bE pw x) x.length)))
theorem vf{α:Type}{f:fM->Option α}{r:α}{P:Prop}(h:ya d f=ac r)(k:∀p,d=.hd (.pat p)->f p=ac r->P):P:=AP h λhd e h=>by
 induction hd using iw.casesOn with
 |pat p=>exact k p e h
 |_=>exact aW h
abbrev xw(s:aC)(v:aF):Prop:=∀a,v=.ref a->∃ob,s.heap.get? a=ac ob/\ob.dict=ae
theorem LU{s:aC}(hr:aH G F v o)(e:o=.str x k):s.TypeIs v "str"/\xw s v:=by
 subst e;exact hr.str_el λt e O O=>by refine af e ?_;exact⟨zN _ _ _,λO q=>nomatch q⟩
theorem MB(hf:bD G F s)(hr:aH G F v o)(e:o=.dict ks l):s.TypeIs v "dict"/\xw s v:=by
 subst e;exact hr.dict_el λa ob vs e hF p r=>by
  refine af e ?_;have ho:=hf.sat _ _ hF;exact⟨(rW.mpr ⟨ob,ho,p.1⟩:s.heap.DictOf (strKind G.prog G.w) a ((ks.map toS).zip vs)).typeIs,λb hb=>by cases hb;exact⟨_,ho,JQ p⟩⟩
theorem H0(hf:bD G F s)(hr:aH G F v o)(e:o=.mat x k sp):s.TypeIs v "re.Match"/\xw s v:=by
 subst e;refine d4 hr λa tp pa t q1'=>bV q1' λli k q2'=>bu q2' λz0 ha O=>?_;clear hr q1' q2';subst z0;exact⟨⟨_,hf.sat _ _ ha,rfl⟩,λb hb=>by cases hb;exact⟨_,hf.sat _ _ ha,rfl⟩⟩
theorem CL(PM:td G)(hf:bD G F s)(hr:aH G F v o)(e:o=.hd (.pat p)):s.TypeIs v "re.Pattern"/\xw s v:=by
 subst e;refine bV (PM.is p s λa o e=>hf.sat a o (hf.base a o e)) λa ob q0'=>dH q0' λe ho hc hd=>?_;clear q0';refine af (show v=G.val (.pat p)from hr) (af e ?_);exact⟨⟨_,ho,hc⟩,λb hb=>by cases hb;exact⟨_,ho,hd⟩⟩
theorem Sd(PM:td G)(hf:bD G F s)(hr:aH G F v o)(h:meth t o ds=ac d):s.TypeIs v (DO t)/\xw s v:=by
 induction t using mm.casesOn
 case items=>exact rG h λO O e O=>MB hf hr e
 case values=>exact rG h λO O e O=>MB hf hr e
 case search=>exact vf h λO e O=>CL PM hf hr e
 case subn=>exact vf h λO e O=>CL PM hf hr e
 case fullmatch=>exact vf h λO e O=>CL PM hf hr e
 case group=>exact wl h λO O O e O=>H0 hf hr e
 case span=>exact wl h λO O O e O=>H0 hf hr e
 all_goals exact ff h λO O e O=>LU hr e
theorem Hg{α:Type}{f:Nat->Option α}{r:α}{P:Prop}(h:BL ds f=ac r)(ra:br G F vs ds)(k:∀(c:Nat) (u:fh),vs=[.str (toS [c]) u]->f c=ac r->P):P:=
 fy h λa ea h=>ff h λy m ey h=>fy h λc ec hz=>by
  (symm;subst ea ey ec);exact ra.one λw ew rw'=>rw'.str_el λt et O O=>k c t (by exact af ew (af et rfl)) hz
theorem Wu{A:cH}(hh:A.handled=ae)(PM:td G)(hf:bD G F s)(hr:aH G F v o)(ra:br G F vs ds)(h:meth t o ds=ac d):aP G A (call (.builtin (EJ t)) (v::vs)) F s (aZ G d):=by
 induction t using mm.casesOn
 case find=>
  refine ff h λx k eo h=>Hg h ra λc u ev hz=>?_;(symm;subst eo);refine bG hz ?_;exact hr.str_el λt e O O=>by refine af e (af ev ?_);exact Yr hf
 case lstrip=>
  refine ff h λx k eo h=>bj h λhb h=>jp h λea hz=>?_;(symm;subst eo ea);refine bG hz ?_;exact hr.str_el λt e hx ha=>by refine af e (af ra.nil_er ?_);exact Qx hf hx ha hb
 case rstrip=>
  refine ff h λx k eo h=>bj h λhb h=>jp h λea hz=>?_;(symm;subst eo ea);refine bG hz ?_;exact hr.str_el λt e hx ha=>by refine af e (af ra.nil_er ?_);exact Yz hf hx ha hb
 case startswith=>
  refine ff h λx k eo h=>Hg h ra λc u ev hz=>?_;(symm;subst eo);refine bG hz ?_;exact hr.str_el λt e O O=>by refine af e (af ev ?_);exact R6 hf
 case split=>
  refine ff h λx k eo h=>bj h λhb h=>Hg h ra λc u ev hz=>?_;(symm;subst eo);refine bG hz ?_;exact hr.str_el λt e hx ha=>by refine af e (af ev ?_);exact XM hf hx ha hb
 case join=>
  refine ff h λx k eo h=>fy h λa ea h=>iI h λl el h=>aX h λp hp hz=>?_;(symm;subst eo ea el);exact hr.str_el λt e hx ha=>ra.one λw ew rw'=>rw'.list_el λb ws j eb hF rr=>by refine af e (af ew (af eb ?_));exact Ss hf hx ha (hf.sat _ _ hF) rr hp hz
 case items=>
  refine rG h λks l eo h=>jp h λea hz=>?_;(symm;subst eo ea);refine bG hz ?_;refine af ra.nil_er ?_;exact Yc hf hr
 case values=>
  refine rG h λks l eo h=>jp h λea hz=>?_;(symm;subst eo ea);refine bG hz ?_;refine af ra.nil_er ?_;exact Tk hf hr
 case search=>
  refine vf h λp eo h=>fy h λa ea h=>ff h λx k ex h=>bj h λhb h=>aX h λq hq hz=>?_;(symm;subst eo ea ex);refine bG hz ?_;refine af (show v=G.val (.pat p)from hr) ?_;exact ra.one λw ew rw'=>rw'.str_el λt e hx ha=>by refine af ew (af e ?_);exact PM.search A F s p x t k q hf hx (gy hb) ha hq
 case subn=>
  refine vf h λp eo h=>oV h λa b ea h=>ff h λy ky ey h=>jp h λey' h=>ff h λx k ex h=>bj h λhb hz=>?_;(symm;subst eo ea ey ex ey');induction p using fM.casesOn<;>first|exact aW hz|skip
  refine af (show v=G.val (.pat .junk)from hr) ?_;refine ra.two λw1 w2 ew r1 r2=>r1.str_el λt1 e1 O O=>r2.str_el λt2 e2 hx ha=>?_;refine af ew (af e1 (af e2 ?_));cases hj:bE sw x with
  |zero=>rw [hj]at hz;exact aW hz
  |succ j=>
   rw [hj]at hz;refine bG hz ?_;exact PM.subn A F s x t2 t1 k j hh hf hx (gy hb) ha hj
 case fullmatch=>
  refine vf h λp eo h=>fy h λa ea h=>ff h λx k ex h=>bj h λhb hz=>?_;(symm;subst eo ea ex);induction p using fM.casesOn<;>first|exact aW hz|skip
  refine bG hz ?_;refine af (show v=G.val (.pat .jtok)from hr) ?_;exact ra.one λw ew rw'=>rw'.str_el λt e hx ha=>by refine af ew (af e ?_);exact PM.full A F s x t k hf hx (gy hb) ha
 case group=>
  refine wl h λx k sp eo h=>fy h λa ea h=>jw h λi j ei h=>qK h λm em h=>bj h λhm h=>bj h λhb h=>aX h λp hp h=>aX h λq hq hz=>?_;(symm;subst eo ea ei em);refine bG hz ?_;have em:m=1:=f0 hm;subst em;exact ra.one λw ew rw'=>rw'.int_el λt e O=>by refine af ew (af e ?_);exact P3 hf hr hp hq (gy hb)
 case span=>
  refine wl h λx k sp eo h=>fy h λa ea h=>jw h λi j ei h=>qK h λm em h=>bj h λhm h=>aX h λp hp h=>aX h λq hq hz=>?_;(symm;subst eo ea ei em);refine bG hz ?_;have em:m=0:=f0 hm;subst em;exact ra.one λw ew rw'=>rw'.int_el λt e O=>by refine af ew (af e ?_);exact RU hf hr hp hq
def zy(G:cg)(E:bQ)(n:Nat):Prop:=∀(c:bU)(σ:aA)(F:bn)(s:aC)(pos:eF)(lam d8:aK)(p:fM)(q x:T)(k:Nat)(r:ak×aA)(d:ak),bX n c.A->aO G c σ F s->gh [lam,d8]=ag->G.cx.lam lam=ac q->E.ev c.sc σ d8=ac r->r.1=.str x k->Nc p q x k=ac d->
 aG (aQ G.prog G.w) c.A (Di pos (.builtin "re.Pattern.sub") [G.val (.pat p)] (qo pos (lY [lam,d8] c.env)) []) (be (aO G c r.2) F (aZ G d)) aU s
theorem Kn{α:Type}{f:T->Option α}{r:α}{P:Prop}(h:EZ e f=ac r)(k:∀s j pos,e=.Constant (.str s) j pos->f s.cps.toList=ac r->P):P:=by
 induction e using fw<;>first|exact aW h|skip
 rename_i co j pos;induction co using Da<;>first|exact aW h|skip
 exact k _ _ _ rfl h
theorem yN{s:aC}{name:aL}{ov:aF}{T:String}{id:String}{A:cH}{pl:gw Bool}{Q:aF×List aF->aC->Prop}{Er:aF->aC->Prop}{M:lq}(m:Ae T/\kD T name id/\sj (.builtin id)=pure (.type "method_descriptor"))(hv:s.TypeIs ov T/\xw s ov)(h:Q (.builtin id,[ov]) s):aG M A (HG ov name pl) Q Er s:=
 getMethod_builtin hv.1 m.1 m.2.1 m.2.2 hv.2 h
theorem yH{s:aC}{id:String}{pos:eF}{es:List aK}{env:gX}{M:lq}{A:cH}{Q:aF->aC->Prop}{Er:aF->aC->Prop}{first:List aF}(hn:gh es=ag)(h:aG M A (spliced (qo pos (lY es env))) (λvs s1=>aG M A (call (.builtin id) (first++vs)) Q Er s1) Er s):aG M A (Di pos (.builtin id) first (qo pos (lY es env)) []) Q Er s:=
 aaC (CV pos env es hn).1 (AG (CV pos env es hn).2 h)
theorem wj(l:T):uk l=ag->b8 l:=by
 induction l with
 |nil=>exact λO O h=>nomatch h
 |cons c r ih=>
  intro hh;change@aN (λO=>Bool) am (uk r) (eK c 128)=ag at hh;cases q:eK c 128 with
  |false=>rw [q]at hh;exact bR hh
  |true=>
   rw [q]at hh;exact λe he=>(cI.mp he).elim (λe'=>by refine af e' ?_;exact blt q) (ih hh e)
theorem XN{G:cg}{E:bQ}{n:Nat}{c:bU}{F:bn}{σ:aA}{s:aC}{r:ak×aA}{e:aK}{m:aL}{apos pos:eF}{args:List aK}(K:tW G)(I:rF G)(PM:td G)(SO:zy G E n)(H:dp G E n)(R:bX n c.A)(S:aO G c σ F s)(hn:gh args=ag)(hl:bB args.length 9=ag)(h:(aS (xg e) (aS (bt apos.endLine pos.line) (ob (E.ev c.sc σ e) λp=>bA (ro G.cx E c.sc p.2 p.1 m args) (bA (ob (tI p.1 m args) λd=>ac (d,p.2)) (ob (dQ E c.sc args p.2) λq=>ob (fk G.cx E p.1 m q.1) λd=>ac (d,q.2))))))=ac r):
  aG (aQ G.prog G.w) c.A (eval (.Call (.Attribute e m apos) args [] pos) c.env) (be (aO G c r.2) F (aZ G r.1)) aU s:=by
 refine bj h λhb h=>bj h λhline h=>aX h λp hp h=>D8 hb hn hl (EN hline) (be.seq (H.ev c σ F s e p R S hp) λv F1 s1 lL S1 r1=>?_);refine dG h (λh=>vf h λpt ep h=>bj h λhm h=>oV h λlam d8 ea h=>aX h λq hq h=>aX h λr2 hr2 h=>ff h λx k ex h=>aX h λd hd hz=>?_) λh=>dG h (λh=>aX h λd hd hz=>?_) λh=>aX h λq hq h=>aX h λd hd hz=>?_
 ·have em:=jq.mp hm
  (symm;subst em ea);refine mq LQ λp0 O O O p4=>?_;have hv:=CL PM S1.ok r1 ep;have ev:v=G.val (.pat pt):=by rw [ep]at r1;exact r1
  (symm;subst ev);exact λpl=>yN ⟨p0,p4⟩ hv (be.weakW lL (rf (J:=aO G c) hz (SO c p.2 F1 s1 pos lam d8 pt q x k r2 d R S1 hn hq hr2 ex hd)))
 ·refine bj hd λhm h=>ff h λx k ex h=>oV h λa b ea h=>Kn h λy j1 p1 ey h=>Kn h λz j2 p2 ez h=>fy h λcc ec h=>bj h λh1 h=>bj h λh2 h=>bj h λh3 h=>bj h λh4 hx=>?_
  have em:=jq.mp hm;(symm;subst em ea ey ez);have hv:=LU (s:=s1) r1 ex;rw [ex]at r1;cases hx;have e1:y=toS [cc]:=by rw [<-ec,t7]
  have e2:z=toS z.cps.toList:=(t7 z).symm;refine r1.str_el λt et hxl hxa pl=>yN ⟨vN,PySem.F.slot_str_replace,PySem.F.type_str_replace⟩ hv (be.weakW lL (rf (J:=aO G c) hz (yH hn ?_)));refine(?_:aG _ _ (spliced [(am,eval (.Constant (.str y) j1 p1) c.env),(am,eval (.Constant (.str z) j2 p2) c.env)]) _ _ _);refine xG (Dm (xG (Dm (Dj ?_))));have S2:aO G c p.2 F1 {s1 with toks:=s1.toks+1+1}:=S1.ext (iD.tk s1 (mS _ 2));refine(?_:aG _ _ (call (.builtin "str.replace") [v,.str y s1.toks,.str z (s1.toks+1)]) _ _ _);refine af et (af e1 (af e2 ?_));have tk:=S1.ok.tk;exact S2.yd (UZ S2.ok (sf tk) (Nat.succ_ne_zero _) (iP (mP _)) hxl hxa h3 (by simpa using h2) h4 (wj _ h1))
 ·refine dG hd (λh=>aX h λt ht hmt=>?_) λh=>FC h λks dd ei h=>bj h λaB h=>aX h λf hf hc=>?_
  ·have em:=Sv ht
   (symm;subst em);exact λpl=>yN (PT t) (Sd PM S1.ok r1 hmt) (yH hn (be.seq (wn H R pos args p.2 F1 s1 q S1 hn hq) λvs F2 s2 b6 S2 r2=>be.weakW (lL.trans b6) (rf (J:=aO G c) hz (S2.yd (Wu R.hh PM S2.ok (aH.mono b6 r1) r2 hmt)))))
  ·have r1':=r1
   rw [ei]at r1;refine d4 r1 λb dx ob ws q0'=>gY q0' λz0 ho h2 ne z4 rr=>?_;clear r1 q0';subst z0;refine bV z4 λes j q1'=>ay q1' λz0 ep=>?_;clear z4 q1';subst z0;refine λpl=>K.meth c.A s1 b dx es j m f S1.std (S1.ok.sat _ _ ho) (S1.ok.sat _ _ h2) hf ((ep.get rr).2.1 (by simpa using aB)) pl _ ?_;exact H8 K (λp e=>nomatch e) hn (be.seq (wn H R pos args p.2 F1 s1 q S1 hn hq) λvs F2 s2 b6 S2 r2=>⟨S2.std,be.weakW (lL.trans b6) (rf (J:=aO G c) hz (JS H R S2 (.cons (aH.mono b6 r1') r2) hc))⟩)
structure M1(G:cg)(E:bQ)(n:Nat):Prop where
 U:uZ G E n
 I:rF G
 K:tW G
 NW:Ed G E n
 PM:td G
 SO:zy G E n
theorem O6{c:bU}(Z:M1 G E n)(H:dp G E n)(R1:bX (n+1) c.A)(S:aO G c σ F s)(h:Nv G.cx E c.sc σ e=ac r):aG (aQ G.prog G.w) c.A (eval e c.env) (be (aO G c r.2) F (aZ G r.1)) aU s:=by
 have R:=R1.down;induction e using fw<;>first|exact aW h|skip
 ·exact U5 H R S h
 ·rename_i op a pos
  cases op<;>first|exact aW h|skip
  exact TD H R S h
 ·exact UM H R S h
 ·exact cn (LW Z.U.go H R S h) (λv s' q=>q.data) λO O z=>z
 ·rename_i elt gs scope pos;exact Ly (e:=.ListComp elt gs scope pos) H Z.U R S h
 ·rename_i key elt gs scope pos;exact Ly (e:=.DictComp key elt gs scope pos) H Z.U R S h
 ·rename_i a ops bs pos
  exact fy h λop eo h=>fy h λb eb h=>aX h λp hp hz=>by(symm;subst eo eb);refine bG hz ?_;exact Xz H R S hp
 ·rename_i f args kws pos
  refine jp h λek h=>bj h λhn h=>bj h λhl hz=>?_;(symm;subst ek);induction f using fw<;>first|exact aW hz|skip
  ·exact XN Z.K Z.I Z.PM Z.SO H R S hn hl hz
  ·exact ZI Z.K Z.NW H R1 S hn hz
 ·rename_i e cv o pos
  refine bj h λhc hz=>?_;have hc:cv=115:=of_decide_eq_true hc;(symm;subst hc);induction o using kC<;>first|exact aW hz|skip
  exact W9 H R S hz
 ·exact bj h λhl h=>R9 H R S hl h
 ·exact aX h λd hd hz=>by refine bG hz ?_;exact WE S hd
 ·exact WC Z.U.go Z.I Z.K H R S h
 ·exact SW H R S h
 ·exact Y6 Z.U.go.glob S h
 ·exact bj h λhn h=>bj h λhl h=>aX h λp hp hz=>by refine bG hz ?_;exact X5 H R S hn hl hp
 ·exact bj h λhn h=>bj h λhl h=>aX h λp hp hz=>by refine bG hz ?_;exact UW H R S hn hl hp
structure sF(G:cg)(k:Nat)(f:t8)(a:bw)(fd:xH):Prop where
 val:G.val (.fn k)=.ref a
 here:∃o,G.F0 a=ac o/\o.data=.func fd
 body:fd.body=.stmts f.body
 names:fd.scope.names=f.names
 clo:fd.closure=[]
 glob:fd.globals=j9
 bui:fd.builtins=qn
 co:fd.scope.isCoroutine=am
 gen:fd.scope.isGenerator=am
 kind:fd.scope.kind=.function
 bind:∀vals:List aF,vals.length=f.params.length->HN fd ⟨vals,[]⟩=pure (f.params.zip vals)
 code:∀h,je G h->h.CodeRec fd.code fd.qualname
 once:pM f.names=ag
 plain:wi f.names=ag
 nofree:∀x,ba x f.names≠ac .free
 pars:∀x∈f.params,ba x f.names=ac .local\/ba x f.names=ac .cell
 nodup:f.params.Nodup
 tab:∃p∈G.tabs,fd.code=.ref p.c/\fd.qualname++".<locals>."=p.q
structure uv(G:cg):Prop where
 fn:∀k f,jk k G.cx.fns=ac f->∃a fd,sF G k f a fd
 lim:∀h,je G h->h.NoLimit
def bU.fn(A:cH)(fd:xH)(L a:bw)(names:List (aL×dh))(K:bn)(m:aL->Option aF)(fx:Option (aL×aF)):bU:={A:=A.deeper (dY fd L a),env:=dY fd L a,sc:=⟨names,qW names,@dL (aL×aF) (λO=>List aL) [] (λp=>[p.1]) fx⟩,K:=K,m:=m,fx:=fx}
noncomputable def ny(k:aL->Option dh)(bs:List (aL×aF))(x:aL):Option aF:=if k x=ac .local then vO k bs (λO=>ae) x else vP k bs (λO=>ae) x
theorem JJ(bs:List (aL×aF)):∀{m:aL->Option aF},x∉bs.map (·.1)->vO k bs m x=m x/\vP k bs m x=m x:=by
 induction bs with
 |nil=>exact λO=>⟨rfl,rfl⟩
 |cons p bs ih=>
  intro m h;have hx:x≠p.1:=λe=>h (by refine af e ?_;exact ck);have hr:=@ih (m:=if k p.1=ac .local then λy=>if y=p.1 then ac p.2 else m y else m) λq=>h (cW _ q);have hc:=@ih (m:=if k p.1=ac .local then m else λy=>if y=p.1 then ac p.2 else m y) λq=>h (cW _ q);refine⟨hr.1.trans ?_,hc.2.trans ?_⟩
  ·split
   ·exact if_neg hx
   ·rfl
  ·split
   ·rfl
   ·exact if_neg hx
theorem BV{k:aL->Option dh}(bs:List (aL×aF)):∀{m:aL->Option aF},(bs.map (·.1)).Nodup->(x,v)∈bs->(k x=ac .local->vO k bs m x=ac v)/\(k x≠ac .local->vP k bs m x=ac v):=by
 induction bs with
 |nil=>exact λO h=>nomatch h
 |cons p bs ih=>
  intro m hn h;refine ay (vH.mp hn) λh1 h2=>?_;rcases cI.mp h with e|e
  ·subst e
   exact⟨λhl=>(JJ bs h1).1.trans ((congrFun (if_pos hl) x).trans (if_pos rfl)),λhl=>(JJ bs h1).2.trans ((congrFun (if_neg hl) x).trans (if_pos rfl))⟩
  ·exact⟨(@ih _ h2 e).1,(@ih _ h2 e).2⟩
theorem bX.deep{n:Nat}(R:bX (n+1) A):bX n (A.deeper env):=
 ⟨R.hh,R.d (vu (by decide) _),R.u (vu (by decide) _)⟩
theorem H7{G:cg}{A:cH}{F:bn}{σ:aA}{s:aC}{k:Nat}{f:t8}{a:bw}{fd:xH}{s1:aC}{bs:List (aL×aF)}{ad:List bw}{fx:Option (aL×aF)}(fa:sF G k f a fd)(hf:bD G F s)(ht:s.toks<=s1.toks)(x:HO s (dY fd s.heap.objs.size a).locals (vO (dY fd s.heap.objs.size a).kindOf bs λO=>ae) (dY fd s.heap.objs.size a).cells (vP (dY fd s.heap.objs.size a).kindOf bs λO=>ae) s1)(hn:∀y b,ba y σ=ac b->∃v,ny (dY fd s.heap.objs.size a).kindOf bs y=ac v/\uq G F (bU.fn A fd s.heap.objs.size a f.names (kY G F ad s.heap) (ny (dY fd s.heap.objs.size a).kindOf bs) fx) s1.heap v b)(ho:∀y z dy dz,ba y σ=ac (.ow dy)->ba z σ=ac (.ow dz)->y=z)(hfx:∀y v,fx=ac (y,v)->ny (dY fd s.heap.objs.size a).kindOf bs y=ac v):
  aO G (bU.fn A fd s.heap.objs.size a f.names (kY G F ad s.heap) (ny (dY fd s.heap.objs.size a).kindOf bs) fx) σ F s1:=by
 refine bV x.done λh1 tk q2'=>ay q2' λz0 aB=>?_;clear q2';subst z0;have hk':iD s {s with heap:=h1,toks:=tk}:=⟨aB,rfl,rfl,ht⟩;have kind:∀y,(dY fd s.heap.objs.size a).kindOf y=ba y f.names:=λy=>by rw [yK,<-fa.names];rfl
 have lf:=λy=>@As y f.names [] (s.heap.objs.size+1) fa.once;have cl:∀{y b},(dY fd s.heap.objs.size a).cells.lookup y=ac b->(qq (s.heap.objs.size+1) f.names []).lookup y=ac b:=λ{y b} e=>by refine af fa.names.symm ?_;exact e
 have cl':∀{y b},(qq (s.heap.objs.size+1) f.names []).lookup y=ac b->(dY fd s.heap.objs.size a).cells.lookup y=ac b:=λ{y b} e=>by rw [<-fa.names]at e;exact e
 have isC:∀{y b},(dY fd s.heap.objs.size a).cells.lookup y=ac b->ba y f.names=ac .cell:=λ{y b} e=>by
  by_cases q:ba y f.names=ac .cell
  ·exact q
  ·have:=cl e
   rw [(lf y).2 q]at this;exact aW this
 have new:∀{b:bw},s.heap.objs.size<=b->s.heap.get? b=ae:=λ{b} h=>Af h;have L0:s.heap.get? (dY fd s.heap.objs.size a).locals=ae:=new (bZ _);have apart:∀b o,F b=ac o->kY G F ad s.heap b=ae:=λb o e=>rI λo' O q O O=>nomatch e.symm.trans q;refine⟨⟨fa.kind,fa.names,fa.glob,fa.bui,λy q e hq=>?_,λy z b hy hz=>name_of_addr x.apart (mem_of_lookup hy) (mem_of_lookup hz),λy b e hl=>(nomatch (isC e).symm.trans hl),λy q e=>GS _ fa.plain e⟩,hf.keeps hk',λb o e=>aB b o (xv e).1,apart,λp hp=>rI λO O O q O=>q p hp rfl,⟨_,x.toInCall.ns,λy hy=>?_⟩,⟨hf.fresh L0,rI λo e O O O=>(nomatch L0.symm.trans e),hf.notab L0⟩,λy b e=>?_,hn,λy z dy dz v u hy hz hyz O O=>absurd (ho y z dy dz hy hz) hyz,λy v e=>⟨?_,hfx y v e⟩,fa.tab⟩
 ·rcases hq with rfl|rfl
  ·exact((lf y).1 e).imp λb p=>cl' p.1
  ·exact absurd e (fa.nofree y)
 ·have:=kind y
  refine(?_:_=ny _ _ y);unfold ny;exact af (if_pos (this.trans hy)) rfl
 ·have hb:s.heap.get? b=ae:=new (lW (x.above y b (mem_of_lookup e)))
  refine⟨?_,hf.fresh hb,hf.notab hb,λO=>rI λo e O O O=>(nomatch hb.symm.trans e)⟩;have hm:ny (dY fd s.heap.objs.size a).kindOf bs y=vP (dY fd s.heap.objs.size a).kindOf bs (λO=>ae) y:=if_neg λq=>by rw [kind y,isC e]at q;cases q
  refine(?_:Heap.IsCell _ b (ny (dY fd s.heap.objs.size a).kindOf bs y));refine af hm ?_;exact x.cell y b e
 ·have e:fx=ac (y,v):=e
  (symm;subst e);exact(yW [y]).mpr ck
theorem ND{G:cg}{F F':bn}{σ:aA}{s s':aC}{ci:bU}{ad:List bw}{h0:cY}(hf:bD G F s)(le:cJ F F')(hK:ci.K=kY G F ad h0)(aB:∀b o,s.heap.get? b=ac o->h0.get? b=ac o)(had:∀b∈ad,s.heap.get? b=ae)(S:aO G ci σ F' s'):Pass G F s F' s':=by
 refine⟨le,S.ok,λb o e nt=>?_,λb o e=>?_⟩
 ·cases hq:F b with
  |some o'=>
   have:=hf.sat b o' hq;rw [e]at this;cases this;exact S.ok.sat b o (le b o hq)
  |none=>exact S.kept b o (by refine af hK ?_;exact ET (aB b o e) ⟨hq,nt,λq=>nomatch (had b q).symm.trans e⟩)
 ·cases hq:s.heap.get? b with
  |none=>exact .inr rfl
  |some o'=>
   cases hF:F b with
   |some o''=>have:=le b o'' hF;rw [e]at this;exact .inl this.symm
   |none=>
    by_cases nt:∀p∈G.tabs,p.P≠b
    ·have:=S.apart b o e
     rw [hK,ET (aB b o' hq) ⟨hF,nt,λq=>nomatch (had b q).symm.trans hq⟩]at this;exact mD this
    ·exact(nt λp hp q=>by have:=(S.ok.tabs p hp).1;rw [q,e]at this;cases this).elim
set_option backward.match.sparseCases true
theorem Sl{α β:Type}(xs:List α):∀{ys:List β},xs.length=ys.length->(xs.zip ys).map (·.1)=xs:=by
 induction xs with
 |nil=>intro ys _;rfl
 |cons x xs ih=>
  intro ys h;induction ys using dD with
  |nil=>cases h
  |cons y ys=>exact congrArg (x::·) (ih (xy h))
theorem Wv(xs:List aL):∀{ds:List ak} {vs:List aF} {σ:aA},params xs ds=ac σ->br G F vs ds->vs.length=xs.length/\∀y b,ba y σ=ac b->∃v d,b=.fz d/\(y,v)∈xs.zip vs/\aH G F v d:=by
 induction xs with
 |nil=>exact λh r=>jp h λe hz=>by subst e;refine bG hz ?_;refine af r.nil_er ?_;exact⟨rfl,λy b h=>aW h⟩
 |cons x xs ih=>
  intro ds vs σ h r;induction ds using dD with
  |nil=>exact aW h
  |cons d ds=>
   refine aX (o:=params xs ds) h λσ1 h1 hz=>r.cons_er λv ws ev rd rr=>?_;refine bG hz ?_;refine ay (ih h1 rr) λi1 i2=>?_;subst ev;refine⟨congrArg (· +1) i1,λy b hy=>?_⟩;rw [g9]at hy;by_cases e:y=x
   ·rw [if_pos e]at hy
    refine bG hy ?_;exact⟨v,d,rfl,by refine af e ?_;exact ck,rd⟩
   ·rw [if_neg e]at hy
    refine bV (i2 y b hy) λw d' q2'=>bu q2' λh1 h2 h3=>?_;clear q2';exact⟨w,d',h1,cW _ h2,h3⟩
theorem Hc{vs:List aF}{RR:vG->aC->Prop}(Z:uv G)(fa:sF G k f a fd)(R:bX n A)(hf:bD G F s)(hl:vs.length=f.params.length)(h:∀s1,s.toks<=s1.toks->HO s (dY fd s.heap.objs.size a).locals (vO (dY fd s.heap.objs.size a).kindOf (f.params.zip vs) λO=>ae) (dY fd s.heap.objs.size a).cells (vP (dY fd s.heap.objs.size a).kindOf (f.params.zip vs) λO=>ae) s1->
   aG (aQ G.prog G.w) (A.deeper (dY fd s.heap.objs.size a)) (execs f.body (dY fd s.heap.objs.size a)) (λfl s'=>RR (.ok (.ret (match fl with|.ret v=>v|_=>.none))) s') aU s1):
  lr (aQ G.prog G.w) A (.call (.ref a) ⟨vs,[]⟩) RR s:=by
 have std:je G s.heap:=λa o e=>hf.sat a o (hf.base a o e);refine aw fa.here λo q1'=>ay q1' λho hd=>?_;clear q1';have hkind:∀y∈f.params.zip vs,fd.scope.names.lookup y.1=ac .local\/(fd.scope.names.lookup y.1=ac .cell/\((qq (s.heap.objs.size+1) fd.scope.names []).lookup y.1).isSome=ag):=λy hy=>by
  rw [fa.names,<-yK];exact(fa.pars _ (List.of_mem_zip hy).1).imp id λe=>⟨e,by refine aw ((@As y.1 f.names [] (s.heap.objs.size+1) fa.once).1 e) λb q0'=>ay q0' λhb O=>?_;clear q0';rw [hb];rfl⟩
 refine codeAny_call_function (vy (mH (mS _ _) R.depth) (by refine af Du ?_;decide)) (std a o ho) hd fa.co fa.gen fa.body (fa.code _ std) ?_;refine af (fa.bind vs hl) (af fa.clo ?_);refine cq (cn (oC (E:=aU) (bZ s.toks) (wpAny_newFunctionEnv_cells (Q:=λenv s1=>env=dY fd s.heap.objs.size a/\HO s (dY fd s.heap.objs.size a).locals (vO (dY fd s.heap.objs.size a).kindOf (f.params.zip vs) λO=>ae) (dY fd s.heap.objs.size a).cells (vP (dY fd s.heap.objs.size a).kindOf (f.params.zip vs) λO=>ae) s1) fa.kind hkind λenv he s1 x=>by subst he;exact⟨rfl,x⟩)) (λenv s1 q=>?_) λO O z=>z.2.elim);refine bu q λht z1 x=>?_;clear q;subst z1;exact⟨(Z.lim _ std).keeps x.toInCall.keep,codeAny_func (nu (h s1 ht x))⟩
noncomputable def P7(fl:Flow):aF:=match fl with|.ret v=>v|_=>.none
theorem UF(p:rS G f F fl)(h:AD f=ac d):aH G F (P7 fl) d:=by
 induction f using cQ.casesOn with
 |next=>refine bG h ?_;refine af (show fl=.next from p) ?_;exact rfl
 |brk=>exact aW h
 |cont=>exact aW h
 |ret d'=>
  refine aw p λv q2'=>ay q2' λe hr=>?_;clear p q2';have e2:d'=d:=eJ h;subst e2 e;exact hr
theorem VN(Z:uv G)(aB:jk k G.cx.fns=ac f)(H:dp G E n)(R:bX (n+1) A)(hf:bD G F s)(r:br G F vs ds)(h:(ob (params f.params ds) λσ=>ob (b9 E ⟨f.names,qW f.names,[]⟩ f.body σ) λp=>AD p.1)=ac d):
  lr (aQ G.prog G.w) A (.call (G.val (.fn k)) ⟨vs,[]⟩) (λr s'=>∃v,r=.ok (.ret v)/\be (Pass G F s) F (aZ G d) v s') s:=by
 refine bV (Z.fn k f aB) λa fd fa=>?_;refine aX h λσ hσ h=>aX h λp hp hr=>?_;refine ay (Wv f.params hσ r) λhl hn=>?_;refine af fa.val ?_;refine Hc Z fa R hf hl λs1 ht x=>?_;have nd:((f.params.zip vs).map (·.1)).Nodup:=by refine af (Sl _ hl.symm) ?_;exact fa.nodup
 have S:=@H7 _ A _ σ _ _ _ _ _ _ _ [] ae fa hf ht x (λy b e=>by
  refine bV (hn y b e) λv d q1'=>bu q1' λz0 hm rd=>?_;clear q1';subst z0;refine⟨v,?_,rd⟩;unfold ny;split
  ·exact(BV _ nd hm).1 ‹_›
  ·exact(BV _ nd hm).2 ‹_›) (λy z dy dz hy O=>by
  refine bV (hn y _ hy) λv d q0'=>ay q0' λe O=>?_;clear q0';cases e) (λO O h=>nomatch h)
 exact be.seq (we (c:=bU.fn A fd s.heap.objs.size a f.names (kY G F [] s.heap) (ny (dY fd s.heap.objs.size a).kindOf (f.params.zip vs)) ae) H R.deep f.body _ σ F s1 p S hp) λfl F1 s2 aY S1 pf=>⟨_,rfl,F1,aY,S1.elim λm S1=>ND (ad:=[]) (h0:=s.heap) hf aY rfl (λO O e=>e) (λO h=>nomatch h) S1,UF pf hr⟩
set_option backward.match.sparseCases false
structure AK(G:cg):Prop where
 val:G.val .cls=.ref G.wh
 makes:∀h,je G h->Makes (aQ G.prog G.w) h G.wh
 init:∃fI,G.val (.fn G.cx.init)=.ref fI/\∀h,je G h->Looks (aQ G.prog G.w) h (xz (.ref G.wh) "__init__") (ac (.ref fI))/\∀self,Looks (aQ G.prog G.w) h (bindSpecial (.ref fI) self) (.ref fI,[self])
theorem bX.made{n:Nat}(R:bX (n+1) A):(A.under (.builtin "type.__call__" ⟨.ref C::rest,[]⟩)).handled=ae/\(A.under (.builtin "type.__call__" ⟨.ref C::rest,[]⟩)).depth<=A.depth+2/\(A.under (.builtin "type.__call__" ⟨.ref C::rest,[]⟩)).units<=A.units+10:=
 ⟨R.hh,mK _,vu (ll rfl) _⟩
def A3(G:cg)(K:Nat):Prop:=∀(A:cH)(F:bn)(s:aC)(vs:List aF)(ds:List ak)(d:ak),bX K A->bD G F s->br G F vs ds->G.cx.nspec ds=ac d->aP G A (call (G.val .cls) vs) F s (aZ G d)
theorem Kc{G:cg}{E:bQ}{n:Nat}{K:Nat}(NS:A3 G K)(hK:K<=n+1)(CK:AK G)(Z:uv G)(H:dp G E n){A:cH}{F:bn}{s:aC}{vs:List aF}{ds:List ak}{d:ak}(R:bX (n+1) A)(hf:bD G F s)(r:br G F vs ds)(h:sX G.cx E ds=ac d):aP G A (call (G.val .cls) vs) F s (aZ G d):=by
 refine dG h (λh=>NS A F s vs ds d (R.mono hK) hf r h) λh=>?_;refine aX h λf aB h=>fy h λd1 e1 h=>oV h λme y e2 h=>aX h λp hp h=>bj h λhnx h=>aX h λb hb hz=>?_;(symm;subst e1);refine bV (Z.fn _ f aB) λa fd fa=>?_;refine aw CK.init λfI q2'=>ay q2' λhI hL=>?_;clear q2';have ea:fI=a:=by have:=hI.symm.trans fa.val;cases this;rfl
 subst ea;have nd:=fa.nodup;rw [e2]at nd;have hne:¬y=me:=λe=>by rw [e]at nd;exact(vH.mp nd).1 ck
 rw [CK.val];refine r.one λw ew rw'=>?_;subst ew;refine bu (R.made (C:=G.wh) (rest:=[w])) λR1 R2 R3=>?_;have RB:bX n (A.under (.builtin "type.__call__" ⟨[.ref G.wh,w],[]⟩)):=⟨R1,R.d (tO R2),R.u (bM R3 (vu (by decide) _))⟩;obtain⟨hh,g,dr,tk,os⟩:=s;have std:je G hh:=λa o e=>hf.sat a o (hf.base a o e);have k1:∀b o,hh.get? b=ac o->((hh.push jH).push (kG G.wh hh.objs.size)).get? b=ac o:=λb o e=>eN _ (eN _ e);have hf2:bD G F ⟨(hh.push jH).push (kG G.wh hh.objs.size),g,dr,tk,os⟩:=hf.keeps (s':=⟨(hh.push jH).push (kG G.wh hh.objs.size),g,dr,tk,os⟩) ⟨k1,rfl,rfl,bZ _⟩;have hsz:((hh.push jH).push (kG G.wh hh.objs.size)).objs.size=hh.objs.size+2:=by rw [nM,nM]
 have hx:((hh.push jH).push (kG G.wh hh.objs.size)).get? (hh.objs.size+1)=ac (jr G hh.objs.size):=by
  have:=fZ (hh.push jH) (o:=jr G hh.objs.size) rfl;rw [nM]at this;exact this
 have hdx:((hh.push jH).push (kG G.wh hh.objs.size)).get? hh.objs.size=ac jH:=eN _ (fZ _ rfl);have new:∀b:bw,hh.objs.size<=b->hh.get? b=ae:=λb h=>Af h;refine Ac (make_core (CK.makes _ std) (hL _ std).1 (hL _ std).2 (.inl rfl) ?_);have vm:bX n ((A.under (.builtin "type.__call__" ⟨[.ref G.wh,w],[]⟩)).deeper (dY fd ((hh.push jH).push (kG G.wh hh.objs.size)).objs.size fI)):=⟨R1,R.d (sg R2),R.u (bM (C3 R3 3) (vu (by decide:13<=40) A.units))⟩;refine Hc (vs:=[.ref (hh.objs.size+1),w]) Z fa RB hf2 (by rw [e2];rfl) λs1 ht x=>?_;have x:HO ⟨(hh.push jH).push (kG G.wh hh.objs.size),g,dr,tk,os⟩ (dY fd ((hh.push jH).push (kG G.wh hh.objs.size)).objs.size fI).locals (vO (dY fd ((hh.push jH).push (kG G.wh hh.objs.size)).objs.size fI).kindOf [(me,.ref (hh.objs.size+1)),(y,w)] λO=>ae) (dY fd ((hh.push jH).push (kG G.wh hh.objs.size)).objs.size fI).cells (vP (dY fd ((hh.push jH).push (kG G.wh hh.objs.size)).objs.size fI).kindOf [(me,.ref (hh.objs.size+1)),(y,w)] λO=>ae) s1:=by rw [e2]at x;exact x
 have bi:∀z u,(z,u)∈[(me,j7 (hh.objs.size+1)),(y,w)]->ny (dY fd ((hh.push jH).push (kG G.wh hh.objs.size)).objs.size fI).kindOf [(me,.ref (hh.objs.size+1)),(y,w)] z=ac u:=λz u hm=>by
  unfold ny;split
  ·exact(BV [(me,j7 (hh.objs.size+1)),(y,w)] nd hm).1 ‹_›
  ·exact(BV [(me,j7 (hh.objs.size+1)),(y,w)] nd hm).2 ‹_›
 have hx1:=x.toInCall.keep _ _ hx;have ad:dZ s1.heap (.ref (hh.objs.size+1))=[hh.objs.size+1,hh.objs.size]:=sJ hx1;have hS:=H7 (A:=A.under (.builtin "type.__call__" ⟨[.ref G.wh,w],[]⟩)) (σ:=[(me,.ow (.inst [] [])),(y,.fz d1)]) (ad:=[hh.objs.size+1,hh.objs.size]) (fx:=ac (me,.ref (hh.objs.size+1))) fa hf2 ht x (λz b e=>by
  rw [g9]at e;by_cases q:z=me
  ·rw [if_pos q]at e
   cases e;refine⟨_,bi z _ (by rw [q];exact ck),.inst hx1 (x.toInCall.keep _ _ hdx) (iP (mP _)) ⟨[],0,rfl,.nil⟩ .nil,λa ha=>?_⟩;rw [ad]at ha;have hge:hh.objs.size<=a/\a<hh.objs.size+2:=by
    rcases cI.mp ha with e|e
    ·rw [e];exact⟨mK _,mP _⟩
    ·rw [dm.mp e];exact⟨bZ _,zX (mP _)⟩
   exact⟨⟨hf.fresh (new a hge.1),rI λO O O O nn=>nn ha,hf.notab (new a hge.1)⟩,λe=>by
    have e:a=((hh.push jH).push (kG G.wh hh.objs.size)).objs.size:=e;rw [hsz]at e;rw [e]at hge;exact vt _ hge.2⟩
  ·rw [if_neg q,g9]at e
   by_cases q2:z=y
   ·rw [if_pos q2]at e
    cases e;exact⟨w,bi z w (by rw [q2];exact cW _ ck),rw'⟩
   ·rw [if_neg q2]at e;exact aW e) (λy1 y2 dy dz h1 h2=>by
  have only:∀y1 dy,ba y1 [(me,bk.ow (.inst [] [])),(y,.fz d1)]=ac (.ow dy)->y1=me:=λy1 dy h=>by
   rw [g9]at h;by_cases q:y1=me
   ·exact q
   ·rw [if_neg q,g9]at h
    by_cases q2:y1=y
    ·rw [if_pos q2]at h;cases h
    ·rw [if_neg q2]at h;exact aW h
  rw [only y1 dy h1,only y2 dz h2]) (λz u e=>by cases e;exact bi _ _ ck)
 refine be.seq (we (c:=bU.fn (A.under (.builtin "type.__call__" ⟨[.ref G.wh,w],[]⟩)) fd ((hh.push jH).push (kG G.wh hh.objs.size)).objs.size fI f.names (kY G F [hh.objs.size+1,hh.objs.size] ((hh.push jH).push (kG G.wh hh.objs.size))) (ny (dY fd ((hh.push jH).push (kG G.wh hh.objs.size)).objs.size fI).kindOf [(me,.ref (hh.objs.size+1)),(y,w)]) (ac (me,.ref (hh.objs.size+1)))) H vm f.body _ _ F s1 p hS hp) λfl F1 s3 aY S1 pf=>?_;have hfl:fl=.next:=by
  cases hp1:p.1 with
  |next=>rw [hp1]at pf;exact pf
  |_=>rw [hp1]at hnx;exact bR hnx
 (symm;subst hfl);refine aw S1 ?_;clear S1;intro m S1;refine aw (S1.frz1 me) λF2 q1'=>ay q1' λb6 S2=>?_;clear q1';have hbd:b=.ow d:=by
  cases b with
  |fz _=>exact aW hz
  |ow d'=>cases hz;rfl
 have lk:ba me (frz1 me p.2)=ac (.fz d):=by rw [uC,if_pos rfl,hb,hbd];rfl
 refine aw (S2.names me _ lk) λv2 q0'=>ay q0' λhv2 rd=>?_;clear q0';have ev:v2=.ref (hh.objs.size+1):=eJ (hv2.symm.trans (S2.fix me _ rfl).2);subst ev;have P:=ND (s:=⟨hh,g,dr,tk,os⟩) (h0:=(hh.push jH).push (kG G.wh hh.objs.size)) (ad:=[hh.objs.size+1,hh.objs.size]) hf (aY.trans b6) rfl k1 (λb hb=>new b (by
  rcases cI.mp hb with e|e
  ·rw [e];exact mK _
  ·rw [dm.mp e];exact bZ _)) S2
 exact⟨rfl,F2,aY.trans b6,P,rd⟩
theorem Py{G:cg}{E:bQ}{n:Nat}{K:Nat}(NS:A3 G K)(hK:K<=n+1)(CK:AK G)(Z:uv G)(H:dp G E n):Ed G E n:=
 λc σ F s vs ds d R S r h=>S.yd (Kc NS hK CK Z H R S.ok r h)
set_option backward.match.sparseCases true
structure pR(G:cg)(K:Nat):Prop where
 go:rj G
 ins:rF G
 call:tW G
 fns:uv G
 cls:AK G
 pat:td G
 sub:∀(E:bQ)(n:Nat),dp G E n->zy G E n
 spec:∀(A:cH)(F:bn)(s:aC)(k:Nat)(vs:List aF)(ds:List ak)(d:ak),bX K A->bD G F s->br G F vs ds->G.cx.spec k ds=ac d->lr (aQ G.prog G.w) A (.call (G.val (.fn k)) ⟨vs,[]⟩) (λr s'=>∃v,r=.ok (.ret v)/\be (Pass G F s) F (aZ G d) v s') s
 nspec:A3 G K
theorem XB{G:cg}{E:bQ}{n K:Nat}(Z:pR G K)(hK:K<=n+1)(H:dp G E n):dp G (step G.cx E) (n+1):=
 have hI:v3 G n:=Pe;have U:uZ G E n:=⟨Z.go,hI,Vf Z.go H⟩;have SE:M1 G E n:=⟨U,Z.ins,Z.call,Py Z.nspec hK Z.cls Z.fns H,Z.pat,Z.sub E n H⟩
 ⟨λc σ F s e r R S h=>O6 SE H R S h,λc σ F s e r R S h=>W1 H R.down S h,λc σ F s st r R S h=>Vm U Z.ins hI H st R.down S h,
  λA F s k vs ds d R hf r h=>dG h (λh=>Z.spec A F s k vs ds d (R.mono hK) hf r h) λh=>aX h λf aB h=>VN Z.fns aB H R hf r h⟩
theorem Cy{G:cg}{K:Nat}(Z:pR G K):∀n,dp G (run G.cx n) (n+K)
 |0=>⟨λO O O O O O O O h=>aW h,λO O O O O O O O h=>aW h,λO O O O O O O O h=>aW h,λO O O O O O O O O O h=>aW h⟩
 |n+1=>(Nat.succ_add n K)▸XB Z (tO (ik K n)) (Cy Z n)
set_option backward.match.sparseCases false
noncomputable abbrev fE:nH:=xI
noncomputable abbrev tm(x:String):aL:=fi x
noncomputable abbrev aE(x:String)(t:fh):aF:=.str (fi x) t
noncomputable abbrev ah(i:Int)(t:fh):aF:=.int i t
noncomputable abbrev au(a:bw):aF:=.ref a
noncomputable abbrev bN(x:String):aF:=.type x
noncomputable abbrev bS(x:String):aF:=.builtin x
noncomputable abbrev av:aF:=.none
noncomputable abbrev aq(p:aM)(x:String)(t:fh)(v:aF):qj:=⟨Dn p (fi x),.str (fi x) t,v⟩
noncomputable abbrev bq(x:String)(d:Data):aJ:=⟨.type x,ae,d,#[]⟩
def BC(x:aL):List bY->Option (xJ×List bY×iY)
 |[]=>ae
 |.FunctionDef n a b _ _ _ sc _ _ _::r=>aN (BC x r) (ac (a,b,sc)) (ZM x n)
 |_::r=>BC x r
noncomputable def Ky:List bY->List bY
 |[]=>[]
 |.ClassDef _ _ _ b _ _ _ _ _ _ _::_=>b
 |_::r=>Ky r
def pq(x:String):Option (xJ×List bY×iY):=(BC (fi x) fE.main.body).orElse λ_=>BC (fi x) (Ky fE.main.body)
def c9(n q:String)(g:bw)(clo:List (aL×bw))(df kd doc pm:aF)(kc:Option bw)(cd ct:aF)(b:bw):xH:=⟨tm n,tm q,((pq n).getD default).1,.stmts ((pq n).getD default).2.1,((pq n).getD default).2.2,g,clo,df,kd,doc,pm,kc,cd,ct,b⟩
def qd(x0:aM):aJ:=bq "dict" (kH #[aq x0 "__name__" 1 (aE "builtins" 160),aq x0 "__doc__" 2 (bS "builtins.__doc__:str#opaque"),aq x0 "__package__" 3 (bS "builtins.__package__:str#opaque"),aq x0 "__loader__" 4 (bS "builtins.__loader__:shared#opaque"),aq x0 "__spec__" 5 (bS "builtins.__spec__#opaque"),aq x0 "__build_class__" 6 (bS "__build_class__"),aq x0 "__import__" 7 (bS "__import__"),aq x0 "abs" 8 (bS "abs"),aq x0 "all" 9 (bS "all"),aq x0 "any" 10 (bS "any"),aq x0 "ascii" 11 (bS "ascii"),aq x0 "bin" 12 (bS "bin"),aq x0 "breakpoint" 13 (bS "breakpoint"),aq x0 "callable" 14 (bS "callable"),aq x0 "chr" 15 (bS "chr"),aq x0 "compile" 16 (bS "compile"),aq x0 "delattr" 17 (bS "delattr"),aq x0 "dir" 18 (bS "dir"),aq x0 "divmod" 19 (bS "divmod"),aq x0 "eval" 20 (bS "eval"),aq x0 "exec" 21 (bS "exec"),aq x0 "format" 22 (bS "format"),aq x0 "getattr" 23 (bS "getattr"),aq x0 "globals" 24 (bS "globals"),aq x0 "hasattr" 25 (bS "hasattr"),aq x0 "hash" 26 (bS "hash"),aq x0 "hex" 27 (bS "hex"),aq x0 "id" 28 (bS "id"),aq x0 "input" 29 (bS "input"),aq x0 "isinstance" 30 (bS "isinstance"),aq x0 "issubclass" 31 (bS "issubclass"),aq x0 "iter" 32 (bS "iter"),aq x0 "aiter" 33 (bS "aiter"),aq x0 "len" 34 (bS "len"),aq x0 "locals" 35 (bS "locals"),aq x0 "max" 36 (bS "max"),aq x0 "min" 37 (bS "min"),aq x0 "next" 38 (bS "next"),aq x0 "anext" 39 (bS "anext"),aq x0 "oct" 40 (bS "oct"),aq x0 "ord" 41 (bS "ord"),aq x0 "pow" 42 (bS "pow"),aq x0 "print" 43 (bS "print"),aq x0 "repr" 44 (bS "repr"),aq x0 "round" 45 (bS "round"),aq x0 "setattr" 46 (bS "setattr"),aq x0 "sorted" 47 (bS "sorted"),aq x0 "sum" 48 (bS "sum"),aq x0 "vars" 49 (bS "vars"),aq x0 "None" 50 av,aq x0 "Ellipsis" 51 Value.ellipsis,aq x0 "NotImplemented" 52 Value.notImplemented,aq x0 "False" 53 (d7 am),aq x0 "True" 54 (d7 ag),aq x0 "bool" 55 (bN "bool"),aq x0 "memoryview" 56 (bN "memoryview"),aq x0 "bytearray" 57 (bN "bytearray"),aq x0 "bytes" 58 (bN "bytes"),aq x0 "classmethod" 59 (bN "classmethod"),aq x0 "complex" 60 (bN "complex"),aq x0 "dict" 61 (bN "dict"),aq x0 "enumerate" 62 (bN "enumerate"),aq x0 "filter" 63 (bN "filter"),aq x0 "float" 64 (bN "float"),aq x0 "frozenset" 65 (bN "frozenset"),aq x0 "property" 66 (bN "property"),aq x0 "int" 67 (bN "int"),aq x0 "list" 68 (bN "list"),aq x0 "map" 69 (bN "map"),aq x0 "object" 70 (bN "object"),aq x0 "range" 71 (bN "range"),aq x0 "reversed" 72 (bN "reversed"),aq x0 "set" 73 (bN "set"),aq x0 "slice" 74 (bN "slice"),aq x0 "staticmethod" 75 (bN "staticmethod"),aq x0 "str" 76 (bN "str"),aq x0 "super" 77 (bN "super"),aq x0 "tuple" 78 (bN "tuple"),aq x0 "type" 79 (bN "type"),aq x0 "zip" 80 (bN "zip"),aq x0 "__debug__" 81 (d7 ag),aq x0 "BaseException" 82 (bN "BaseException"),aq x0 "BaseExceptionGroup" 83 (bN "BaseExceptionGroup"),aq x0 "Exception" 84 (bN "Exception"),aq x0 "GeneratorExit" 85 (bN "GeneratorExit"),aq x0 "KeyboardInterrupt" 86 (bN "KeyboardInterrupt"),aq x0 "SystemExit" 87 (bN "SystemExit"),aq x0 "ArithmeticError" 88 (bN "ArithmeticError"),aq x0 "AssertionError" 89 (bN "AssertionError"),aq x0 "AttributeError" 90 (bN "AttributeError"),aq x0 "BufferError" 91 (bN "BufferError"),aq x0 "EOFError" 92 (bN "EOFError"),aq x0 "ImportError" 93 (bN "ImportError"),aq x0 "LookupError" 94 (bN "LookupError"),aq x0 "MemoryError" 95 (bN "MemoryError"),aq x0 "NameError" 96 (bN "NameError"),aq x0 "OSError" 97 (bN "OSError"),aq x0 "ReferenceError" 98 (bN "ReferenceError"),aq x0 "RuntimeError" 99 (bN "RuntimeError"),aq x0 "StopAsyncIteration" 100 (bN "StopAsyncIteration"),aq x0 "StopIteration" 101 (bN "StopIteration"),aq x0 "SyntaxError" 102 (bN "SyntaxError"),aq x0 "SystemError" 103 (bN "SystemError"),aq x0 "TypeError" 104 (bN "TypeError"),aq x0 "ValueError" 105 (bN "ValueError"),aq x0 "Warning" 106 (bN "Warning"),aq x0 "FloatingPointError" 107 (bN "FloatingPointError"),aq x0 "OverflowError" 108 (bN "OverflowError"),aq x0 "ZeroDivisionError" 109 (bN "ZeroDivisionError"),aq x0 "BytesWarning" 110 (bN "BytesWarning"),aq x0 "DeprecationWarning" 111 (bN "DeprecationWarning"),aq x0 "EncodingWarning" 112 (bN "EncodingWarning"),aq x0 "FutureWarning" 113 (bN "FutureWarning"),aq x0 "ImportWarning" 114 (bN "ImportWarning"),aq x0 "PendingDeprecationWarning" 115 (bN "PendingDeprecationWarning"),aq x0 "ResourceWarning" 116 (bN "ResourceWarning"),aq x0 "RuntimeWarning" 117 (bN "RuntimeWarning"),aq x0 "SyntaxWarning" 118 (bN "SyntaxWarning"),aq x0 "UnicodeWarning" 119 (bN "UnicodeWarning"),aq x0 "UserWarning" 120 (bN "UserWarning"),aq x0 "BlockingIOError" 121 (bN "BlockingIOError"),aq x0 "ChildProcessError" 122 (bN "ChildProcessError"),aq x0 "ConnectionError" 123 (bN "ConnectionError"),aq x0 "FileExistsError" 124 (bN "FileExistsError"),aq x0 "FileNotFoundError" 125 (bN "FileNotFoundError"),aq x0 "InterruptedError" 126 (bN "InterruptedError"),aq x0 "IsADirectoryError" 127 (bN "IsADirectoryError"),aq x0 "NotADirectoryError" 128 (bN "NotADirectoryError"),aq x0 "PermissionError" 129 (bN "PermissionError"),aq x0 "ProcessLookupError" 130 (bN "ProcessLookupError"),aq x0 "TimeoutError" 131 (bN "TimeoutError"),aq x0 "IndentationError" 132 (bN "IndentationError"),aq x0 "_IncompleteInputError" 133 (bN "_IncompleteInputError"),aq x0 "IndexError" 134 (bN "IndexError"),aq x0 "KeyError" 135 (bN "KeyError"),aq x0 "ModuleNotFoundError" 136 (bN "ModuleNotFoundError"),aq x0 "NotImplementedError" 137 (bN "NotImplementedError"),aq x0 "PythonFinalizationError" 138 (bN "PythonFinalizationError"),aq x0 "RecursionError" 139 (bN "RecursionError"),aq x0 "UnboundLocalError" 140 (bN "UnboundLocalError"),aq x0 "UnicodeError" 141 (bN "UnicodeError"),aq x0 "BrokenPipeError" 142 (bN "BrokenPipeError"),aq x0 "ConnectionAbortedError" 143 (bN "ConnectionAbortedError"),aq x0 "ConnectionRefusedError" 144 (bN "ConnectionRefusedError"),aq x0 "ConnectionResetError" 145 (bN "ConnectionResetError"),aq x0 "TabError" 146 (bN "TabError"),aq x0 "UnicodeDecodeError" 147 (bN "UnicodeDecodeError"),aq x0 "UnicodeEncodeError" 148 (bN "UnicodeEncodeError"),aq x0 "UnicodeTranslateError" 149 (bN "UnicodeTranslateError"),aq x0 "ExceptionGroup" 150 (bN "ExceptionGroup"),aq x0 "EnvironmentError" 151 (bN "OSError"),aq x0 "IOError" 152 (bN "OSError"),aq x0 "open" 153 (bS "open"),aq x0 "quit" 154 (bS "builtins.quit#opaque"),aq x0 "exit" 155 (bS "builtins.exit#opaque"),aq x0 "copyright" 156 (bS "builtins.copyright#opaque"),aq x0 "credits" 157 (bS "builtins.credits#opaque"),aq x0 "license" 158 (bS "builtins.license#opaque"),aq x0 "help" 159 (bS "builtins.help#opaque")] 159)
def pG(x0:aM):aJ:=bq "dict" (kH #[aq x0 "builtins" 162 (au 4),aq x0 "__main__" 163 (au 5),aq x0 "_sre" 244 (au 12)] 3)
def oW(x0:aM):aJ:=eC av (ae) (kH #[aq x0 "\x69mport.loaded._sre" 183 (d7 ag),aq x0 "class._frozen_importlib.BuiltinImporter" 185 (au 14),aq x0 "watched.\x69mport" 206 (au 18),aq x0 "class._frozen_importlib.ModuleSpec" 216 (au 22),aq x0 "sys.modules.booked-epoch" 245 (ah 3 0),aq x0 "\x69mport.later-laid._sre" 270 (d7 ag),aq x0 "watched.library" 272 (au 27),aq x0 "watched.library-objects" 0 (aE "\x0c" 0),aq x0 "watched.library-deep._sre" 273 (aE "\x04\x00\x00\x0b\x04\x00\x00\x0b\x04\x00\x00\x03\x04\x00\x00\x0b\x08\x04dict\x02" 0)] 9) #[]
def Cq(x0:aM):aJ:=bq "dict" (kH #[aq x0 "__name__" 165 (aE "__main__" 164),aq x0 "__doc__" 166 av,aq x0 "__package__" 167 av,aq x0 "__loader__" 168 (bS "__main__.__loader__#opaque"),aq x0 "__spec__" 169 av,aq x0 "__annotations__" 170 (au 6),aq x0 "__builtins__" 171 (au 4),aq x0 "__file__" 173 (aE "/claim/cut.py" 172),aq x0 "__cached__" 174 av,aq x0 "_sre" 275 (au 12)] 10)
def oR(_:aM):aJ:=eC (bN "module") (ac 0) xK #[]
def pJ(_:aM):aJ:=eC (bN "module") (ac 3) xK #[]
def di(_:aM):aJ:=bq "dict" (kH #[] 0)
def aI(_:aM):aJ:=bq "tuple" (eD #[] 0)
def bz(_:aM):aJ:=eC av (ae) (du #[]) #[]
def oN(_:aM):aJ:=bq "code" (du #[aE "<module>" 176,aE "<module>" 177,aE "/claim/cut.py" 178,ah 1 0,ah 0 0,ah 0 0,ah 0 0,ah 0 0,au 7,d7 am,ah 175 0,au 8,av,av,av,av,ah 179 0,ah 1 0,aE "/claim/cut.py" 180])
def pO(_:aM):aJ:=eC (bN "frame") (ae) xK #[ac (au 9),ac (au 3),ac (au 3),ae,ac (aE "__main__" 164),ae,ac (au 0)]
def YT(x0:aM):aJ:=bq "dict" (kH #[aq x0 "__name__" 247 (aE "_sre" 246),aq x0 "__doc__" 248 av,aq x0 "__package__" 250 (aE "" 249),aq x0 "__loader__" 251 (au 14),aq x0 "__spec__" 252 (au 26),aq x0 "compile" 253 (bS "_sre.compile"),aq x0 "template" 254 (bS "_sre.template"),aq x0 "getcodesize" 255 (bS "_sre.getcodesize"),aq x0 "ascii_iscased" 256 (bS "_sre.ascii_iscased"),aq x0 "unicode_iscased" 257 (bS "_sre.unicode_iscased"),aq x0 "ascii_tolower" 258 (bS "_sre.ascii_tolower"),aq x0 "unicode_tolower" 259 (bS "_sre.unicode_tolower"),aq x0 "MAGIC" 261 (ah 20230612 260),aq x0 "CODESIZE" 263 (ah 4 262),aq x0 "MAXREPEAT" 265 (ah 4294967295 264),aq x0 "MAXGROUPS" 267 (ah 1073741823 266),aq x0 "copyright" 269 (aE " SRE 2.2.2 Copyright (c) 1997-2002 by Secret Labs AB " 268)] 17)
def pu(_:aM):aJ:=eC (bN "module") (ac 11) xK #[]
def oX(x0:aM):aJ:=bq "dict" (kH #[aq x0 "__module__" 189 (aE "_frozen_importlib" 186),aq x0 "__firstlineno__" 190 (ah 971 187),aq x0 "__doc__" 191 (bS "_frozen_importlib.BuiltinImporter.__doc__:str#opaque"),aq x0 "_ORIGIN" 192 (aE "built-in" 188),aq x0 "find_spec" 193 (bS "_frozen_importlib.BuiltinImporter.find_spec#opaque"),aq x0 "create_module" 194 (bS "_frozen_importlib.BuiltinImporter.create_module#opaque"),aq x0 "exec_module" 195 (bS "_frozen_importlib.BuiltinImporter.exec_module#opaque"),aq x0 "get_code" 196 (bS "_frozen_importlib.BuiltinImporter.get_code#opaque"),aq x0 "get_source" 197 (bS "_frozen_importlib.BuiltinImporter.get_source#opaque"),aq x0 "is_package" 198 (bS "_frozen_importlib.BuiltinImporter.is_package#opaque"),aq x0 "load_module" 199 (bS "_frozen_importlib.BuiltinImporter.load_module#opaque"),aq x0 "__static_attributes__" 200 (au 15),aq x0 "__dict__" 202 (au 16),aq x0 "__weakref__" 204 (au 17)] 14)
def oU(_:aM):aJ:=bq "type" (Oz (OA (tm "BuiltinImporter") [bN "object"] [au 14,bN "object"] 13 (tm "BuiltinImporter") ag [] [] am (ae) am))
def pU(_:aM):aJ:=bq "getset_descriptor" (du #[aE "__dict__" 201,au 14,bS "function.__dict__",bS "function.__dict__#set"])
def oZ(_:aM):aJ:=bq "getset_descriptor" (du #[aE "__weakref__" 203,au 14,bS "ExceptionGroup.__weakref__",av])
def pd(x0:aM):aJ:=eC av (ae) (eD #[ah 13 0,aE "\x06½\n__module__\x06º\x11_frozen_importlib\x06¾\x0f__firstlineno__\x04»\x00ϋ\x06¿\x07__doc__\t4_frozen_importlib.BuiltinImporter.__doc__:str#opaque\x06À\x07_ORIGIN\x06¼\x08built-in\x06Á\tfind_spec\t2_frozen_importlib.BuiltinImporter.find_spec#opaque\x06Â\x0dcreate_module\t6_frozen_importlib.BuiltinImporter.create_module#opaque\x06Ã\x0bexec_module\t4_frozen_importlib.BuiltinImporter.exec_module#opaque\x06Ä\x08get_code\t1_frozen_importlib.BuiltinImporter.get_code#opaque\x06Å\nget_source\t3_frozen_importlib.BuiltinImporter.get_source#opaque\x06Æ\nis_package\t3_frozen_importlib.BuiltinImporter.is_package#opaque\x06Ç\x0bload_module\t4_frozen_importlib.BuiltinImporter.load_module#opaque\x06È\x15__static_attributes__\x04\x00\x00\x0f\x06Ê\x08__dict__\x04\x00\x00\x10\x06Ì\x0b__weakref__\x04\x00\x00\x11" 0,d7 ag,d7 ag,aE "" 205,ah 21 0,aE "\x06ã\n__module__\x06Ù\x11_frozen_importlib\x06ä\x0f__firstlineno__\x04Ú\x00Ȳ\x06å\x07__doc__\t/_frozen_importlib.ModuleSpec.__doc__:str#opaque\x06æ\x08__init__\t,_frozen_importlib.ModuleSpec.__init__#opaque\x06ç\x08__repr__\t,_frozen_importlib.ModuleSpec.__repr__#opaque\x06è\x06__eq__\t*_frozen_importlib.ModuleSpec.__eq__#opaque\x06é\x06cached\t*_frozen_importlib.ModuleSpec.cached#opaque\x06ê\x06parent\t*_frozen_importlib.ModuleSpec.parent#opaque\x06ë\x0chas_location\t0_frozen_importlib.ModuleSpec.has_location#opaque\x06ì\x15__static_attributes__\x04\x00\x00\x17\x06î\x08__dict__\x04\x00\x00\x18\x06ð\x0b__weakref__\x04\x00\x00\x19\x06ñ\x08__hash__\x00" 0,d7 ag,d7 ag,aE "" 242] 1) #[]
def qb(_:aM):aJ:=bq "list" (eD #[] 0)
def pK(x0:aM):aJ:=bq "dict" (kH #[aq x0 "name" 208 (aE "_sre" 207),aq x0 "loader" 209 (au 14),aq x0 "origin" 210 (aE "built-in" 184),aq x0 "loader_state" 211 av,aq x0 "submodule_search_locations" 212 av,aq x0 "_uninitialized_submodules" 213 (au 19),aq x0 "_set_fileattr" 214 (d7 am),aq x0 "_cached" 215 av,aq x0 "_initializing" 243 (d7 am)] 9)
def pe(x0:aM):aJ:=bq "dict" (kH #[aq x0 "__module__" 227 (aE "_frozen_importlib" 217),aq x0 "__firstlineno__" 228 (ah 562 218),aq x0 "__doc__" 229 (bS "_frozen_importlib.ModuleSpec.__doc__:str#opaque"),aq x0 "__init__" 230 (bS "_frozen_importlib.ModuleSpec.__init__#opaque"),aq x0 "__repr__" 231 (bS "_frozen_importlib.ModuleSpec.__repr__#opaque"),aq x0 "__eq__" 232 (bS "_frozen_importlib.ModuleSpec.__eq__#opaque"),aq x0 "cached" 233 (bS "_frozen_importlib.ModuleSpec.cached#opaque"),aq x0 "parent" 234 (bS "_frozen_importlib.ModuleSpec.parent#opaque"),aq x0 "has_location" 235 (bS "_frozen_importlib.ModuleSpec.has_location#opaque"),aq x0 "__static_attributes__" 236 (au 23),aq x0 "__dict__" 238 (au 24),aq x0 "__weakref__" 240 (au 25),aq x0 "__hash__" 241 av] 13)
def oP(_:aM):aJ:=bq "type" (Oz (OA (tm "ModuleSpec") [bN "object"] [au 22,bN "object"] 21 (tm "ModuleSpec") ag [] [] am (ae) am))
def pb(_:aM):aJ:=bq "tuple" (eD #[aE "_cached" 219,aE "_set_fileattr" 220,aE "_uninitialized_submodules" 221,aE "loader" 222,aE "loader_state" 223,aE "name" 224,aE "origin" 225,aE "submodule_search_locations" 226] 0)
def oY(_:aM):aJ:=bq "getset_descriptor" (du #[aE "__dict__" 237,au 22,bS "function.__dict__",bS "function.__dict__#set"])
def pj(_:aM):aJ:=bq "getset_descriptor" (du #[aE "__weakref__" 239,au 22,bS "ExceptionGroup.__weakref__",av])
def pV(_:aM):aJ:=eC (au 22) (ac 20) xK #[]
def pZ(_:aM):aJ:=eC av (ae) (eD #[ah 11 0,xE (Hk #[6,247,8,95,95,110,97,109,101,95,95,6,246,4,95,115,114,101,6,248,7,95,95,100,111,99,95,95,0,6,250,11,95,95,112,97,99,107,97,103,101,95,95,6,249,0,6,251,10,95,95,108,111,97,100,101,114,95,95,4,0,0,14,6,252,8,95,95,115,112,101,99,95,95,4,0,0,26,6,253,7,99,111,109,112,105,108,101,9,12,95,115,114,101,46,99,111,109,112,105,108,101,6,254,8,116,101,109,112,108,97,116,101,9,13,95,115,114,101,46,116,101,109,112,108,97,116,101,6,255,11,103,101,116,99,111,100,101,115,105,122,101,9,16,95,115,114,101,46,103,101,116,99,111,100,101,115,105,122,101,6,256,13,97,115,99,105,105,95,105,115,99,97,115,101,100,9,18,95,115,114,101,46,97,115,99,105,105,95,105,115,99,97,115,101,100,6,257,15,117,110,105,99,111,100,101,95,105,115,99,97,115,101,100,9,20,95,115,114,101,46,117,110,105,99,111,100,101,95,105,115,99,97,115,101,100,6,258,13,97,115,99,105,105,95,116,111,108,111,119,101,114,9,18,95,115,114,101,46,97,115,99,105,105,95,116,111,108,111,119,101,114,6,259,15,117,110,105,99,111,100,101,95,116,111,108,111,119,101,114,9,20,95,115,114,101,46,117,110,105,99,111,100,101,95,116,111,108,111,119,101,114,6,261,5,77,65,71,73,67,4,260,0,20230612,6,263,8,67,79,68,69,83,73,90,69,4,262,0,4,6,265,9,77,65,88,82,69,80,69,65,84,4,264,0,4294967295,6,267,9,77,65,88,71,82,79,85,80,83,4,266,0,1073741823,6,269,9,99,111,112,121,114,105,103,104,116,6,268,53,32,83,82,69,32,50,46,50,46,50,32,67,111,112,121,114,105,103,104,116,32,40,99,41,32,49,57,57,55,45,50,48,48,50,32,98,121,32,83,101,99,114,101,116,32,76,97,98,115,32,65,66,32]) 0,d7 ag,d7 am,aE "_sre" 271] 0) #[]
def qZ(x0:aM):aJ:=bq "dict" (kH #[aq x0 "__name__" 247 (aE "_sre" 246),aq x0 "__doc__" 248 av,aq x0 "__package__" 250 (aE "" 249),aq x0 "__loader__" 251 (bS "off-the-table:_sre.__loader__:shared#opaque"),aq x0 "__spec__" 252 (bS "off-the-table:_sre.__spec__:shared#opaque"),aq x0 "compile" 253 (bS "_sre.compile"),aq x0 "template" 254 (bS "off-the-table:_sre.template:shared#opaque"),aq x0 "getcodesize" 255 (bS "off-the-table:_sre.getcodesize:shared#opaque"),aq x0 "ascii_iscased" 256 (bS "off-the-table:_sre.ascii_iscased:shared#opaque"),aq x0 "unicode_iscased" 257 (bS "off-the-table:_sre.unicode_iscased:shared#opaque"),aq x0 "ascii_tolower" 258 (bS "off-the-table:_sre.ascii_tolower:shared#opaque"),aq x0 "unicode_tolower" 259 (bS "off-the-table:_sre.unicode_tolower:shared#opaque"),aq x0 "MAGIC" 261 (ah 20230612 260),aq x0 "CODESIZE" 263 (ah 4 262),aq x0 "MAXREPEAT" 265 (ah 4294967295 264),aq x0 "MAXGROUPS" 267 (ah 1073741823 266),aq x0 "copyright" 269 (aE " SRE 2.2.2 Copyright (c) 1997-2002 by Secret Labs AB " 268)] 17)
def rp(_:aM):aJ:=bq "code" (du #[aE "<module>" 277,aE "<module>" 278,aE "/claim/cut.py" 279,ah 1 0,ah 0 0,ah 0 0,ah 0 0,ah 0 0,au 28,d7 am,ah 276 0,au 29,av,av,av,av,ah 280 0,ah 1 0,aE "/claim/cut.py" 281])
def rq(_:aM):aJ:=eC (bN "frame") (ae) xK #[ac (au 30),ac (au 3),ac (au 3),ae,ac (aE "__main__" 164),ae,ac (au 0)]
def T4(x0:aM):aJ:=bq "dict" (kH #[aq x0 "__name__" 165 (aE "cpy313.http.cookiejar" 289),aq x0 "__doc__" 166 av,aq x0 "__package__" 167 av,aq x0 "__loader__" 168 (bS "__main__.__loader__#opaque"),aq x0 "__spec__" 169 av,aq x0 "__annotations__" 170 (au 6),aq x0 "__builtins__" 171 (au 4),aq x0 "__file__" 173 (aE "/claim/cut.py" 172),aq x0 "__cached__" 174 av,aq x0 "_sre" 275 (au 12),aq x0 "_wall" 288 (au 38),aq x0 "_twin_re_8" 318 (au 43),aq x0 "unmatched" 327 (au 50),aq x0 "HEADER_TOKEN_RE" 375 (au 55),aq x0 "HEADER_QUOTED_VALUE_RE" 453 (au 60)] 15)
def Zg(_:aM):aJ:=eC av (ae) (du #[ah 2 0,ah 0 0,au 37,ah 7 0,ah 0 0,au 49]) #[]
def uS(_:aM):aJ:=bq "tuple" (eD #[aE "k" 285] 0)
def ux(_:aM):aJ:=eC av (ae) (dE (c9 "_wall" "_wall" 0 [] av av av av (ae) av av 0)) #[]
def uM(_:aM):aJ:=bq "code" (du #[aE "_wall" 282,aE "_wall" 283,aE "/claim/cut.py" 284,ah 2 0,ah 1 0,ah 0 0,ah 0 0,ah 3 0,au 32,d7 ag,ah 276 0,au 33,av,au 34,au 35,au 36,ah 286 0,ah 2 0,aE "/claim/cut.py" 287])
def ur(_:aM):aJ:=bq "function" (dE (c9 "_wall" "_wall" 3 [] av av av (aE "__main__" 164) (ae) (au 37) av 0))
def vn(_:aM):aJ:=bq "list" (eD #[ah 14 294,ah 4 295,ah 0 296,ah 0 297,ah 4294967295 298,ah 6 299,ah 0 300,ah 24 301,ah 13 302,ah 0 303,ah 4294967295 304,ah 13 305,ah 8 306,ah 16 307,ah 61 308,ah 8 309,ah 12 310,ah 16 311,ah 59 312,ah 0 313,ah 1 314,ah 1 315] 0)
def jM(_:aM):aJ:=bq "tuple" (eD #[av] 0)
def ug(_:aM):aJ:=bq "tuple" (eD #[ah 14 0,ah 4 0,ah 0 0,ah 0 0,ah 4294967295 0,ah 6 0,ah 0 0,ah 24 0,ah 13 0,ah 0 0,ah 4294967295 0,ah 13 0,ah 8 0,ah 16 0,ah 61 0,ah 8 0,ah 12 0,ah 16 0,ah 59 0,ah 0 0,ah 1 0,ah 1 0] 0)
def uR(_:aM):aJ:=bq "re.Pattern" (du #[aE "^[=\\s;]*" 292,ah 32 317,ah 0 0,av,av,au 42,ah 0 0])
def uQ(_:aM):aJ:=bq "tuple" (eD #[aE "match" 322,aE "start" 323,aE "end" 324] 0)
def ul(_:aM):aJ:=eC av (ae) (dE (c9 "unmatched" "unmatched" 0 [] av av av av (ae) av av 0)) #[]
def uT(_:aM):aJ:=bq "code" (du #[aE "unmatched" 319,aE "unmatched" 320,aE "/claim/cut.py" 321,ah 7 0,ah 1 0,ah 0 0,ah 0 0,ah 3 0,au 44,d7 ag,ah 276 0,au 45,av,au 46,au 47,au 48,ah 325 0,ah 7 0,aE "/claim/cut.py" 326])
def tY(_:aM):aJ:=bq "function" (dE (c9 "unmatched" "unmatched" 3 [] av av av (aE "cpy313.http.cookiejar" 289) (ae) (au 49) av 0))
def uW(_:aM):aJ:=bq "list" (eD #[ah 14 331,ah 4 332,ah 0 333,ah 1 334,ah 4294967295 335,ah 6 336,ah 0 337,ah 24 338,ah 9 339,ah 0 340,ah 4294967295 341,ah 13 342,ah 4 343,ah 8 344,ah 12 345,ah 0 346,ah 1 347,ah 17 348,ah 0 349,ah 24 350,ah 19 351,ah 1 352,ah 4294967295 353,ah 13 354,ah 14 355,ah 21 356,ah 9 357,ah 0 358,ah 671092736 359,ah 0 360,ah 0 361,ah 0 362,ah 0 363,ah 0 364,ah 0 365,ah 8 366,ah 12 367,ah 0 368,ah 1 369,ah 17 370,ah 1 371,ah 1 372] 0)
def fR(_:aM):aJ:=bq "tuple" (eD #[av,av] 0)
def uB(_:aM):aJ:=bq "tuple" (eD #[ah 14 0,ah 4 0,ah 0 0,ah 1 0,ah 4294967295 0,ah 6 0,ah 0 0,ah 24 0,ah 9 0,ah 0 0,ah 4294967295 0,ah 13 0,ah 4 0,ah 8 0,ah 12 0,ah 0 0,ah 1 0,ah 17 0,ah 0 0,ah 24 0,ah 19 0,ah 1 0,ah 4294967295 0,ah 13 0,ah 14 0,ah 21 0,ah 9 0,ah 0 0,ah 671092736 0,ah 0 0,ah 0 0,ah 0 0,ah 0 0,ah 0 0,ah 0 0,ah 8 0,ah 12 0,ah 0 0,ah 1 0,ah 17 0,ah 1 0,ah 1 0] 0)
def uo(_:aM):aJ:=bq "re.Pattern" (du #[aE "^\\s*([^=\\s;,]+)" 329,ah 32 374,ah 1 0,av,av,au 54,ah 0 0])
def uj(_:aM):aJ:=bq "list" (eD #[ah 14 379,ah 4 380,ah 0 381,ah 3 382,ah 4294967295 383,ah 6 384,ah 0 385,ah 24 386,ah 9 387,ah 0 388,ah 4294967295 389,ah 13 390,ah 4 391,ah 8 392,ah 12 393,ah 0 394,ah 1 395,ah 16 396,ah 61 397,ah 24 398,ah 9 399,ah 0 400,ah 4294967295 401,ah 13 402,ah 4 403,ah 8 404,ah 12 405,ah 0 406,ah 1 407,ah 16 408,ah 34 409,ah 17 410,ah 0 411,ah 24 412,ah 12 413,ah 0 414,ah 4294967295 415,ah 13 416,ah 7 417,ah 21 418,ah 16 419,ah 34 420,ah 16 421,ah 92 422,ah 0 423,ah 1 424,ah 23 425,ah 19 426,ah 0 427,ah 4294967295 428,ah 16 429,ah 92 430,ah 2 431,ah 24 432,ah 12 433,ah 0 434,ah 4294967295 435,ah 13 436,ah 7 437,ah 21 438,ah 16 439,ah 34 440,ah 16 441,ah 92 442,ah 0 443,ah 1 444,ah 18 445,ah 17 446,ah 1 447,ah 16 448,ah 34 449,ah 1 450] 0)
def vp(_:aM):aJ:=bq "tuple" (eD #[ah 14 0,ah 4 0,ah 0 0,ah 3 0,ah 4294967295 0,ah 6 0,ah 0 0,ah 24 0,ah 9 0,ah 0 0,ah 4294967295 0,ah 13 0,ah 4 0,ah 8 0,ah 12 0,ah 0 0,ah 1 0,ah 16 0,ah 61 0,ah 24 0,ah 9 0,ah 0 0,ah 4294967295 0,ah 13 0,ah 4 0,ah 8 0,ah 12 0,ah 0 0,ah 1 0,ah 16 0,ah 34 0,ah 17 0,ah 0 0,ah 24 0,ah 12 0,ah 0 0,ah 4294967295 0,ah 13 0,ah 7 0,ah 21 0,ah 16 0,ah 34 0,ah 16 0,ah 92 0,ah 0 0,ah 1 0,ah 23 0,ah 19 0,ah 0 0,ah 4294967295 0,ah 16 0,ah 92 0,ah 2 0,ah 24 0,ah 12 0,ah 0 0,ah 4294967295 0,ah 13 0,ah 7 0,ah 21 0,ah 16 0,ah 34 0,ah 16 0,ah 92 0,ah 0 0,ah 1 0,ah 18 0,ah 17 0,ah 1 0,ah 16 0,ah 34 0,ah 1 0] 0)
def uE(_:aM):aJ:=bq "re.Pattern" (du #[aE "^\\s*=\\s*\\\"([^\\\"\\\\]*(?:\\\\.[^\\\"\\\\]*)*)\\\"" 377,ah 32 452,ah 1 0,av,av,au 59,ah 0 0])
def Rj(x0:aM):aJ:=bq "dict" (kH #[aq x0 "__name__" 165 (aE "cpy313.http.cookiejar" 289),aq x0 "__doc__" 166 av,aq x0 "__package__" 167 av,aq x0 "__loader__" 168 (bS "__main__.__loader__#opaque"),aq x0 "__spec__" 169 av,aq x0 "__annotations__" 170 (au 6),aq x0 "__builtins__" 171 (au 4),aq x0 "__file__" 173 (aE "/claim/cut.py" 172),aq x0 "__cached__" 174 av,aq x0 "_sre" 275 (au 12),aq x0 "_wall" 288 (au 38),aq x0 "_twin_re_8" 318 (au 43),aq x0 "unmatched" 327 (au 50),aq x0 "HEADER_TOKEN_RE" 375 (au 55),aq x0 "HEADER_QUOTED_VALUE_RE" 453 (au 60),aq x0 "HEADER_VALUE_RE" 508 (au 65),aq x0 "HEADER_ESCAPE_RE" 531 (au 70),aq x0 "split_header_words" 547 (au 77),aq x0 "HEADER_JOIN_TOKEN_RE" 576 (au 82),aq x0 "HEADER_JOIN_ESCAPE_RE" 604 (au 87),aq x0 "join_header_words" 616 (au 94)] 21)
def Zw(_:aM):aJ:=eC av (ae) (du #[ah 2 0,ah 0 0,au 37,ah 7 0,ah 0 0,au 49,ah 14 0,ah 0 0,au 76,ah 53 0,ah 0 0,au 93]) #[]
def wV(_:aM):aJ:=bq "list" (eD #[ah 14 457,ah 4 458,ah 0 459,ah 1 460,ah 4294967295 461,ah 6 462,ah 0 463,ah 24 464,ah 9 465,ah 0 466,ah 4294967295 467,ah 13 468,ah 4 469,ah 8 470,ah 12 471,ah 0 472,ah 1 473,ah 16 474,ah 61 475,ah 24 476,ah 9 477,ah 0 478,ah 4294967295 479,ah 13 480,ah 4 481,ah 8 482,ah 12 483,ah 0 484,ah 1 485,ah 17 486,ah 0 487,ah 24 488,ah 14 489,ah 0 490,ah 4294967295 491,ah 13 492,ah 9 493,ah 21 494,ah 8 495,ah 12 496,ah 16 497,ah 59 498,ah 16 499,ah 44 500,ah 0 501,ah 1 502,ah 17 503,ah 1 504,ah 1 505] 0)
def wm(_:aM):aJ:=bq "tuple" (eD #[ah 14 0,ah 4 0,ah 0 0,ah 1 0,ah 4294967295 0,ah 6 0,ah 0 0,ah 24 0,ah 9 0,ah 0 0,ah 4294967295 0,ah 13 0,ah 4 0,ah 8 0,ah 12 0,ah 0 0,ah 1 0,ah 16 0,ah 61 0,ah 24 0,ah 9 0,ah 0 0,ah 4294967295 0,ah 13 0,ah 4 0,ah 8 0,ah 12 0,ah 0 0,ah 1 0,ah 17 0,ah 0 0,ah 24 0,ah 14 0,ah 0 0,ah 4294967295 0,ah 13 0,ah 9 0,ah 21 0,ah 8 0,ah 12 0,ah 16 0,ah 59 0,ah 16 0,ah 44 0,ah 0 0,ah 1 0,ah 17 0,ah 1 0,ah 1 0] 0)
def wx(_:aM):aJ:=bq "re.Pattern" (du #[aE "^\\s*=\\s*([^\\s;,]*)" 455,ah 32 507,ah 1 0,av,av,au 64,ah 0 0])
def wS(_:aM):aJ:=bq "list" (eD #[ah 14 512,ah 8 513,ah 1 514,ah 2 515,ah 2 516,ah 1 517,ah 1 518,ah 92 519,ah 0 520,ah 16 521,ah 92 522,ah 17 523,ah 0 524,ah 2 525,ah 17 526,ah 1 527,ah 1 528] 0)
def wK(_:aM):aJ:=bq "tuple" (eD #[ah 14 0,ah 8 0,ah 1 0,ah 2 0,ah 2 0,ah 1 0,ah 1 0,ah 92 0,ah 0 0,ah 16 0,ah 92 0,ah 17 0,ah 0 0,ah 2 0,ah 17 0,ah 1 0,ah 1 0] 0)
def w4(_:aM):aJ:=bq "re.Pattern" (du #[aE "\\\\(.)" 510,ah 32 530,ah 1 0,av,av,au 69,ah 0 0])
def wg(_:aM):aJ:=bq "tuple" (eD #[aE "header_values" 535,aE "result" 536,aE "text" 537,aE "orig_text" 538,aE "pairs" 539,aE "m" 540,aE "name" 541,aE "value" 542,aE "non_junk" 543,aE "nr_junk_chars" 544] 0)
def wz(_:aM):aJ:=eC av (ae) (dE (c9 "split_header_words" "split_header_words" 0 [] av av av av (ae) av av 0)) #[]
def xu(_:aM):aJ:=bq "code" (du #[aE "split_header_words" 532,aE "split_header_words" 533,aE "/claim/cut.py" 534,ah 14 0,ah 1 0,ah 0 0,ah 0 0,ah 3 0,au 71,d7 ag,ah 276 0,au 72,av,au 73,au 74,au 75,ah 545 0,ah 14 0,aE "/claim/cut.py" 546])
def w3(_:aM):aJ:=bq "function" (dE (c9 "split_header_words" "split_header_words" 3 [] av av av (aE "cpy313.http.cookiejar" 289) (ae) (au 76) av 0))
def xq(_:aM):aJ:=bq "list" (eD #[ah 14 551,ah 4 552,ah 0 553,ah 1 554,ah 4294967295 555,ah 24 556,ah 16 557,ah 1 558,ah 4294967295 559,ah 13 560,ah 11 561,ah 9 562,ah 0 563,ah 67071226 564,ah 3355443198 565,ah 1476395007 566,ah 0 567,ah 0 568,ah 0 569,ah 0 570,ah 0 571,ah 1 572,ah 1 573] 0)
def xi(_:aM):aJ:=bq "tuple" (eD #[ah 14 0,ah 4 0,ah 0 0,ah 1 0,ah 4294967295 0,ah 24 0,ah 16 0,ah 1 0,ah 4294967295 0,ah 13 0,ah 11 0,ah 9 0,ah 0 0,ah 67071226 0,ah 3355443198 0,ah 1476395007 0,ah 0 0,ah 0 0,ah 0 0,ah 0 0,ah 0 0,ah 1 0,ah 1 0] 0)
def wq(_:aM):aJ:=bq "re.Pattern" (du #[aE "[!#$%&'*+\\-.^_`|~0-9A-Za-z]+" 549,ah 32 575,ah 0 0,av,av,au 81,ah 0 0])
def xn(_:aM):aJ:=bq "list" (eD #[ah 14 580,ah 9 581,ah 4 582,ah 1 583,ah 1 584,ah 16 585,ah 34 586,ah 16 587,ah 92 588,ah 0 589,ah 17 590,ah 0 591,ah 13 592,ah 6 593,ah 16 594,ah 34 595,ah 16 596,ah 92 597,ah 0 598,ah 17 599,ah 1 600,ah 1 601] 0)
def wP(_:aM):aJ:=bq "tuple" (eD #[ah 14 0,ah 9 0,ah 4 0,ah 1 0,ah 1 0,ah 16 0,ah 34 0,ah 16 0,ah 92 0,ah 0 0,ah 17 0,ah 0 0,ah 13 0,ah 6 0,ah 16 0,ah 34 0,ah 16 0,ah 92 0,ah 0 0,ah 17 0,ah 1 0,ah 1 0] 0)
def wy(_:aM):aJ:=bq "re.Pattern" (du #[aE "([\\\"\\\\])" 578,ah 32 603,ah 1 0,av,av,au 86,ah 0 0])
def vW(_:aM):aJ:=bq "tuple" (eD #[aE "lists" 608,aE "headers" 609,aE "pairs" 610,aE "attr" 611,aE "k" 612,aE "v" 613] 0)
def w9(_:aM):aJ:=eC av (ae) (dE (c9 "join_header_words" "join_header_words" 0 [] av av av av (ae) av av 0)) #[]
def w7(_:aM):aJ:=bq "code" (du #[aE "join_header_words" 605,aE "join_header_words" 606,aE "/claim/cut.py" 607,ah 53 0,ah 1 0,ah 0 0,ah 0 0,ah 3 0,au 88,d7 ag,ah 276 0,au 89,av,au 90,au 91,au 92,ah 614 0,ah 53 0,aE "/claim/cut.py" 615])
def xt(_:aM):aJ:=bq "function" (dE (c9 "join_header_words" "join_header_words" 3 [] av av av (aE "cpy313.http.cookiejar" 289) (ae) (au 93) av 0))
def Qs(x0:aM):aJ:=bq "dict" (kH #[aq x0 "__name__" 165 (aE "cpy313.tabnanny" 685),aq x0 "__doc__" 166 av,aq x0 "__package__" 167 av,aq x0 "__loader__" 168 (bS "__main__.__loader__#opaque"),aq x0 "__spec__" 169 av,aq x0 "__annotations__" 170 (au 6),aq x0 "__builtins__" 171 (au 4),aq x0 "__file__" 173 (aE "/claim/cut.py" 172),aq x0 "__cached__" 174 av,aq x0 "_sre" 275 (au 12),aq x0 "_wall" 288 (au 38),aq x0 "_twin_re_8" 318 (au 43),aq x0 "unmatched" 327 (au 50),aq x0 "HEADER_TOKEN_RE" 375 (au 55),aq x0 "HEADER_QUOTED_VALUE_RE" 453 (au 60),aq x0 "HEADER_VALUE_RE" 508 (au 65),aq x0 "HEADER_ESCAPE_RE" 531 (au 70),aq x0 "split_header_words" 547 (au 77),aq x0 "HEADER_JOIN_TOKEN_RE" 576 (au 82),aq x0 "HEADER_JOIN_ESCAPE_RE" 604 (au 87),aq x0 "join_header_words" 616 (au 94),aq x0 "IPV4_RE" 646 (au 99),aq x0 "is_HDN" 653 (au 106),aq x0 "reach" 662 (au 113),aq x0 "add_callers" 675 (au 120),aq x0 "count_calls" 684 (au 127)] 26)
def Wf(_:aM):aJ:=eC av (ae) (du #[ah 2 0,ah 0 0,au 37,ah 7 0,ah 0 0,au 49,ah 14 0,ah 0 0,au 76,ah 53 0,ah 0 0,au 93,ah 68 0,ah 0 0,au 105,ah 76 0,ah 0 0,au 112,ah 85 0,ah 0 0,au 119,ah 98 0,ah 0 0,au 126]) #[]
def yJ(_:aM):aJ:=bq "list" (eD #[ah 14 620,ah 8 621,ah 1 622,ah 2 623,ah 4294967295 624,ah 1 625,ah 1 626,ah 46 627,ah 0 628,ah 16 629,ah 46 630,ah 24 631,ah 9 632,ah 1 633,ah 4294967295 634,ah 13 635,ah 4 636,ah 8 637,ah 0 638,ah 0 639,ah 1 640,ah 6 641,ah 5 642,ah 1 643] 0)
def ym(_:aM):aJ:=bq "tuple" (eD #[ah 14 0,ah 8 0,ah 1 0,ah 2 0,ah 4294967295 0,ah 1 0,ah 1 0,ah 46 0,ah 0 0,ah 16 0,ah 46 0,ah 24 0,ah 9 0,ah 1 0,ah 4294967295 0,ah 13 0,ah 4 0,ah 8 0,ah 0 0,ah 0 0,ah 1 0,ah 6 0,ah 5 0,ah 1 0] 0)
def yV(_:aM):aJ:=bq "re.Pattern" (du #[aE "\\.\\d+$" 618,ah 256 645,ah 0 0,av,av,au 98,ah 0 0])
def yl(_:aM):aJ:=bq "tuple" (eD #[aE "text" 650] 0)
def yj(_:aM):aJ:=eC av (ae) (dE (c9 "is_HDN" "is_HDN" 0 [] av av av av (ae) av av 0)) #[]
def yb(_:aM):aJ:=bq "code" (du #[aE "is_HDN" 647,aE "is_HDN" 648,aE "/claim/cut.py" 649,ah 68 0,ah 1 0,ah 0 0,ah 0 0,ah 3 0,au 100,d7 ag,ah 276 0,au 101,av,au 102,au 103,au 104,ah 651 0,ah 68 0,aE "/claim/cut.py" 652])
def zu(_:aM):aJ:=bq "function" (dE (c9 "is_HDN" "is_HDN" 3 [] av av av (aE "cpy313.http.cookiejar" 289) (ae) (au 105) av 0))
def yO(_:aM):aJ:=bq "tuple" (eD #[aE "h" 657,aE "i" 658,aE "b" 659] 0)
def zp(_:aM):aJ:=eC av (ae) (dE (c9 "reach" "reach" 0 [] av av av av (ae) av av 0)) #[]
def yY(_:aM):aJ:=bq "code" (du #[aE "reach" 654,aE "reach" 655,aE "/claim/cut.py" 656,ah 76 0,ah 1 0,ah 0 0,ah 0 0,ah 3 0,au 107,d7 ag,ah 276 0,au 108,av,au 109,au 110,au 111,ah 660 0,ah 76 0,aE "/claim/cut.py" 661])
def yM(_:aM):aJ:=bq "function" (dE (c9 "reach" "reach" 3 [] av av av (aE "cpy313.http.cookiejar" 289) (ae) (au 112) av 0))
def yy(_:aM):aJ:=bq "tuple" (eD #[aE "target" 668,aE "source" 669,aE "new_callers" 670,aE "func" 671,aE "caller" 672] 0)
def zk(_:aM):aJ:=eC av (ae) (dE (c9 "add_callers" "add_callers" 0 [] av av av av (ae) av av 0)) #[]
def xQ(_:aM):aJ:=bq "code" (du #[aE "add_callers" 665,aE "add_callers" 666,aE "/claim/cut.py" 667,ah 85 0,ah 2 0,ah 0 0,ah 0 0,ah 3 0,au 114,d7 ag,ah 276 0,au 115,av,au 116,au 117,au 118,ah 673 0,ah 85 0,aE "/claim/cut.py" 674])
def y9(_:aM):aJ:=bq "function" (dE (c9 "add_callers" "add_callers" 3 [] av av av (aE "cpy313.pstats" 663) (ae) (au 119) av 0))
def y8(_:aM):aJ:=bq "tuple" (eD #[aE "callers" 679,aE "nc" 680,aE "calls" 681] 0)
def yf(_:aM):aJ:=eC av (ae) (dE (c9 "count_calls" "count_calls" 0 [] av av av av (ae) av av 0)) #[]
def yA(_:aM):aJ:=bq "code" (du #[aE "count_calls" 676,aE "count_calls" 677,aE "/claim/cut.py" 678,ah 98 0,ah 1 0,ah 0 0,ah 0 0,ah 3 0,au 121,d7 ag,ah 276 0,au 122,av,au 123,au 124,au 125,ah 682 0,ah 98 0,aE "/claim/cut.py" 683])
def yQ(_:aM):aJ:=bq "function" (dE (c9 "count_calls" "count_calls" 3 [] av av av (aE "cpy313.pstats" 663) (ae) (au 126) av 0))
def Se(x0:aM):aJ:=bq "dict" (kH #[aq x0 "__name__" 165 (aE "cpy313.tabnanny" 685),aq x0 "__doc__" 166 av,aq x0 "__package__" 167 av,aq x0 "__loader__" 168 (bS "__main__.__loader__#opaque"),aq x0 "__spec__" 169 av,aq x0 "__annotations__" 170 (au 6),aq x0 "__builtins__" 171 (au 4),aq x0 "__file__" 173 (aE "/claim/cut.py" 172),aq x0 "__cached__" 174 av,aq x0 "_sre" 275 (au 12),aq x0 "_wall" 288 (au 38),aq x0 "_twin_re_8" 318 (au 43),aq x0 "unmatched" 327 (au 50),aq x0 "HEADER_TOKEN_RE" 375 (au 55),aq x0 "HEADER_QUOTED_VALUE_RE" 453 (au 60),aq x0 "HEADER_VALUE_RE" 508 (au 65),aq x0 "HEADER_ESCAPE_RE" 531 (au 70),aq x0 "split_header_words" 547 (au 77),aq x0 "HEADER_JOIN_TOKEN_RE" 576 (au 82),aq x0 "HEADER_JOIN_ESCAPE_RE" 604 (au 87),aq x0 "join_header_words" 616 (au 94),aq x0 "IPV4_RE" 646 (au 99),aq x0 "is_HDN" 653 (au 106),aq x0 "reach" 662 (au 113),aq x0 "add_callers" 675 (au 120),aq x0 "count_calls" 684 (au 127),aq x0 "Whitespace" 789 (au 189)] 27)
def Yj(_:aM):aJ:=eC av (ae) (du #[ah 2 0,ah 0 0,au 37,ah 7 0,ah 0 0,au 49,ah 14 0,ah 0 0,au 76,ah 53 0,ah 0 0,au 93,ah 68 0,ah 0 0,au 105,ah 76 0,ah 0 0,au 112,ah 85 0,ah 0 0,au 119,ah 98 0,ah 0 0,au 126,ah 104 0,ah 0 0,au 133]) #[]
def Cp(_:aM):aJ:=bq "builtin_function_or_method" (du #[bS "type.__prepare__",bN "type"])
def Cj(x0:aM):aJ:=bq "dict" (kH #[aq x0 "__module__" 694 (aE "cpy313.tabnanny" 685),aq x0 "__qualname__" 696 (aE "Whitespace" 695),aq x0 "__firstlineno__" 698 (ah 104 697),aq x0 "S" 702 (aE " " 700),aq x0 "T" 703 (aE "\t" 701),aq x0 "__init__" 718 (au 144),aq x0 "longest_run_of_spaces" 727 (au 151),aq x0 "indent_level" 739 (au 158),aq x0 "equal" 747 (au 165),aq x0 "not_equal_witness" 755 (au 172),aq x0 "less" 765 (au 179),aq x0 "not_less_witness" 776 (au 186),aq x0 "__static_attributes__" 782 (au 187)] 13)
def Cv(_:aM):aJ:=eC av (ae) (du #[ah 107 0,ah 4 0,au 143,ah 130 0,ah 4 0,au 150,ah 134 0,ah 4 0,au 157,ah 141 0,ah 4 0,au 164,ah 144 0,ah 4 0,au 171,ah 147 0,ah 4 0,au 178,ah 158 0,ah 4 0,au 185]) #[]
def Cr(_:aM):aJ:=bq "code" (du #[aE "Whitespace" 689,aE "Whitespace" 690,aE "/claim/cut.py" 691,ah 104 0,ah 0 0,ah 0 0,ah 0 0,ah 0 0,au 131,d7 am,ah 276 0,au 132,av,av,av,av,ah 692 0,ah 104 0,aE "/claim/cut.py" 693])
def AB(_:aM):aJ:=eC (bN "frame") (ae) xK #[ac (au 133),ac (au 3),ac (au 130),ae,ac (aE "cpy313.tabnanny" 685),ae,ac (au 0)]
def Ci(_:aM):aJ:=bq "str_ascii_iterator" (du #[av,ah 2 0])
def Bg(_:aM):aJ:=bq "StopIteration" (du #[au 136,av,av,av,d7 am,av])
def CN(_:aM):aJ:=bq "tuple" (eD #[aE "self" 707,aE "ws" 708,aE "S" 709,aE "T" 710,aE "count" 711,aE "b" 712,aE "n" 713,aE "nt" 714,aE "ch" 715] 0)
def B6(_:aM):aJ:=eC av (ae) (dE (c9 "__init__" "Whitespace.__init__" 0 [] av av av av (ae) av av 0)) #[]
def BJ(_:aM):aJ:=bq "code" (du #[aE "__init__" 704,aE "Whitespace.__init__" 705,aE "/claim/cut.py" 706,ah 107 0,ah 2 0,ah 0 0,ah 0 0,ah 3 0,au 138,d7 ag,ah 276 0,au 139,av,au 140,au 141,au 142,ah 716 0,ah 107 0,aE "/claim/cut.py" 717])
def Cf(_:aM):aJ:=bq "function" (dE (c9 "__init__" "Whitespace.__init__" 3 [] av av av (aE "cpy313.tabnanny" 685) (ae) (au 143) av 0))
def BN(_:aM):aJ:=bq "tuple" (eD #[aE "self" 722,aE "count" 723,aE "trailing" 724] 0)
def Av(_:aM):aJ:=eC av (ae) (dE (c9 "longest_run_of_spaces" "Whitespace.longest_run_of_spaces" 0 [] av av av av (ae) av av 0)) #[]
def A7(_:aM):aJ:=bq "code" (du #[aE "longest_run_of_spaces" 719,aE "Whitespace.longest_run_of_spaces" 720,aE "/claim/cut.py" 721,ah 130 0,ah 1 0,ah 0 0,ah 0 0,ah 3 0,au 145,d7 ag,ah 276 0,au 146,av,au 147,au 148,au 149,ah 725 0,ah 130 0,aE "/claim/cut.py" 726])
def Bw(_:aM):aJ:=bq "function" (dE (c9 "longest_run_of_spaces" "Whitespace.longest_run_of_spaces" 3 [] av av av (aE "cpy313.tabnanny" 685) (ae) (au 150) av 0))
def Ct(_:aM):aJ:=bq "tuple" (eD #[aE "self" 731,aE "tabsize" 732,aE "count" 733,aE "trailing" 734,aE "il" 735,aE "i" 736] 0)
def CU(_:aM):aJ:=eC av (ae) (dE (c9 "indent_level" "Whitespace.indent_level" 0 [] av av av av (ae) av av 0)) #[]
def AO(_:aM):aJ:=bq "code" (du #[aE "indent_level" 728,aE "Whitespace.indent_level" 729,aE "/claim/cut.py" 730,ah 134 0,ah 2 0,ah 0 0,ah 0 0,ah 3 0,au 152,d7 ag,ah 276 0,au 153,av,au 154,au 155,au 156,ah 737 0,ah 134 0,aE "/claim/cut.py" 738])
def B0(_:aM):aJ:=bq "function" (dE (c9 "indent_level" "Whitespace.indent_level" 3 [] av av av (aE "cpy313.tabnanny" 685) (ae) (au 157) av 0))
def Bh(_:aM):aJ:=bq "tuple" (eD #[aE "self" 743,aE "other" 744] 0)
def AM(_:aM):aJ:=eC av (ae) (dE (c9 "equal" "Whitespace.equal" 0 [] av av av av (ae) av av 0)) #[]
def BP(_:aM):aJ:=bq "code" (du #[aE "equal" 740,aE "Whitespace.equal" 741,aE "/claim/cut.py" 742,ah 141 0,ah 2 0,ah 0 0,ah 0 0,ah 3 0,au 159,d7 ag,ah 276 0,au 160,av,au 161,au 162,au 163,ah 745 0,ah 141 0,aE "/claim/cut.py" 746])
def BR(_:aM):aJ:=bq "function" (dE (c9 "equal" "Whitespace.equal" 3 [] av av av (aE "cpy313.tabnanny" 685) (ae) (au 164) av 0))
def AV(_:aM):aJ:=bq "tuple" (eD #[aE "self" 751,aE "other" 752] 0)
def CI(_:aM):aJ:=eC av (ae) (dE (c9 "not_equal_witness" "Whitespace.not_equal_witness" 0 [] av av av av (ae) av av 0)) #[]
def Aq(_:aM):aJ:=bq "code" (du #[aE "not_equal_witness" 748,aE "Whitespace.not_equal_witness" 749,aE "/claim/cut.py" 750,ah 144 0,ah 2 0,ah 0 0,ah 0 0,ah 3 0,au 166,d7 ag,ah 276 0,au 167,av,au 168,au 169,au 170,ah 753 0,ah 144 0,aE "/claim/cut.py" 754])
def Az(_:aM):aJ:=bq "function" (dE (c9 "not_equal_witness" "Whitespace.not_equal_witness" 3 [] av av av (aE "cpy313.tabnanny" 685) (ae) (au 171) av 0))
def BG(_:aM):aJ:=bq "tuple" (eD #[aE "self" 759,aE "other" 760,aE "n" 761,aE "ts" 762] 0)
def CM(_:aM):aJ:=eC av (ae) (dE (c9 "less" "Whitespace.less" 0 [] av av av av (ae) av av 0)) #[]
def Bx(_:aM):aJ:=bq "code" (du #[aE "less" 756,aE "Whitespace.less" 757,aE "/claim/cut.py" 758,ah 147 0,ah 2 0,ah 0 0,ah 0 0,ah 3 0,au 173,d7 ag,ah 276 0,au 174,av,au 175,au 176,au 177,ah 763 0,ah 147 0,aE "/claim/cut.py" 764])
def AZ(_:aM):aJ:=bq "function" (dE (c9 "less" "Whitespace.less" 3 [] av av av (aE "cpy313.tabnanny" 685) (ae) (au 178) av 0))
def AE(_:aM):aJ:=bq "tuple" (eD #[aE "self" 769,aE "other" 770,aE "n" 771,aE "a" 772,aE "ts" 773] 0)
def BU(_:aM):aJ:=eC av (ae) (dE (c9 "not_less_witness" "Whitespace.not_less_witness" 0 [] av av av av (ae) av av 0)) #[]
def CD(_:aM):aJ:=bq "code" (du #[aE "not_less_witness" 766,aE "Whitespace.not_less_witness" 767,aE "/claim/cut.py" 768,ah 158 0,ah 2 0,ah 0 0,ah 0 0,ah 3 0,au 180,d7 ag,ah 276 0,au 181,av,au 182,au 183,au 184,ah 774 0,ah 158 0,aE "/claim/cut.py" 775])
def CJ(_:aM):aJ:=bq "function" (dE (c9 "not_less_witness" "Whitespace.not_less_witness" 3 [] av av av (aE "cpy313.tabnanny" 685) (ae) (au 185) av 0))
def A4(_:aM):aJ:=bq "tuple" (eD #[aE "is_simple" 777,aE "n" 778,aE "norm" 779,aE "nt" 780,aE "raw" 781] 0)
def AR(x0:aM):aJ:=bq "dict" (kH #[aq x0 "__module__" 694 (aE "cpy313.tabnanny" 685),aq x0 "__firstlineno__" 698 (ah 104 697),aq x0 "S" 702 (aE " " 700),aq x0 "T" 703 (aE "\t" 701),aq x0 "__init__" 718 (au 144),aq x0 "longest_run_of_spaces" 727 (au 151),aq x0 "indent_level" 739 (au 158),aq x0 "equal" 747 (au 165),aq x0 "not_equal_witness" 755 (au 172),aq x0 "less" 765 (au 179),aq x0 "not_less_witness" 776 (au 186),aq x0 "__static_attributes__" 782 (au 187),aq x0 "__dict__" 784 (au 190),aq x0 "__weakref__" 786 (au 191),aq x0 "__doc__" 787 av] 4)
def AF(_:aM):aJ:=eC (bN "type") (ae) (Oz (OA (tm "Whitespace") [bN "object"] [au 189,bN "object"] 188 (tm "Whitespace") ag [] [] am (ae) am)) #[ae,ae,ac (aE "Whitespace" 687),ac (aE "Whitespace" 695),ac (bS "object.__new__"),ac (d7 ag)]
def A6(_:aM):aJ:=bq "getset_descriptor" (du #[aE "__dict__" 783,au 189,bS "function.__dict__",bS "function.__dict__#set"])
def Be(_:aM):aJ:=bq "getset_descriptor" (du #[aE "__weakref__" 785,au 189,bS "ExceptionGroup.__weakref__",av])
def A9(_:aM):aJ:=bq "super" (du #[au 189,au 189,au 189])
def BE(_:aM):aJ:=bq "builtin_function_or_method" (du #[bS "object.__init_subclass__",au 189])
def Xc(x0:aM):aJ:=bq "dict" (kH #[aq x0 "__name__" 165 (aE "law_xt0018_01" 843),aq x0 "__doc__" 166 av,aq x0 "__package__" 167 av,aq x0 "__loader__" 168 (bS "__main__.__loader__#opaque"),aq x0 "__spec__" 169 av,aq x0 "__annotations__" 170 (au 6),aq x0 "__builtins__" 171 (au 4),aq x0 "__file__" 173 (aE "/claim/cut.py" 172),aq x0 "__cached__" 174 av,aq x0 "_sre" 275 (au 12),aq x0 "_wall" 288 (au 38),aq x0 "_twin_re_8" 318 (au 43),aq x0 "unmatched" 327 (au 50),aq x0 "HEADER_TOKEN_RE" 375 (au 55),aq x0 "HEADER_QUOTED_VALUE_RE" 453 (au 60),aq x0 "HEADER_VALUE_RE" 508 (au 65),aq x0 "HEADER_ESCAPE_RE" 531 (au 70),aq x0 "split_header_words" 547 (au 77),aq x0 "HEADER_JOIN_TOKEN_RE" 576 (au 82),aq x0 "HEADER_JOIN_ESCAPE_RE" 604 (au 87),aq x0 "join_header_words" 616 (au 94),aq x0 "IPV4_RE" 646 (au 99),aq x0 "is_HDN" 653 (au 106),aq x0 "reach" 662 (au 113),aq x0 "add_callers" 675 (au 120),aq x0 "count_calls" 684 (au 127),aq x0 "Whitespace" 789 (au 189),aq x0 "format_witnesses" 798 (au 200),aq x0 "_raise_serialization_error" 807 (au 207),aq x0 "_escape_cdata" 814 (au 214),aq x0 "_escape_attrib" 821 (au 221),aq x0 "_escape_attrib_html" 828 (au 228),aq x0 "_escape_cdata_c14n" 835 (au 235),aq x0 "_escape_attrib_c14n" 842 (au 242),aq x0 "_law_reference" 850 (au 247),aq x0 "_law_value" 856 (au 252),aq x0 "_law_column" 866 (au 259),aq x0 "_law_witness" 872 (au 264),aq x0 "_law_step" 887 (au 271),aq x0 "_law_determinant" 893 (au 276)] 40)
def Vs(_:aM):aJ:=eC av (ae) (du #[ah 2 0,ah 0 0,au 37,ah 7 0,ah 0 0,au 49,ah 14 0,ah 0 0,au 76,ah 53 0,ah 0 0,au 93,ah 68 0,ah 0 0,au 105,ah 76 0,ah 0 0,au 112,ah 85 0,ah 0 0,au 119,ah 98 0,ah 0 0,au 126,ah 104 0,ah 0 0,au 133,ah 165 0,ah 0 0,au 199,ah 172 0,ah 0 0,au 206,ah 174 0,ah 0 0,au 213,ah 185 0,ah 0 0,au 220,ah 204 0,ah 0 0,au 227,ah 215 0,ah 0 0,au 234,ah 228 0,ah 0 0,au 241,ah 246 0,ah 0 0,au 246,ah 249 0,ah 0 0,au 251,ah 253 0,ah 0 0,au 258,ah 260 0,ah 0 0,au 263,ah 264 0,ah 0 0,au 270,ah 275 0,ah 0 0,au 275]) #[]
def FM(_:aM):aJ:=bq "tuple" (eD #[aE "w" 793,aE "firsts" 794,aE "prefix" 795] 0)
def FX(_:aM):aJ:=eC av (ae) (dE (c9 "format_witnesses" "format_witnesses" 0 [] av av av av (ae) av av 0)) #[]
def D7(_:aM):aJ:=bq "code" (du #[aE "format_witnesses" 790,aE "format_witnesses" 791,aE "/claim/cut.py" 792,ah 165 0,ah 1 0,ah 0 0,ah 0 0,ah 3 0,au 194,d7 ag,ah 276 0,au 195,av,au 196,au 197,au 198,ah 796 0,ah 165 0,aE "/claim/cut.py" 797])
def Eh(_:aM):aJ:=bq "function" (dE (c9 "format_witnesses" "format_witnesses" 3 [] av av av (aE "cpy313.tabnanny" 685) (ae) (au 199) av 0))
def Dr(_:aM):aJ:=bq "tuple" (eD #[aE "text" 804] 0)
def Gp(_:aM):aJ:=eC av (ae) (dE (c9 "_raise_serialization_error" "_raise_serialization_error" 0 [] av av av av (ae) av av 0)) #[]
def Gw(_:aM):aJ:=bq "code" (du #[aE "_raise_serialization_error" 801,aE "_raise_serialization_error" 802,aE "/claim/cut.py" 803,ah 172 0,ah 1 0,ah 0 0,ah 0 0,ah 3 0,au 201,d7 ag,ah 276 0,au 202,av,au 203,au 204,au 205,ah 805 0,ah 172 0,aE "/claim/cut.py" 806])
def FA(_:aM):aJ:=bq "function" (dE (c9 "_raise_serialization_error" "_raise_serialization_error" 3 [] av av av (aE "cpy313.xml.etree.ElementTree" 799) (ae) (au 206) av 0))
def Gm(_:aM):aJ:=bq "tuple" (eD #[aE "text" 811] 0)
def EM(_:aM):aJ:=eC av (ae) (dE (c9 "_escape_cdata" "_escape_cdata" 0 [] av av av av (ae) av av 0)) #[]
def G1(_:aM):aJ:=bq "code" (du #[aE "_escape_cdata" 808,aE "_escape_cdata" 809,aE "/claim/cut.py" 810,ah 174 0,ah 1 0,ah 0 0,ah 0 0,ah 3 0,au 208,d7 ag,ah 276 0,au 209,av,au 210,au 211,au 212,ah 812 0,ah 174 0,aE "/claim/cut.py" 813])
def GL(_:aM):aJ:=bq "function" (dE (c9 "_escape_cdata" "_escape_cdata" 3 [] av av av (aE "cpy313.xml.etree.ElementTree" 799) (ae) (au 213) av 0))
def EA(_:aM):aJ:=bq "tuple" (eD #[aE "text" 818] 0)
def DF(_:aM):aJ:=eC av (ae) (dE (c9 "_escape_attrib" "_escape_attrib" 0 [] av av av av (ae) av av 0)) #[]
def DC(_:aM):aJ:=bq "code" (du #[aE "_escape_attrib" 815,aE "_escape_attrib" 816,aE "/claim/cut.py" 817,ah 185 0,ah 1 0,ah 0 0,ah 0 0,ah 3 0,au 215,d7 ag,ah 276 0,au 216,av,au 217,au 218,au 219,ah 819 0,ah 185 0,aE "/claim/cut.py" 820])
def Fv(_:aM):aJ:=bq "function" (dE (c9 "_escape_attrib" "_escape_attrib" 3 [] av av av (aE "cpy313.xml.etree.ElementTree" 799) (ae) (au 220) av 0))
def DA(_:aM):aJ:=bq "tuple" (eD #[aE "text" 825] 0)
def DK(_:aM):aJ:=eC av (ae) (dE (c9 "_escape_attrib_html" "_escape_attrib_html" 0 [] av av av av (ae) av av 0)) #[]
def DL(_:aM):aJ:=bq "code" (du #[aE "_escape_attrib_html" 822,aE "_escape_attrib_html" 823,aE "/claim/cut.py" 824,ah 204 0,ah 1 0,ah 0 0,ah 0 0,ah 3 0,au 222,d7 ag,ah 276 0,au 223,av,au 224,au 225,au 226,ah 826 0,ah 204 0,aE "/claim/cut.py" 827])
def Fe(_:aM):aJ:=bq "function" (dE (c9 "_escape_attrib_html" "_escape_attrib_html" 3 [] av av av (aE "cpy313.xml.etree.ElementTree" 799) (ae) (au 227) av 0))
def FI(_:aM):aJ:=bq "tuple" (eD #[aE "text" 832] 0)
def FG(_:aM):aJ:=eC av (ae) (dE (c9 "_escape_cdata_c14n" "_escape_cdata_c14n" 0 [] av av av av (ae) av av 0)) #[]
def Gy(_:aM):aJ:=bq "code" (du #[aE "_escape_cdata_c14n" 829,aE "_escape_cdata_c14n" 830,aE "/claim/cut.py" 831,ah 215 0,ah 1 0,ah 0 0,ah 0 0,ah 3 0,au 229,d7 ag,ah 276 0,au 230,av,au 231,au 232,au 233,ah 833 0,ah 215 0,aE "/claim/cut.py" 834])
def GH(_:aM):aJ:=bq "function" (dE (c9 "_escape_cdata_c14n" "_escape_cdata_c14n" 3 [] av av av (aE "cpy313.xml.etree.ElementTree" 799) (ae) (au 234) av 0))
def GV(_:aM):aJ:=bq "tuple" (eD #[aE "text" 839] 0)
def D1(_:aM):aJ:=eC av (ae) (dE (c9 "_escape_attrib_c14n" "_escape_attrib_c14n" 0 [] av av av av (ae) av av 0)) #[]
def Ek(_:aM):aJ:=bq "code" (du #[aE "_escape_attrib_c14n" 836,aE "_escape_attrib_c14n" 837,aE "/claim/cut.py" 838,ah 228 0,ah 1 0,ah 0 0,ah 0 0,ah 3 0,au 236,d7 ag,ah 276 0,au 237,av,au 238,au 239,au 240,ah 840 0,ah 228 0,aE "/claim/cut.py" 841])
def G3(_:aM):aJ:=bq "function" (dE (c9 "_escape_attrib_c14n" "_escape_attrib_c14n" 3 [] av av av (aE "cpy313.xml.etree.ElementTree" 799) (ae) (au 241) av 0))
def Fd(_:aM):aJ:=eC av (ae) (dE (c9 "_law_reference" "_law_reference" 0 [] av av av av (ae) av av 0)) #[]
def GJ(_:aM):aJ:=bq "code" (du #[aE "_law_reference" 845,aE "_law_reference" 846,aE "/claim/cut.py" 847,ah 246 0,ah 2 0,ah 0 0,ah 0 0,ah 3 0,au 243,d7 ag,ah 276 0,au 244,av,av,av,au 245,ah 848 0,ah 246 0,aE "/claim/cut.py" 849])
def GD(_:aM):aJ:=bq "function" (dE (c9 "_law_reference" "_law_reference" 3 [] av av av (aE "law_xt0018_01" 843) (ae) (au 246) av 0))
def F9(_:aM):aJ:=eC av (ae) (dE (c9 "_law_value" "_law_value" 0 [] av av av av (ae) av av 0)) #[]
def Fq(_:aM):aJ:=bq "code" (du #[aE "_law_value" 851,aE "_law_value" 852,aE "/claim/cut.py" 853,ah 249 0,ah 1 0,ah 0 0,ah 0 0,ah 3 0,au 248,d7 ag,ah 276 0,au 249,av,av,av,au 250,ah 854 0,ah 249 0,aE "/claim/cut.py" 855])
def D5(_:aM):aJ:=bq "function" (dE (c9 "_law_value" "_law_value" 3 [] av av av (aE "law_xt0018_01" 843) (ae) (au 251) av 0))
def DV(_:aM):aJ:=bq "tuple" (eD #[aE "lead" 860,aE "size" 861,aE "column" 862,aE "sign" 863] 0)
def EI(_:aM):aJ:=eC av (ae) (dE (c9 "_law_column" "_law_column" 0 [] av av av av (ae) av av 0)) #[]
def Ee(_:aM):aJ:=bq "code" (du #[aE "_law_column" 857,aE "_law_column" 858,aE "/claim/cut.py" 859,ah 253 0,ah 2 0,ah 0 0,ah 0 0,ah 3 0,au 253,d7 ag,ah 276 0,au 254,av,au 255,au 256,au 257,ah 864 0,ah 253 0,aE "/claim/cut.py" 865])
def Hh(_:aM):aJ:=bq "function" (dE (c9 "_law_column" "_law_column" 3 [] av av av (aE "law_xt0018_01" 843) (ae) (au 258) av 0))
def Gz(_:aM):aJ:=eC av (ae) (dE (c9 "_law_witness" "_law_witness" 0 [] av av av av (ae) av av 0)) #[]
def Ff(_:aM):aJ:=bq "code" (du #[aE "_law_witness" 867,aE "_law_witness" 868,aE "/claim/cut.py" 869,ah 260 0,ah 2 0,ah 0 0,ah 0 0,ah 3 0,au 260,d7 ag,ah 276 0,au 261,av,av,av,au 262,ah 870 0,ah 260 0,aE "/claim/cut.py" 871])
def EK(_:aM):aJ:=bq "function" (dE (c9 "_law_witness" "_law_witness" 3 [] av av av (aE "law_xt0018_01" 843) (ae) (au 263) av 0))
def Ew(_:aM):aJ:=bq "tuple" (eD #[aE "table" 876,aE "costs" 877,aE "after" 878,aE "host" 879,aE "amount" 880,aE "stay" 881,aE "down" 882,aE "above" 883,aE "below" 884] 0)
def EW(_:aM):aJ:=eC av (ae) (dE (c9 "_law_step" "_law_step" 0 [] av av av av (ae) av av 0)) #[]
def Fu(_:aM):aJ:=bq "code" (du #[aE "_law_step" 873,aE "_law_step" 874,aE "/claim/cut.py" 875,ah 264 0,ah 2 0,ah 0 0,ah 0 0,ah 3 0,au 265,d7 ag,ah 276 0,au 266,av,au 267,au 268,au 269,ah 885 0,ah 264 0,aE "/claim/cut.py" 886])
def Et(_:aM):aJ:=bq "function" (dE (c9 "_law_step" "_law_step" 3 [] av av av (aE "law_xt0018_01" 843) (ae) (au 270) av 0))
def GB(_:aM):aJ:=eC av (ae) (dE (c9 "_law_determinant" "_law_determinant" 0 [] av av av av (ae) av av 0)) #[]
def G2(_:aM):aJ:=bq "code" (du #[aE "_law_determinant" 888,aE "_law_determinant" 889,aE "/claim/cut.py" 890,ah 275 0,ah 1 0,ah 0 0,ah 0 0,ah 3 0,au 272,d7 ag,ah 276 0,au 273,av,av,av,au 274,ah 891 0,ah 275 0,aE "/claim/cut.py" 892])
def EH(_:aM):aJ:=bq "function" (dE (c9 "_law_determinant" "_law_determinant" 3 [] av av av (aE "law_xt0018_01" 843) (ae) (au 275) av 0))
def MV(x0:aM):aJ:=bq "dict" (kH #[aq x0 "__name__" 165 (aE "law_xt0018_01" 843),aq x0 "__doc__" 166 av,aq x0 "__package__" 167 av,aq x0 "__loader__" 168 (bS "__main__.__loader__#opaque"),aq x0 "__spec__" 169 av,aq x0 "__annotations__" 170 (au 6),aq x0 "__builtins__" 171 (au 4),aq x0 "__file__" 173 (aE "/claim/cut.py" 172),aq x0 "__cached__" 174 av,aq x0 "_sre" 275 (au 12),aq x0 "_wall" 288 (au 38),aq x0 "_twin_re_8" 318 (au 43),aq x0 "unmatched" 327 (au 50),aq x0 "HEADER_TOKEN_RE" 375 (au 55),aq x0 "HEADER_QUOTED_VALUE_RE" 453 (au 60),aq x0 "HEADER_VALUE_RE" 508 (au 65),aq x0 "HEADER_ESCAPE_RE" 531 (au 70),aq x0 "split_header_words" 547 (au 77),aq x0 "HEADER_JOIN_TOKEN_RE" 576 (au 82),aq x0 "HEADER_JOIN_ESCAPE_RE" 604 (au 87),aq x0 "join_header_words" 616 (au 94),aq x0 "IPV4_RE" 646 (au 99),aq x0 "is_HDN" 653 (au 106),aq x0 "reach" 662 (au 113),aq x0 "add_callers" 675 (au 120),aq x0 "count_calls" 684 (au 127),aq x0 "Whitespace" 789 (au 189),aq x0 "format_witnesses" 798 (au 200),aq x0 "_raise_serialization_error" 807 (au 207),aq x0 "_escape_cdata" 814 (au 214),aq x0 "_escape_attrib" 821 (au 221),aq x0 "_escape_attrib_html" 828 (au 228),aq x0 "_escape_cdata_c14n" 835 (au 235),aq x0 "_escape_attrib_c14n" 842 (au 242),aq x0 "_law_reference" 850 (au 247),aq x0 "_law_value" 856 (au 252),aq x0 "_law_column" 866 (au 259),aq x0 "_law_witness" 872 (au 264),aq x0 "_law_step" 887 (au 271),aq x0 "_law_determinant" 893 (au 276),aq x0 "law" 899 (au 281)] 41)
def L9(_:aM):aJ:=eC av (ae) (du #[ah 2 0,ah 0 0,au 37,ah 7 0,ah 0 0,au 49,ah 14 0,ah 0 0,au 76,ah 53 0,ah 0 0,au 93,ah 68 0,ah 0 0,au 105,ah 76 0,ah 0 0,au 112,ah 85 0,ah 0 0,au 119,ah 98 0,ah 0 0,au 126,ah 104 0,ah 0 0,au 133,ah 165 0,ah 0 0,au 199,ah 172 0,ah 0 0,au 206,ah 174 0,ah 0 0,au 213,ah 185 0,ah 0 0,au 220,ah 204 0,ah 0 0,au 227,ah 215 0,ah 0 0,au 234,ah 228 0,ah 0 0,au 241,ah 246 0,ah 0 0,au 246,ah 249 0,ah 0 0,au 251,ah 253 0,ah 0 0,au 258,ah 260 0,ah 0 0,au 263,ah 264 0,ah 0 0,au 270,ah 275 0,ah 0 0,au 275,ah 279 0,ah 0 0,au 280]) #[]
def Jh(_:aM):aJ:=eC av (ae) (dE (c9 "law" "law" 0 [] av av av av (ae) av av 0)) #[]
def Kr(_:aM):aJ:=bq "code" (du #[aE "law" 894,aE "law" 895,aE "/claim/cut.py" 896,ah 279 0,ah 1 0,ah 0 0,ah 0 0,ah 3 0,au 277,d7 ag,ah 276 0,au 278,av,av,av,au 279,ah 897 0,ah 279 0,aE "/claim/cut.py" 898])
def IA(_:aM):aJ:=bq "function" (dE (c9 "law" "law" 3 [] av av av (aE "law_xt0018_01" 843) (ae) (au 280) av 0))
def DP(p:aM):List aJ:=[qd p,pG p,oW p,Cq p,oR p,pJ p,di p,aI p,bz p,oN p,pO p,YT p,pu p,oX p,oU p,aI p,pU p,oZ p,pd p,qb p,pK p,pe p,oP p,pb p,oY p,pj p,pV p,pZ p]
def oS(p:aM):List aJ:=[qd p,pG p,oW p,Cq p,oR p,pJ p,di p,aI p,bz p,oN p,pO p,qZ p,pu p,oX p,oU p,aI p,pU p,oZ p,pd p,qb p,pK p,pe p,oP p,pb p,oY p,pj p,pV p,pZ p]
def Ic(p:aM):List aJ:=[qd p,pG p,oW p,Cq p,oR p,pJ p,di p,aI p,bz p,oN p,pO p,qZ p,pu p,oX p,oU p,aI p,pU p,oZ p,pd p,qb p,pK p,pe p,oP p,pb p,oY p,pj p,pV p,pZ p,aI p,bz p,rp p,rq p]
def Gg(p:aM):List aJ:=[qd p,pG p,oW p,Cq p,oR p,pJ p,di p,aI p,bz p,oN p,pO p,qZ p,pu p,oX p,oU p,aI p,pU p,oZ p,pd p,qb p,pK p,pe p,oP p,pb p,oY p,pj p,pV p,pZ p,aI p,bz p,rp p,rq p]
def MQ(p:aM):List aJ:=[qd p,pG p,oW p,T4 p,oR p,pJ p,di p,aI p,bz p,oN p,pO p,qZ p,pu p,oX p,oU p,aI p,pU p,oZ p,pd p,qb p,pK p,pe p,oP p,pb p,oY p,pj p,pV p,pZ p,aI p,Zg p,rp p,rq p,aI p,bz p,uS p,aI p,ux p,uM p,ur p,vn p,di p,jM p,ug p,uR p,aI p,bz p,uQ p,aI p,ul p,uT p,tY p,uW p,di p,fR p,uB p,uo p,uj p,di p,fR p,vp p,uE p]
def IN(p:aM):List aJ:=[qd p,pG p,oW p,Rj p,oR p,pJ p,di p,aI p,bz p,oN p,pO p,qZ p,pu p,oX p,oU p,aI p,pU p,oZ p,pd p,qb p,pK p,pe p,oP p,pb p,oY p,pj p,pV p,pZ p,aI p,Zw p,rp p,rq p,aI p,bz p,uS p,aI p,ux p,uM p,ur p,vn p,di p,jM p,ug p,uR p,aI p,bz p,uQ p,aI p,ul p,uT p,tY p,uW p,di p,fR p,uB p,uo p,uj p,di p,fR p,vp p,uE p,wV p,di p,fR p,wm p,wx p,wS p,di p,fR p,wK p,w4 p,aI p,bz p,wg p,aI p,wz p,xu p,w3 p,xq p,di p,jM p,xi p,wq p,xn p,di p,fR p,wP p,wy p,aI p,bz p,vW p,aI p,w9 p,w7 p,xt p]
def yc(p:aM):List aJ:=[qd p,pG p,oW p,Qs p,oR p,pJ p,di p,aI p,bz p,oN p,pO p,qZ p,pu p,oX p,oU p,aI p,pU p,oZ p,pd p,qb p,pK p,pe p,oP p,pb p,oY p,pj p,pV p,pZ p,aI p,Wf p,rp p,rq p,aI p,bz p,uS p,aI p,ux p,uM p,ur p,vn p,di p,jM p,ug p,uR p,aI p,bz p,uQ p,aI p,ul p,uT p,tY p,uW p,di p,fR p,uB p,uo p,uj p,di p,fR p,vp p,uE p,wV p,di p,fR p,wm p,wx p,wS p,di p,fR p,wK p,w4 p,aI p,bz p,wg p,aI p,wz p,xu p,w3 p,xq p,di p,jM p,xi p,wq p,xn p,di p,fR p,wP p,wy p,aI p,bz p,vW p,aI p,w9 p,w7 p,xt p,yJ p,di p,jM p,ym p,yV p,aI p,bz p,yl p,aI p,yj p,yb p,zu p,aI p,bz p,yO p,aI p,zp p,yY p,yM p,aI p,bz p,yy p,aI p,zk p,xQ p,y9 p,aI p,bz p,y8 p,aI p,yf p,yA p,yQ p]
def yB(p:aM):List aJ:=[qd p,pG p,oW p,Se p,oR p,pJ p,di p,aI p,bz p,oN p,pO p,qZ p,pu p,oX p,oU p,aI p,pU p,oZ p,pd p,qb p,pK p,pe p,oP p,pb p,oY p,pj p,pV p,pZ p,aI p,Yj p,rp p,rq p,aI p,bz p,uS p,aI p,ux p,uM p,ur p,vn p,di p,jM p,ug p,uR p,aI p,bz p,uQ p,aI p,ul p,uT p,tY p,uW p,di p,fR p,uB p,uo p,uj p,di p,fR p,vp p,uE p,wV p,di p,fR p,wm p,wx p,wS p,di p,fR p,wK p,w4 p,aI p,bz p,wg p,aI p,wz p,xu p,w3 p,xq p,di p,jM p,xi p,wq p,xn p,di p,fR p,wP p,wy p,aI p,bz p,vW p,aI p,w9 p,w7 p,xt p,yJ p,di p,jM p,ym p,yV p,aI p,bz p,yl p,aI p,yj p,yb p,zu p,aI p,bz p,yO p,aI p,zp p,yY p,yM p,aI p,bz p,yy p,aI p,zk p,xQ p,y9 p,aI p,bz p,y8 p,aI p,yf p,yA p,yQ p,aI p,Cp p,Cj p,aI p,Cv p,Cr p,AB p,Ci p,aI p,Bg p,aI p,bz p,CN p,aI p,B6 p,BJ p,Cf p,aI p,bz p,BN p,aI p,Av p,A7 p,Bw p,aI p,bz p,Ct p,aI p,CU p,AO p,B0 p,aI p,bz p,Bh p,aI p,AM p,BP p,BR p,aI p,bz p,AV p,aI p,CI p,Aq p,Az p,aI p,bz p,BG p,aI p,CM p,Bx p,AZ p,aI p,bz p,AE p,aI p,BU p,CD p,CJ p,A4 p,AR p,AF p,A6 p,Be p,A9 p,BE p]
def Ju(p:aM):List aJ:=[qd p,pG p,oW p,Xc p,oR p,pJ p,di p,aI p,bz p,oN p,pO p,qZ p,pu p,oX p,oU p,aI p,pU p,oZ p,pd p,qb p,pK p,pe p,oP p,pb p,oY p,pj p,pV p,pZ p,aI p,Vs p,rp p,rq p,aI p,bz p,uS p,aI p,ux p,uM p,ur p,vn p,di p,jM p,ug p,uR p,aI p,bz p,uQ p,aI p,ul p,uT p,tY p,uW p,di p,fR p,uB p,uo p,uj p,di p,fR p,vp p,uE p,wV p,di p,fR p,wm p,wx p,wS p,di p,fR p,wK p,w4 p,aI p,bz p,wg p,aI p,wz p,xu p,w3 p,xq p,di p,jM p,xi p,wq p,xn p,di p,fR p,wP p,wy p,aI p,bz p,vW p,aI p,w9 p,w7 p,xt p,yJ p,di p,jM p,ym p,yV p,aI p,bz p,yl p,aI p,yj p,yb p,zu p,aI p,bz p,yO p,aI p,zp p,yY p,yM p,aI p,bz p,yy p,aI p,zk p,xQ p,y9 p,aI p,bz p,y8 p,aI p,yf p,yA p,yQ p,aI p,Cp p,Cj p,aI p,Cv p,Cr p,AB p,Ci p,aI p,Bg p,aI p,bz p,CN p,aI p,B6 p,BJ p,Cf p,aI p,bz p,BN p,aI p,Av p,A7 p,Bw p,aI p,bz p,Ct p,aI p,CU p,AO p,B0 p,aI p,bz p,Bh p,aI p,AM p,BP p,BR p,aI p,bz p,AV p,aI p,CI p,Aq p,Az p,aI p,bz p,BG p,aI p,CM p,Bx p,AZ p,aI p,bz p,AE p,aI p,BU p,CD p,CJ p,A4 p,AR p,AF p,A6 p,Be p,A9 p,BE p,aI p,bz p,FM p,aI p,FX p,D7 p,Eh p,aI p,bz p,Dr p,aI p,Gp p,Gw p,FA p,aI p,bz p,Gm p,aI p,EM p,G1 p,GL p,aI p,bz p,EA p,aI p,DF p,DC p,Fv p,aI p,bz p,DA p,aI p,DK p,DL p,Fe p,aI p,bz p,FI p,aI p,FG p,Gy p,GH p,aI p,bz p,GV p,aI p,D1 p,Ek p,G3 p,aI p,bz p,Fd p,GJ p,GD p,aI p,bz p,F9 p,Fq p,D5 p,aI p,bz p,DV p,aI p,EI p,Ee p,Hh p,aI p,bz p,Gz p,Ff p,EK p,aI p,bz p,Ew p,aI p,EW p,Fu p,Et p,aI p,bz p,GB p,G2 p,EH p]
def Jr(p:aM):List aJ:=[qd p,pG p,oW p,MV p,oR p,pJ p,di p,aI p,bz p,oN p,pO p,qZ p,pu p,oX p,oU p,aI p,pU p,oZ p,pd p,qb p,pK p,pe p,oP p,pb p,oY p,pj p,pV p,pZ p,aI p,L9 p,rp p,rq p,aI p,bz p,uS p,aI p,ux p,uM p,ur p,vn p,di p,jM p,ug p,uR p,aI p,bz p,uQ p,aI p,ul p,uT p,tY p,uW p,di p,fR p,uB p,uo p,uj p,di p,fR p,vp p,uE p,wV p,di p,fR p,wm p,wx p,wS p,di p,fR p,wK p,w4 p,aI p,bz p,wg p,aI p,wz p,xu p,w3 p,xq p,di p,jM p,xi p,wq p,xn p,di p,fR p,wP p,wy p,aI p,bz p,vW p,aI p,w9 p,w7 p,xt p,yJ p,di p,jM p,ym p,yV p,aI p,bz p,yl p,aI p,yj p,yb p,zu p,aI p,bz p,yO p,aI p,zp p,yY p,yM p,aI p,bz p,yy p,aI p,zk p,xQ p,y9 p,aI p,bz p,y8 p,aI p,yf p,yA p,yQ p,aI p,Cp p,Cj p,aI p,Cv p,Cr p,AB p,Ci p,aI p,Bg p,aI p,bz p,CN p,aI p,B6 p,BJ p,Cf p,aI p,bz p,BN p,aI p,Av p,A7 p,Bw p,aI p,bz p,Ct p,aI p,CU p,AO p,B0 p,aI p,bz p,Bh p,aI p,AM p,BP p,BR p,aI p,bz p,AV p,aI p,CI p,Aq p,Az p,aI p,bz p,BG p,aI p,CM p,Bx p,AZ p,aI p,bz p,AE p,aI p,BU p,CD p,CJ p,A4 p,AR p,AF p,A6 p,Be p,A9 p,BE p,aI p,bz p,FM p,aI p,FX p,D7 p,Eh p,aI p,bz p,Dr p,aI p,Gp p,Gw p,FA p,aI p,bz p,Gm p,aI p,EM p,G1 p,GL p,aI p,bz p,EA p,aI p,DF p,DC p,Fv p,aI p,bz p,DA p,aI p,DK p,DL p,Fe p,aI p,bz p,FI p,aI p,FG p,Gy p,GH p,aI p,bz p,GV p,aI p,D1 p,Ek p,G3 p,aI p,bz p,Fd p,GJ p,GD p,aI p,bz p,F9 p,Fq p,D5 p,aI p,bz p,DV p,aI p,EI p,Ee p,Hh p,aI p,bz p,Gz p,Ff p,EK p,aI p,bz p,Ew p,aI p,EW p,Fu p,Et p,aI p,bz p,GB p,G2 p,EH p,aI p,bz p,Jh p,Kr p,IA p]
def pX(p:aM):List aJ:=[qd p,pG p,oW p,MV p,oR p,pJ p,di p,aI p,bz p,oN p,pO p,qZ p,pu p,oX p,oU p,aI p,pU p,oZ p,pd p,qb p,pK p,pe p,oP p,pb p,oY p,pj p,pV p,pZ p,aI p,L9 p,rp p,rq p,aI p,bz p,uS p,aI p,ux p,uM p,ur p,vn p,di p,jM p,ug p,uR p,aI p,bz p,uQ p,aI p,ul p,uT p,tY p,uW p,di p,fR p,uB p,uo p,uj p,di p,fR p,vp p,uE p,wV p,di p,fR p,wm p,wx p,wS p,di p,fR p,wK p,w4 p,aI p,bz p,wg p,aI p,wz p,xu p,w3 p,xq p,di p,jM p,xi p,wq p,xn p,di p,fR p,wP p,wy p,aI p,bz p,vW p,aI p,w9 p,w7 p,xt p,yJ p,di p,jM p,ym p,yV p,aI p,bz p,yl p,aI p,yj p,yb p,zu p,aI p,bz p,yO p,aI p,zp p,yY p,yM p,aI p,bz p,yy p,aI p,zk p,xQ p,y9 p,aI p,bz p,y8 p,aI p,yf p,yA p,yQ p,aI p,Cp p,Cj p,aI p,Cv p,Cr p,AB p,Ci p,aI p,Bg p,aI p,bz p,CN p,aI p,B6 p,BJ p,Cf p,aI p,bz p,BN p,aI p,Av p,A7 p,Bw p,aI p,bz p,Ct p,aI p,CU p,AO p,B0 p,aI p,bz p,Bh p,aI p,AM p,BP p,BR p,aI p,bz p,AV p,aI p,CI p,Aq p,Az p,aI p,bz p,BG p,aI p,CM p,Bx p,AZ p,aI p,bz p,AE p,aI p,BU p,CD p,CJ p,A4 p,AR p,AF p,A6 p,Be p,A9 p,BE p,aI p,bz p,FM p,aI p,FX p,D7 p,Eh p,aI p,bz p,Dr p,aI p,Gp p,Gw p,FA p,aI p,bz p,Gm p,aI p,EM p,G1 p,GL p,aI p,bz p,EA p,aI p,DF p,DC p,Fv p,aI p,bz p,DA p,aI p,DK p,DL p,Fe p,aI p,bz p,FI p,aI p,FG p,Gy p,GH p,aI p,bz p,GV p,aI p,D1 p,Ek p,G3 p,aI p,bz p,Fd p,GJ p,GD p,aI p,bz p,F9 p,Fq p,D5 p,aI p,bz p,DV p,aI p,EI p,Ee p,Hh p,aI p,bz p,Gz p,Ff p,EK p,aI p,bz p,Ew p,aI p,EW p,Fu p,Et p,aI p,bz p,GB p,G2 p,EH p,aI p,bz p,Jh p,Kr p,IA p]
set_option backward.match.sparseCases true
noncomputable def vX:Nat->List aJ->Nat->Nat->BT
 |0,_,_,_=>.nil
 |n+1,os,a,b=>match os[b]? with
  |some o=>.node o (vX n os (2*a) (a+b)) (vX n os (2*a) (2*a+b))
  |none=>.nil
noncomputable def yI:Life:=Life.mk [] [] [] 0 [] [] am #[] [] 0 am am am 0 [2000,10,10] am 0 Bool.true [] [] 0 am
noncomputable abbrev wF:Drawn:=⟨0,0,0,0⟩
noncomputable abbrev j4:eF:=⟨0,0,0,0⟩
def BX:List bY:=behindTheImports fE
def nW:gX:=Env.mk fE.main.scope mainNs mainNs [] Str.empty ae (.ref 30) (ac 31) 0
abbrev il:Code:=.body BX nW
noncomputable abbrev kc:Option aF:=ac (.ref 6)
abbrev i4(l:aM->List aJ)(n k:Nat)(w:b7)(os:dl):SharedT:=⟨vX 10 (l w.params) 1 0,n,yI,#[],wF,k,os⟩
abbrev ml(l:aM->List aJ)(P:aM):cY:=⟨⟨l P⟩,yI⟩
abbrev qG(l:aM->List aJ)(k:Nat)(w:b7)(os:dl):aC:=⟨ml l w.params,#[],wF,k,os⟩
def iZ(i k:Nat):List bY:=(BX.drop i).take k
theorem pC:kK=PySem.W.Fast.tw14364793385576792824:=PySem.W.Fast.te14364793385576792824
theorem uD:@so=@PySem.W.Fast.tw10110043849684766642:=PySem.W.Fast.te10110043849684766642
theorem P2:@segRun=@PySem.W.Fast.tw14374325043358763698:=PySem.W.Fast.te14374325043358763698
theorem T5:@topGo=@PySem.W.Fast.tw15667345088766844465:=PySem.W.Fast.te15667345088766844465
theorem Zv:@topRun=@PySem.W.Fast.tw14082659384304107361:=PySem.W.Fast.te14082659384304107361
theorem YO:@importEnds=@PySem.W.Fast.tw10274390034422433532:=PySem.W.Fast.te10274390034422433532
theorem Y1:@denote=@PySem.W.Fast.tw11892475500146522536:=PySem.W.Fast.te11892475500146522536
theorem Zf:@fenceModules?= @PySem.W.Fast.tw14289696077712309145:=PySem.W.Fast.te14289696077712309145
theorem WJ:@openSeen=@PySem.W.Fast.tw4187177175401517315:=PySem.W.Fast.te4187177175401517315
theorem Nt:@OB=@PySem.W.Fast.tw5923862056798008813:=PySem.W.Fast.te5923862056798008813
theorem Zx(w:b7):importEnds kK (opening fE) w 799 (start (opening fE)).1 (start (opening fE)).2=ac ⟨absHeap (vX 10 (DP w.params) 1 0) 28 yI,#[],wF,276,(start (opening fE)).1.os⟩:=by
 rw [YO,pC];left
theorem Ti(w:b7):(λos=>topGo kK fE w 28 kc 12 (qG oS 276 w os) (topStub fE))=λos=>ac (qG Ic 282 w os,aaW (denote kK il) il j4 [oI j4]):=by
 rw [T5,Y1,pC];left
theorem Tf(w:b7):(λos=>segRun kK fE w 28 kc 1 1 (qG Ic 282 w os) (blockOf BX nW il j4 [oI j4]))=λos=>ac (.next,(i4 Gg 32 282 w os).abs,il,j4):=by
 rw [P2,pC];left
theorem WN(w:b7):(λos=>so kK fE w 28 kc 1 353 (i4 Gg 32 282 w os) (tP (iZ 0 6) nW il j4 [oI j4]))=λos=>ac (.next,i4 MQ 61 454 w os,il,⟨11,0,11,22⟩):=by
 rw [uD,pC];left
theorem V2(w:b7):(λos=>so kK fE w 28 kc 1 380 (i4 MQ 61 454 w os) (tP (iZ 6 6) nW il ⟨11,0,11,22⟩ [oI j4]))=λos=>ac (.next,i4 IN 95 617 w os,il,⟨53,0,66,29⟩):=by
 rw [uD,pC];left
theorem PR(w:b7):(λos=>so kK fE w 28 kc 1 216 (i4 IN 95 617 w os) (tP (iZ 12 7) nW il ⟨53,0,66,29⟩ [oI j4]))=λos=>ac (.next,i4 yc 128 687 w os,il,⟨103,0,103,8⟩):=by
 rw [uD,pC];left
theorem T9(w:b7):(λos=>so kK fE (w.withFollow "special-get-raises" am) 28 kc 1 496 (i4 yc 128 687 (w.withFollow "special-get-raises" am) os) (tP (iZ 19 1) nW il ⟨103,0,103,8⟩ [oI j4]))=λos=>ac (.next,i4 yB 194 790 (w.withFollow "special-get-raises" am) os,il,⟨104,0,164,16⟩):=by
 rw [uD,pC];left
theorem O2(w:b7):(λos=>so kK fE (w.withFollow "special-get-raises" ag) 28 kc 1 496 (i4 yc 128 687 (w.withFollow "special-get-raises" ag) os) (tP (iZ 19 1) nW il ⟨103,0,103,8⟩ [oI j4]))=λos=>ac (.next,i4 yB 194 790 (w.withFollow "special-get-raises" ag) os,il,⟨104,0,164,16⟩):=by
 rw [uD,pC];left
theorem SI(w:b7):(λos=>so kK fE w 28 kc 1 496 (i4 yc 128 687 w os) (tP (iZ 19 1) nW il ⟨103,0,103,8⟩ [oI j4]))=λos=>ac (.next,i4 yB 194 790 w os,il,⟨104,0,164,16⟩):=
 byRow2 "special-get-raises" (P:=λw=>(λos=>so kK fE w 28 kc 1 496 (i4 yc 128 687 w os) (tP (iZ 19 1) nW il ⟨103,0,103,8⟩ [oI j4]))=λos=>ac (.next,i4 yB 194 790 w os,il,⟨104,0,164,16⟩)) T9 O2 w
theorem Zn(w:b7):(λos=>so kK fE w 28 kc 1 397 (i4 yB 194 790 w os) (tP (iZ 20 15) nW il ⟨104,0,164,16⟩ [oI j4]))=λos=>ac (.next,i4 Ju 277 894 w os,il,⟨275,0,278,130⟩):=by
 rw [uD,pC];left
theorem Q9(w:b7):(λos=>so kK fE w 28 kc 1 27 (i4 Ju 277 894 w os) (tP (iZ 35 1) nW il ⟨275,0,278,130⟩ [oI j4]))=λos=>ac (.next,i4 Jr 282 900 w os,il,⟨279,0,341,31⟩):=by
 rw [uD,pC];left
theorem Sk(w:b7):(λos=>topRun kK fE w 28 kc 2 (i4 Jr 282 900 w os).abs (aaW (doneF .next) il ⟨279,0,341,31⟩ [oI j4]))=λos=>ac (qG pX 900 w os):=by
 rw [Zv,pC];left
theorem Vu(w:b7):(λos=>(fenceModules? fE ⟨absHeap (vX 10 (DP w.params) 1 0) 28 yI,#[],wF,276,os⟩).map (λs=>(s.heap,s.gens,s.drawn,s.toks)))=λ_=>ac (ml oS w.params,#[],wF,276):=by
 rw [Zf];left
theorem RJ:∀w:b7,(fencedOpening kK fE w 3852).map (λs=>(s.heap,s.gens,s.drawn,s.toks))=ac (ml oS w.params,#[],wF,276):=
 open_cut (p:=fE) (N:=3852) (M:=799) (He:=λP=>absHeap (vX 10 (DP P) 1 0) 28 yI) (H₀:=ml oS) Zx (by decide) Vu
theorem TZ(w:b7):((ml oS w.params).isNs j9&&(#[]:Array HL).size==0,(ml oS w.params).objs.size,(ml oS w.params).nsMap j9 "__annotations__")=(ag,28,kc):=by left
theorem Te:BX=iZ 0 6++(iZ 6 6++(iZ 12 7++(iZ 19 1++(iZ 20 15++(iZ 35 1++[]))))):=by left
theorem UI(w:b7)(os:dl):topRun kK fE w 28 kc (353+(380+(216+(496+(397+(27+2)))))) (i4 Gg 32 282 w os).abs (restOf (iZ 0 6++(iZ 6 6++(iZ 12 7++(iZ 19 1++(iZ 20 15++(iZ 35 1++[])))))) nW il j4 [oI j4])=ac (qG pX 900 w os):=
 Ag (Ah (congrFun (WN w) os)) (Ag (Ah (congrFun (V2 w) os)) (Ag (Ah (congrFun (PR w) os)) (Ag (Ah (congrFun (SI w) os)) (Ag (Ah (congrFun (Zn w) os)) (Ag (Ah (congrFun (Q9 w) os)) (piece_nil (congrFun (Sk w) os)))))))
theorem SX(w:b7)(os:dl):topRun kK fE w 28 kc (12+(1+(353+(380+(216+(496+(397+(27+2)))))))) (qG oS 276 w os) (topStub fE)=ac (qG pX 900 w os):=
 go_top (congrFun (Ti w) os) (piece_block (congrFun (Tf w) os) (Te▸UI w os))
def w0:nH:={fE with main:={fE.main with body:=[0,1,3,4,5,6,7,8,9,10,11,12,13,14,15,17,18,20,21,23,24,25,26,27,28,30,31,32,33,34,35,36].filterMap λi=>fE.main.body[i]?}}
noncomputable def Bq:List aL:=[fi "_twin_re_8",fi "HEADER_TOKEN_RE",fi "HEADER_QUOTED_VALUE_RE",fi "HEADER_VALUE_RE",fi "HEADER_ESCAPE_RE",fi "HEADER_JOIN_TOKEN_RE",fi "HEADER_JOIN_ESCAPE_RE",fi "IPV4_RE",fi "Whitespace"]
noncomputable abbrev zv:RowW:=(OpenLaw.row aaX).toRowW
abbrev Ja:aC->Bool:=λs=>xlAt w0 [] s&&recOk (RowW.records zv) s
def qT(P:aM):Frag:=(bP 282).zip (pX P)
theorem RH(w:b7):(λos:dl=>openSeen w0 Bq (OB fE.main.body) Ja ag (qG pX 900 w os))=λ_=>openGood w0 Bq:=by
 rw [WJ,Nt];left
theorem To(w:b7):(λos:dl=>staticsOk (OB fE.main.body) (ml oS w.params) (ml pX w.params)&&namesBound fE (ml pX w.params)&&gensDone (qG pX 900 w os)&&laidKept (ml oS w.params) (ml pX w.params))=λ_=>ag:=by
 rw [Nt];left
theorem TV(w:b7):(λos:dl=>X.obsZ (bP 282) (qG pX 900 w os))=λ_=>X.valZ qT 282 900 w:=by left
theorem abB:LeftO fE w0 Bq Ja (X.obsZ (bP 282)) (X.valZ qT 282 900) 3852 ag:=
 LeftO.of_pieces (H₀:=ml oS) (H₁:=ml pX) RJ TZ SX (by decide) λw=>funext λos=>looks_pair (congrFun (To w) os) (looks_pair (congrFun (RH w) os) (congrFun (TV w) os))
noncomputable abbrev ao(x:String):aL:=fi x
def cw(x:String):t8:=⟨(((pq x).getD default).1.args).map (·.arg),((pq x).getD default).2.1,((pq x).getD default).2.2.names⟩
def ms:List (Nat×t8):=[(50,cw "unmatched"),(77,cw "split_header_words"),(94,cw "join_header_words"),(106,cw "is_HDN"),(113,cw "reach"),(120,cw "add_callers"),(127,cw "count_calls"),(144,cw "__init__"),(151,cw "longest_run_of_spaces"),(158,cw "indent_level"),(179,cw "less"),(186,cw "not_less_witness"),(200,cw "format_witnesses"),(214,cw "_escape_cdata"),(221,cw "_escape_attrib"),(228,cw "_escape_attrib_html"),(235,cw "_escape_cdata_c14n"),(242,cw "_escape_attrib_c14n"),(247,cw "_law_reference"),(252,cw "_law_value"),(259,cw "_law_column"),(264,cw "_law_witness"),(271,cw "_law_step"),(276,cw "_law_determinant"),(281,cw "law")]
def E4:List (aL×Nat):=[(ao "longest_run_of_spaces",151),(ao "indent_level",158),(ao "less",179),(ao "not_less_witness",186)]
def yz:List aL:=[ao "raw",ao "n",ao "nt",ao "norm",ao "is_simple"]
def JY:List (aL×iw):=[(ao "HEADER_TOKEN_RE",.pat .tok),(ao "HEADER_QUOTED_VALUE_RE",.pat .quo),(ao "HEADER_VALUE_RE",.pat .val),(ao "HEADER_ESCAPE_RE",.pat .esc),(ao "_twin_re_8",.pat .junk),(ao "IPV4_RE",.pat .ip4),(ao "HEADER_JOIN_TOKEN_RE",.pat .jtok),(ao "HEADER_JOIN_ESCAPE_RE",.pat .jesc),
 (ao "unmatched",.fn 50),(ao "split_header_words",.fn 77),(ao "join_header_words",.fn 94),(ao "is_HDN",.fn 106),(ao "reach",.fn 113),(ao "add_callers",.fn 120),(ao "count_calls",.fn 127),(ao "Whitespace",.cls),(ao "format_witnesses",.fn 200),(ao "_escape_cdata",.fn 214),(ao "_escape_attrib",.fn 221),(ao "_escape_attrib_html",.fn 228),(ao "_escape_cdata_c14n",.fn 235),(ao "_escape_attrib_c14n",.fn 242),
 (ao "_law_reference",.fn 247),(ao "_law_value",.fn 252),(ao "_law_column",.fn 259),(ao "_law_witness",.fn 264),(ao "_law_step",.fn 271),(ao "_law_determinant",.fn 276),
 (ao "len",.bf .len),(ao "sum",.bf .sum),(ao "max",.bf .max),(ao "isinstance",.bf .isinstance),(ao "range",.bf .range),(ao "list",.bf .list),(ao "tuple",.bf .tuple),(ao "str",.bf .str)]
def rQ(p:fM):Nat:=@fM.rec (λO=>Nat) 55 60 65 70 82 87 43 99 p
def sA(h:iw):aF:=@iw.rec (λO=>aF) wa (λp=>.ref (rQ p)) (λk=>.ref (dL 50 (λO=>k) (jk k ms))) (.ref 189) h
def oi(lam:aK->Option T)(sp:Nat->List ak->Option ak)(ns:List ak->Option ak):eQ where
 glob:=JY
 fns:=ms
 meths:=E4
 statics:=[(ao "S",.str [32] 1),(ao "T",.str [9] 1)]
 attrs:=yz
 init:=144
 lam:=lam
 spec:=sp
 nspec:=ns
noncomputable def pY:List (Nat×Nat×String):=[(49,45,"unmatched"),(76,72,"split_header_words"),(93,89,"join_header_words"),(105,101,"is_HDN"),(112,108,"reach"),(119,115,"add_callers"),(126,122,"count_calls"),(143,139,"Whitespace.__init__"),(150,146,"Whitespace.longest_run_of_spaces"),(157,153,"Whitespace.indent_level"),(178,174,"Whitespace.less"),(185,181,"Whitespace.not_less_witness"),(199,195,"format_witnesses"),(213,209,"_escape_cdata"),(220,216,"_escape_attrib"),(227,223,"_escape_attrib_html"),(234,230,"_escape_cdata_c14n"),(241,237,"_escape_attrib_c14n"),(246,244,"_law_reference"),(251,249,"_law_value"),(258,254,"_law_column"),(263,261,"_law_witness"),(270,266,"_law_step"),(275,273,"_law_determinant"),(280,278,"law")]
noncomputable def mX(p:eF):Bool:=bt p.line 29||Nat.beq p.line 60
def nv(t:Nat×Nat×String):yt:=⟨t.1,t.2.1,ao t.2.2++".<locals>.",λpos=>ao t.2.2++".<locals>."++ @aN (λO=>aL) "<genexpr>" "<lambda>" (mX pos)⟩
def dJ(P:aM):Frag:=(qT P).filter λp=> !(pY.any λt=>bt p.1 t.2.1)
def bL(w:b7)(os:dl)(lam:aK->Option T)(sp:Nat->List ak->Option ak)(ns:List ak->Option ak):cg where
 prog:=xI
 w:=w
 F0:=λa=>(dJ w.params).lookup a
 tabs:=pY.map nv
 os:=os
 val:=sA
 wh:=189
 cx:=oi lam sp ns
theorem wU{w:b7}{os:dl}{lam:aK->Option T}{sp:Nat->List ak->Option ak}{ns:List ak->Option ak}{h:cY}(x:je (bL w os lam sp ns) h):(dJ w.params).In h:=λa o e=>x a o e
theorem E5{α:Type}{a:α}(l:List (Nat×α)):jk k l=ac a->(k,a)∈l:=by
 induction l with
 |nil=>exact λh=>aW h
 |cons p r ih=>
  intro h;change@aN (λO=>Option α) (jk k r) (ac p.2) (bt k p.1)=ac a at h;cases q:bt k p.1 with
  |true=>
   rw [q]at h;have e:p.2=a:=eJ h;refine af (f0 q) (af e.symm ?_);exact ck
  |false=>rw [q]at h;exact cW _ (ih h)
theorem JO(P:aM):(ms.all λp=>keepIn (dJ P) (.ref p.1)&&aaY (dJ P) (.ref p.1))=ag:=by left
theorem Rk(k:Nat):keepIn (dJ P) (sA (.fn k))=ag:=by
 refine(?_:keepIn (dJ P) (.ref (@dL t8 (λO=>Nat) 50 (λO=>k) (jk k ms)))=ag);cases q:jk k ms with
 |none=>exact(cZ.mp (eV.mp (JO P) (50,cw "unmatched") ck)).1
 |some f=>exact(cZ.mp (eV.mp (JO P) (k,f) (E5 _ q))).1
theorem Ry(P:aM):keepIn (dJ P) (.ref 189)=ag:=by left
theorem UO{w:b7}(hd:iw)(np:∀p,hd≠.pat p)(M:lq)(x:(dJ w.params).In h):∃k,(k=aaD\/k=aaE\/k=aaF)/\Looks M h (keeperOf (sA hd)) k:=by
 induction hd using iw.casesOn with
 |bf b=>exact⟨.machine,.inr (.inl rfl),Looks.of_pure (by induction b using oM.casesOn<;>rfl)⟩
 |pat p=>exact absurd rfl (np p)
 |fn k=>exact keeps_K (Rk k) h x
 |cls=>exact keeps_K (Ry _) h x
theorem PK(P:aM):(E4.all λp=>Ai (dJ P) (.ref 189) p.1==ac (ac (.ref p.2))&&(aaY (dJ P) (.ref p.2)&&(match jk p.2 ms with|some _=>ag|none=>am)))=ag:=by left
theorem GE(P:aM):Ai (dJ P) (.ref 189) "__getattribute__"=ac (ac (.builtin "object.__getattribute__"))/\Ai (dJ P) (.ref 189) "__getattr__"=ac ae:=⟨by left,by left⟩
set_option backward.match.sparseCases false
theorem Bm{w:b7}{os:dl}{lam:aK->Option T}{sp:Nat->List ak->Option ak}{ns:List ak->Option ak}{s:aC}{x dx:bw}{es:List qj}{j:Nat}(h1:s.heap.get? x=ac (jr (bL w os lam sp ns) dx))(h2:s.heap.get? dx=ac (j6 es j)):InstAt s.heap x (jr (bL w os lam sp ns) dx) 189 (ac (j6 es j)):=⟨h1,rfl,rfl,h2⟩
theorem Nq(h:jk k ms=ac f):sA (.fn k)=.ref k:=by
 refine(?_:j7 (@dL t8 (λO=>Nat) 50 (λO=>k) (jk k ms))=_);exact af h rfl
theorem Rz{w:b7}{os:dl}{lam:aK->Option T}{sp:Nat->List ak->Option ak}{ns:List ak->Option ak}{s:aC}{A:cH}{x dx:bw}{es:List qj}{j:Nat}{name:aL}{f:Nat}(X:(dJ w.params).In s.heap)(h1:s.heap.get? x=ac (jr (bL w os lam sp ns) dx))(h2:s.heap.get? dx=ac (j6 es j))(hm:ba name E4=ac f)(hl:oH name es=ac ae)(pl:gw Bool)(Q:aF×List aF->aC->Prop)(hq:Q (sA (.fn f),[.ref x]) s){Er:aF->aC->Prop}:aG (aQ xI w) A (HG (.ref x) name pl) Q Er s:=by
 have e:=eV.mp (PK w.params) (name,f) (v9 _ hm);refine ay (cZ.mp e) λe1 e2=>?_;refine ay (cZ.mp e2) λe2 e3=>?_;have ef:sA (.fn f)=.ref f:=by
  cases q:jk f ms with
  |none=>rw [q]at e3;exact bR e3
  |some g=>exact Nq q
 rw [ef]at hq;exact method_fn X (Bm h1 h2) (GE _).1 (GE _).2 (beq_iff_eq.mp e1) (beq_iff_eq.mp e2) (by refine(?_:(lookIn name (j6 es j)).map _=_);rw [OC,hl];rfl) hq
theorem L3(P:aM):readsIn (dJ P) 189 (.type "type")=ag:=by left
theorem Kg(P:aM):findCls (dJ P) (.ref 189) (.type "type") (ao "S")=ac (.val (.str (ao " ") 700))/\findCls (dJ P) (.ref 189) (.type "type") (ao "T")=ac (.val (.str (ao "\t") 701)):=⟨by left,by left⟩
theorem QT{w:b7}{os:dl}{lam:aK->Option T}{sp:Nat->List ak->Option ak}{ns:List ak->Option ak}{s:aC}{A:cH}{y:aL}{d:ak}(X:(dJ w.params).In s.heap)(hd:ba y (oi lam sp ns).statics=ac d)(e:Bool)(Q:aF->aC->Prop)(hq:∀v k,(∀F:bn,aH (bL w os lam sp ns) F v d)->Q v {s with toks:=k}){Er:aF->aC->Prop}:aG (aQ xI w) A (vK (.ref 189) y e) Q Er s:=by
 have hm:=v9 _ hd;rcases cI.mp hm with e|hm
 ·cases e
  exact cls_value X (L3 _) (Kg _).1 rfl (hq _ _ λF=>⟨700,rfl,by decide,by intro c hc;refine af (dm.mp hc) ?_;decide⟩)
 ·have e:=dm.mp hm
  cases e;exact cls_value X (L3 _) (Kg _).2 rfl (hq _ _ λF=>⟨701,rfl,by decide,by intro c hc;refine af (dm.mp hc) ?_;decide⟩)
theorem ye(P:aM):(yz.all λy=>Ai (dJ P) (.ref 189) y==ac ae)=ag/\hasDictIn (dJ P) 189=ag/\plainOver (dJ P) 189=ag:=⟨by left,by left,by left⟩
theorem WZ{w:b7}{os:dl}{lam:aK->Option T}{sp:Nat->List ak->Option ak}{ns:List ak->Option ak}{s:aC}{A:cH}{x dx:bw}{es:List qj}{j:Nat}{name:aL}{v:aF}(X:(dJ w.params).In s.heap)(h1:s.heap.get? x=ac (jr (bL w os lam sp ns) dx))(h2:s.heap.get? dx=ac (j6 es j))(ha:has name yz=ag)(hl:oH name es=ac (ac v))(hv:zY v=ag)(e:Bool)(Q:aF->aC->Prop)(hq:∀k,Q v {s with toks:=k}){Er:aF->aC->Prop}:aG (aQ xI w) A (vK (.ref x) name e) Q Er s:=by
 have hf:=beq_iff_eq.mp (eV.mp (ye w.params).1 name ((yW _).mp ha));exact get_value X (Bm h1 h2) (GE _).1 (findObj_own (ye _).2.1 hf rfl (by rw [OC,hl])) hv (hq _)
theorem RX(es:List qj):(vI name hs k v es).length<=es.length+1:=by
 induction es with
 |nil=>exact bZ _
 |cons e r ih=>
  unfold vI;split
  ·exact mK _
  ·exact sg ih
theorem Wq(P:aM):Ai (dJ P) (.ref 189) "__setattr__"=ac (ac (.builtin "object.__setattr__")):=by left
theorem TF{w:b7}{os:dl}{lam:aK->Option T}{sp:Nat->List ak->Option ak}{ns:List ak->Option ak}{s:aC}{A:cH}{x dx:bw}{es:List qj}{j:Nat}{name:aL}{v:aF}{tk:fh}{R:vG->aC->Prop}(X:(dJ w.params).In s.heap)(h1:s.heap.get? x=ac (jr (bL w os lam sp ns) dx))(h2:s.heap.get? dx=ac (j6 es j))(ha:has name yz=ag)(hl:(oH name es).isSome=ag)(hz:es.length<=900)(hq:∀h',h'.get? dx=ac (j6 (vI name (Dn w.params name) (.str name s.toks) v es) (putN name es j))->mO dx s.heap h'->R (.ok (.ret .none)) {s with heap:=h',toks:=s.toks+1}):
  lr (aQ xI w) A (.call (.builtin "object.__setattr__") ⟨[.ref x,.str name tk,v],[]⟩) R s:=by
 have hf:=beq_iff_eq.mp (eV.mp (ye w.params).1 name ((yW _).mp ha));have I:InstAt s.heap x (jr (bL w os lam sp ns) dx) 189 (ac (j6 es j)):=Bm h1 h2;refine osa_open (r:=ae) X I (ye _).2.2 (by unfold takerIn;rw [hf];rfl) λb=>?_;refine aw (any_some (ye w.params).2.1) λcd q1'=>ay q1' λhc hd'=>?_;clear q1';have D':(s.heap.update dx (Obj.putName name (Dn w.params name) (.str name s.toks) v)).get? dx=ac (j6 (vI name (Dn w.params name) (.str name s.toks) v es) (putN name es j)):=by
  rw [<-putName_dict];exact z8 _ h2 (by rw [putName_dict];rfl)
 have fin:=hq _ D' (xD ..);refine bv (cq (bv (bv (wpAny_loadPart h1 (bv ((looks_clsIn X hc).here ?_))))));refine af hd' ?_;refine cq (a:=ac dx) (bv (cq (bv ?_)));unfold nsSet;refine bv (bv (wpAny_askSetting (cq (bv (wpAny_mkText (bv (wpAny_loadPart h2 ?_)))))));have hl2:(lookIn name (j6 es j)).isSome=ag:=by rw [OC];exact hl
 unfold lookIn j6 at hl2;dsimp only at hl2;have c:(!es.toArray.any (·.key.isStr name)&&es.toArray.any (·.refKey))=am:=by
  refine af aaZ.symm (af aaZ.symm ?_);split at hl2
  ·rename_i en he
   refine af (HP.mpr ⟨en,List.mem_of_find?_eq_some he,List.find?_some he⟩) ?_;rfl
  ·split at hl2
   ·exact bR hl2
   ·rename_i z;rw [Bool.not_eq_true]at z;rw [z,OD]
 dsimp only [j6];rw [aRefKeyMayBeTheName_at,c];refine wpAny_updatePart h2 ?_;refine bv (wpAny_lookBehind D' (pastItsLine_dict (by refine af eO (af sizeLine_eq ?_);have:=@RX name (Dn w.params name) (.str name s.toks) v es;lia)) ?_);exact cq fin
theorem Sr{w:b7}{os:dl}{lam:aK->Option T}{sp:Nat->List ak->Option ak}{ns:List ak->Option ak}{s:aC}{A:cH}{x dx:bw}{es:List qj}{j:Nat}{name:aL}{v:aF}(X:(dJ w.params).In s.heap)(h1:s.heap.get? x=ac (jr (bL w os lam sp ns) dx))(h2:s.heap.get? dx=ac (j6 es j))(ha:has name yz=ag)(hl:(oH name es).isSome=ag)(hz:es.length<=900)(Q:Unit->aC->Prop)(hq:∀h' hsh t j' tk,h'.get? dx=ac (j6 (vI name hsh (.str name t) v es) j')->mO dx s.heap h'->s.toks<=tk->Q () {s with heap:=h',toks:=tk}){Er:aF->aC->Prop}:
  aG (aQ xI w) A (setAttr (.ref x) name v) Q Er s:=
 set_plain X (Bm h1 h2) (Wq _) (TF (s:={s with toks:=s.toks+1}) X h1 h2 ha hl hz λh' D' hs=>hq h' _ _ _ _ D' hs (mS _ 2))
def XZ(l:List (aL×dh)):Bool:=l.all λp=> !pk p.2
noncomputable def MJ(k:dh):Bool:=match k with|.local=>ag|.cell=>ag|_=>am
def Pi(l:List (aL×dh))(x:aL):Bool:=@dL dh (λO=>Bool) am MJ (ba x l)
theorem WK(h:@dL dh (λO=>Bool) am MJ o=ag):o=ac .local\/o=ac .cell:=by
 induction o using kC with
 |none=>exact bR h
 |some k=>induction k using jb<;>first|exact .inl rfl|exact .inr rfl|exact bR h
def LG(n:String):Bool:=pM (cw n).names&&(wi (cw n).names&&(XZ (cw n).names&&((cw n).params.all (Pi (cw n).names)&&(!((pq n).getD default).2.2.isCoroutine&&(!((pq n).getD default).2.2.isGenerator&&Mine.isFn ((pq n).getD default).2.2.kind)))))
def MH(cd:aF)(q:String):Bool:=pY.any λt=>(match cd with|.ref a=>bt a t.1|_=>am)&&(q==t.2.2)
theorem ZB{w:b7}{os:dl}{lam:aK->Option T}{sp:Nat->List ak->Option ak}{ns:List ak->Option ak}{k:Nat}{n q:String}{pm cd:aF}(h0:jk k ms=ac (cw n))(h1:(dJ w.params).lookup k=ac ⟨.type "function",ae,.func (c9 n q 3 [] .none .none .none pm ae cd .none 0),#[]⟩)(h2:LG n=ag)(h3:codeIn (dJ w.params) cd (ao q)=ag)(h4:∀vals:List aF,vals.length=(cw n).params.length->HN (c9 n q 3 [] .none .none .none pm ae cd .none 0) ⟨vals,[]⟩=pure ((cw n).params.zip vals))(h5:(cw n).params.Nodup)(h6:MH cd q=ag):sF (bL w os lam sp ns) k (cw n) k (c9 n q 3 [] .none .none .none pm ae cd .none 0):=by
 refine ay (cZ.mp h2) λc1 c=>?_;refine ay (cZ.mp c) λc2 c=>?_;refine ay (cZ.mp c) λc3 c=>?_;refine ay (cZ.mp c) λc4 c=>?_;refine ay (cZ.mp c) λc5 c=>?_;refine ay (cZ.mp c) λc6 c7=>?_;refine⟨Nq h0,⟨_,h1,rfl⟩,rfl,rfl,rfl,rfl,rfl,(Do _).mp c5,(Do _).mp c6,?_,h4,λh X=>codeRec_of (wU X) h3,c1,c2,λx e=>?_,λx hx=>?_,h5,?_⟩
 ·refine(?_:((pq n).getD default).2.2.kind=.function)
  cases aB:((pq n).getD default).2.2.kind<;>first|rfl|(rw [aB]at c7;exact bR c7)
 ·have:=eV.mp c3 _ (v9 _ e)
  exact bR this
 ·have:=eV.mp c4 x hx
  exact WK this
 ·refine aw (HP.mp h6) λt q2'=>ay q2' λht e=>?_;clear q2'
  refine ay (cZ.mp e) λe1 e2=>?_;refine⟨nv t,OE ht,?_,?_⟩
  ·induction cd using vA<;>first|exact bR e1|skip
   rename_i a;refine(?_:j7 a=.ref t.1);exact af (f0 e1) rfl
  ·refine(?_:ao q++_=ao t.2.2++_)
   exact af (show q=t.2.2 from beq_iff_eq.mp e2) rfl
def Jx(l:List aL):Bool:=bt l.length 2&& !d8 (l.getD 0 "") (l.getD 1 "")
noncomputable def rO:List (Nat×String×Bool×Nat):=[(50,"unmatched",am,0),(77,"split_header_words",am,0),(94,"join_header_words",am,0),(106,"is_HDN",am,0),(113,"reach",am,0),(120,"add_callers",am,1),(127,"count_calls",am,1),(144,"__init__",ag,2),(151,"longest_run_of_spaces",ag,2),(158,"indent_level",ag,2),(179,"less",ag,2),(186,"not_less_witness",ag,2),(200,"format_witnesses",am,2),(214,"_escape_cdata",am,3),(221,"_escape_attrib",am,3),(228,"_escape_attrib_html",am,3),(235,"_escape_cdata_c14n",am,3),(242,"_escape_attrib_c14n",am,3),(247,"_law_reference",am,4),(252,"_law_value",am,4),(259,"_law_column",am,4),(264,"_law_witness",am,4),(271,"_law_step",am,4),(276,"_law_determinant",am,4),(281,"law",am,4)]
def FY(t:Nat×String×Bool×Nat):String:=aN t.2.1 ("Whitespace."++t.2.1) t.2.2.1
def PQ(k:Nat):aF:=match k with|0=>.str (ao "cpy313.http.cookiejar") 289|1=>.str (ao "cpy313.pstats") 663|2=>.str (ao "cpy313.tabnanny") 685|3=>.str (ao "cpy313.xml.etree.ElementTree") 799|_=>.str (ao "law_xt0018_01") 843
def FB(t:Nat×String×Bool×Nat):xH:=c9 t.2.1 (FY t) 3 [] .none .none .none (PQ t.2.2.2) ae (.ref (t.1-1)) .none 0
def wR(t:Nat×String×Bool×Nat):Nat:=(cw t.2.1).params.length
theorem Xw:ms=rO.map λt=>(t.1,cw t.2.1):=by left
theorem VJ:(rO.map λt=>jk t.1 ms)=rO.map λt=>ac (cw t.2.1):=by left
theorem WU(P:aM):(rO.map λt=>(dJ P).lookup t.1)=rO.map λt=>ac ⟨.type "function",ae,.func (FB t),#[]⟩:=by left
theorem QA(P:aM):(rO.all λt=>LG t.2.1&&(codeIn (dJ P) (.ref (t.1-1)) (ao (FY t))&&(MH (.ref (t.1-1)) (FY t)&&(bt (wR t) 1||Jx (cw t.2.1).params))))=ag:=by left
theorem YG:(rO.map λt v u=>HN (FB t) ⟨[v,u].take (wR t),[]⟩)=rO.map λt v u=>pure ((cw t.2.1).params.zip ([v,u].take (wR t))):=by left
theorem MN{α:Type}{l:List α}(h:l.length=2):∃x y,l=[x,y]:=by
 refine bV (List.exists_cons_of_length_eq_add_one h) λx t e=>?_;rw [e]at h;exact aw (OF.mp (xy h)) λy e2=>⟨x,y,e.trans (congrArg _ e2)⟩
theorem Vt(h:Jx l=ag):∃x y,l=[x,y]/\x≠y:=by
 refine ay (cZ.mp h) λh1 h2=>bV (MN (f0 h1)) λx y e=>⟨x,y,e,λq=>?_⟩;rw [e]at h2;have h2:(!d8 x y)=ag:=h2;rw [jq.mpr q]at h2;exact bR h2
theorem EC{w:b7}{os:dl}{lam:aK->Option T}{sp:Nat->List ak->Option ak}{ns:List ak->Option ak}{t:Nat×String×Bool×Nat}(ht:t∈rO):sF (bL w os lam sp ns) t.1 (cw t.2.1) t.1 (FB t):=by
 refine ay (cZ.mp (eV.mp (QA w.params) t ht)) λc1 c=>ay (cZ.mp c) λc2 c=>ay (cZ.mp c) λc3 c4=>?_;have c4:wR t=1\/∃x y,(cw t.2.1).params=[x,y]/\x≠y:=(OG.mp c4).imp f0 Vt;refine ZB (vQ.mp VJ t ht) (vQ.mp (WU w.params) t ht) c1 c2 (λvals hl=>?_) ?_ c3
 ·have b:=vQ.mp YG t ht
  have hl:vals.length=wR t:=hl;rcases c4 with c4|⟨x,y,e,O⟩
  ·rw [c4]at hl b
   refine aw (OF.mp hl) λv z1=>?_;exact af z1 (congrFun (congrFun b v) v)
  ·have c4:wR t=2:=congrArg fF e
   rw [c4]at hl b;exact bV (MN hl) λv u e=>af e (congrFun (congrFun b v) u)
 ·rcases c4 with c4|⟨x,y,e,hne⟩
  ·refine aw (OF.mp c4) λx e=>?_
   exact af e (vH.mpr ⟨oE,.nil⟩)
  ·exact af e (vH.mpr ⟨λh=>hne (dm.mp h),vH.mpr ⟨oE,.nil⟩⟩)
theorem QW{w:b7}{os:dl}{lam:aK->Option T}{sp:Nat->List ak->Option ak}{ns:List ak->Option ak}:∃fd,sF (bL w os lam sp ns) 144 (cw "__init__") 144 fd:=⟨_,EC (t:=(144,"__init__",ag,2)) (by decide)⟩
theorem TA{w:b7}{os:dl}{lam:aK->Option T}{sp:Nat->List ak->Option ak}{ns:List ak->Option ak}:∃fd,sF (bL w os lam sp ns) 200 (cw "format_witnesses") 200 fd:=⟨_,EC (t:=(200,"format_witnesses",am,2)) (by decide)⟩
theorem Zl{w:b7}{os:dl}{lam:aK->Option T}{sp:Nat->List ak->Option ak}{ns:List ak->Option ak}:∀p∈ms,∃fd,sF (bL w os lam sp ns) p.1 p.2 p.1 fd:=λp hp=>by
 rw [Xw]at hp;refine aw (jD.mp hp) λt q=>ay q λht e=>?_;exact af e.symm ⟨_,EC ht⟩
set_option backward.match.sparseCases true
def v6(P:aM)(x:aL)(v:aF):Bool:=nsIn (dJ P) 3 x==ac (ac v)||(nsIn (dJ P) 3 x==ac ae&&nsIn (dJ P) 0 x==ac (ac v))
theorem Xu(P:aM):(JY.all λp=>v6 P p.1 (sA p.2))=ag:=by left
theorem PJ(P:aM):v6 P "enumerate" (.type "enumerate")=ag:=by left
theorem Ij{w:b7}{s:aC}{Q:aF->aC->Prop}(X:(dJ w.params).In s.heap)(e:v6 w.params x v=ag)(eo:rg c)(q:Q v s):aG M A (zQ c.env x) Q Er s:=by
 unfold zQ;refine af eo.globals (af eo.builtins ?_);rcases OG.mp e with e|e
 ·refine bv ((Aj X (beq_iff_eq.mp e)).here ?_)
  exact cq q
 ·refine ay (cZ.mp e) λe1 e2=>?_
  refine bv ((Aj X (beq_iff_eq.mp e1)).here ?_);refine bv ((Aj X (beq_iff_eq.mp e2)).here ?_);exact cq q
theorem Zo(P:aM):∃o,(dJ P).lookup vr=ac o:=Option.isSome_iff_exists.mp (by left:((dJ P).lookup vr).isSome=ag)
theorem S8(hd:iw):zY (sA hd)=ag:=by
 induction hd using iw.casesOn with
 |bf b=>induction b using oM.casesOn<;>first|rfl|left
 |_=>rfl
theorem SN{w:b7}{os:dl}{lam:aK->Option T}{sp:Nat->List ak->Option ak}{ns:List ak->Option ak}:rj (bL w os lam sp ns)where
 glob:=λx hd e c s M A Q Er X eo q=>Ij (w:=w) X (eV.mp (Xu w.params) (x,hd) (v9 _ e)) eo q
 enum:=λc s M A Q Er X eo q=>Ij (w:=w) X (PJ w.params) eo q
 sysm:=Zo w.params
 handed:=S8
theorem Sz{w:b7}{os:dl}{lam:aK->Option T}{sp:Nat->List ak->Option ak}{ns:List ak->Option ak}:rF (bL w os lam sp ns)where
 set:=λA s a dx es j name v X h1 h2 ha hl hz Q hq=>Sr (w:=w) X h1 h2 ha hl hz Q hq
 get:=λA s a dx es j name v X h1 h2 ha hl hv e Q hq=>WZ (w:=w) X h1 h2 ha hl hv e Q hq
theorem Qj{w:b7}{os:dl}{lam:aK->Option T}{sp:Nat->List ak->Option ak}{ns:List ak->Option ak}:tW (bL w os lam sp ns)where
 keeps:=λhd np M h X=>UO (w:=w) hd np M X
 bf:=λO=>rfl
 meth:=λA s a dx es j name f X h1 h2 hm hl pl Q hq=>Rz (w:=w) X h1 h2 hm hl pl Q hq
 stat:=λA s a d X hd e Q hq=>QT (w:=w) (os:=os) X hd e Q hq
theorem PX(P:aM):makesIn (dJ P) 189=ag:=by left
theorem KO(P:aM):Ai (dJ P) (.ref 189) "__init__"=ac (ac (.ref 144))/\typeIn (dJ P) (.ref 144)=ac (.type "function"):=⟨by left,by left⟩
theorem YS{w:b7}{os:dl}{lam:aK->Option T}{sp:Nat->List ak->Option ak}{ns:List ak->Option ak}:AK (bL w os lam sp ns)where
 val:=rfl
 makes:=λh X=>makes_of (wU X) (PX _)
 init:=⟨144,by
  refine aw (@QW w os lam sp ns) λfd fa=>?_;exact fa.val,λh X=>⟨looks_findIn (wU X) (KO _).1,λself=>bind_fn (wU X) self (KO _).2⟩⟩
theorem Zq{w:b7}{os:dl}{lam:aK->Option T}{sp:Nat->List ak->Option ak}{ns:List ak->Option ak}(lm:∀h,je (bL w os lam sp ns) h->h.NoLimit):uv (bL w os lam sp ns)where
 fn:=λk f h=>⟨k,by
  have e:=@Zl w os lam sp ns (k,f) (E5 _ h);exact e⟩
 lim:=lm
noncomputable def Gh(o:Option aJ):Bool:=match o with
 |some o=>(match o.data with|.dict es _=>es.all (λe=>match e.key with|.str _ _=>ag|_=>am)&&(nsFind es "sys.recursionlimit").isNone|_=>am)
 |none=>am
theorem VO{h:cY}(x:Gh (h.get? Ak)=ag):h.noLimitOk=ag:=by
 unfold Heap.noLimitOk Heap.isNs OH;cases q:h.get? Ak with
 |none=>rw [q]at x;exact bR x
 |some o=>
  rw [q]at x;dsimp only [Gh]at x⊢;cases q:o.data<;>rw [q]at x<;>first|exact x|exact bR x
theorem Rf(P:aM):Gh ((dJ P).lookup Ak)=ag:=by left
theorem Ch{w:b7}{os:dl}{lam:aK->Option T}{sp:Nat->List ak->Option ak}{ns:List ak->Option ak}:∀h,je (bL w os lam sp ns) h->h.NoLimit:=λh X=>.of_ok (VO (by
 have e:=Rf w.params;cases q:(dJ w.params).lookup Ak with
 |none=>rw [q]at e;exact bR e
 |some o=>rw [q]at e;refine af (wU X _ _ q) ?_;exact e))
theorem IF{w:b7}{os:dl}{lam:aK->Option T}{sp:Nat->List ak->Option ak}{ns:List ak->Option ak}:uv (bL w os lam sp ns):=Zq Ch
theorem MS(P:aM):bP 282=(qT P).map (·.1):=by left
noncomputable def FH(o:Option aJ)(P:Nat):Bool:=match o with
 |some o=>(match o.cls with|.type t=>t=="code"|_=>am)&&(match o.data with
  |.fields vs=>(match vs.getD 11 .none with|.ref a=>bt a P|_=>am)&&((match vs.getD 18 .none with|.str _ _=>ag|_=>am)&&((match vs.getD 7 .none with|.int _ _=>ag|_=>am)&&((match vs.getD 9 .none with|.bool _=>ag|_=>am)&&(match vs.getD 10 .none with|.int _ _=>ag|_=>am))))
  |_=>am)
 |none=>am
theorem YW{v:aF}{f:Nat->Bool}(h:(match v with|.ref a=>f a|_=>am)=ag):∃a,v=.ref a/\f a=ag:=by induction v using vA<;>first|exact bR h|exact⟨_,rfl,h⟩
theorem Yh{v:aF}(h:(match v with|.str _ _=>ag|_=>am)=ag):∃a b,v=.str a b:=by induction v using vA<;>first|exact bR h|exact⟨_,_,rfl⟩
theorem LV{v:aF}(h:(match v with|.int _ _=>ag|_=>am)=ag):∃a b,v=.int a b:=by induction v using vA<;>first|exact bR h|exact⟨_,_,rfl⟩
theorem UN{v:aF}(h:(match v with|.bool _=>ag|_=>am)=ag):∃a,v=.bool a:=by induction v using vA<;>first|exact bR h|exact⟨_,rfl⟩
theorem ZJ{v:aF}{f:String->Bool}(h:(match v with|.type t=>f t|_=>am)=ag):∃a,v=.type a/\f a=ag:=by induction v using vA<;>first|exact bR h|exact⟨_,rfl,h⟩
theorem Vl{v:Data}{f:Array aF->Bool}(h:(match v with|.fields t=>f t|_=>am)=ag):∃a,v=.fields a/\f a=ag:=by induction v using Data.casesOn<;>first|exact bR h|exact⟨_,rfl,h⟩
theorem XF{h:cY}(x:FH (h.get? c) P=ag)(hP:h.get? P=ac {cls:=.none,data:=.fields #[]})(ne:c≠P):h.IsCode c P #[]/\h.TableAt c P #[]:=by
 cases q:h.get? c with
 |none=>rw [q]at x;exact bR x
 |some o=>
  rw [q]at x;refine ay (cZ.mp x) λx1 x2=>aw (ZJ x1) λt x1=>ay x1 λbC x1=>aw (Vl x2) λvs x2=>ay x2 λq2 x2=>?_;refine ay (cZ.mp x2) λy1 x2=>ay (cZ.mp x2) λy2 x2=>ay (cZ.mp x2) λy3 x2=>ay (cZ.mp x2) λy4 y5=>?_;refine aw (YW y1) λa y1=>ay y1 λz1 y1=>bV (Yh y2) λa2 b2 z2=>bV (LV y3) λa3 b3 z3=>aw (UN y4) λa4 z4=>bV (LV y5) λa5 b5 z5=>?_;have z1:=af (P:=λy=>vs.getD 11 .none=.ref y) (f0 y1).symm z1;refine⟨⟨o,vs,_,_,_,_,_,_,_,_,q,q2,z1,z2,z3,z4,z5,hP,rfl,trivial,ne⟩,⟨o,vs,q,af bC (af (beq_iff_eq.mp x1) rfl),q2,?_⟩,hP⟩;have g:vs.getD 11 .none=(vs[11]?).getD .none:=q9;rw [g]at z1;cases z6:vs[11]? with
  |none=>rw [z6]at z1;cases z1
  |some v=>rw [z6]at z1;exact congrArg _ z1
theorem Vh(P:aM):(pY.all λt=>FH ((dJ P).lookup t.1) t.2.1&&(!bt t.1 t.2.1&& !bt t.2.1 282))=ag:=by left
theorem Ro(P:aM):pY.map (λt=>((qT P).lookup t.2.1,(dJ P).lookup t.2.1))=pY.map λO=>(ac {cls:=.none,data:=.fields #[]},ae):=by left
theorem UJ(P:aM):(dJ P).lookup 282=ae:=by left
theorem QJ{h:cY}{ee:eF->aL}(x:FH o P=ag)(e:o=F c)(sat:∀a o,F a=ac o->h.get? a=ac o)(hn:F P=ae)(hP:h.get? P=ac {cls:=.none,data:=.fields #[]})(ne:c≠P):sD F h ⟨c,P,q,ee⟩:=by
 cases z:o with
 |none=>rw [z]at x;exact bR x
 |some p=>
  rw [z]at e x;have y:=@XF c P h (by refine af (sat c p e.symm) ?_;exact x) hP ne;exact⟨hn,⟨p,e.symm⟩,#[],y.1,y.2,λpos c' hc=>aW hc⟩
theorem LM{α:Type}{v:α}{p:Nat×α->Bool}:∀{l:List (Nat×α)},(l.map (·.1)).Nodup->(l.filter p).lookup a=ac v->l.lookup a=ac v
 |[],_,e=>aW e
 |(b,x)::l,nd,e=>by
  have nd':=vH.mp nd;rw [OI]at e;have mem:∀{l:List (Nat×α)},l.lookup a=ac v->a∈l.map (·.1):=λ{l}=>by
   induction l with
   |nil=>exact λh=>aW h
   |cons q l ih=>
    intro h;rw [zO]at h;cases r:a==q.1 with
    |true=>refine af (beq_iff_eq.mp r) ?_;exact .head _
    |false=>rw [r]at h;exact .tail _ (ih h)
  have sub:(l.filter p).lookup a=ac v->l.lookup a=ac v:=LM nd'.2;refine af zO ?_;cases q:p (b,x)with
  |true=>
   rw [q,if_pos rfl,zO]at e;cases r:a==b with
   |true=>rw [r]at e;exact e
   |false=>rw [r]at e;exact sub e
  |false=>
   rw [q]at e;have e':=sub e;cases r:a==b with
   |true=>exact absurd (beq_iff_eq.mp r▸mem e') nd'.1
   |false=>exact e'
noncomputable def AT(o:Option aJ)(x:aL):Option aF:=match o with
 |some o=>(match o.data with|.dict es _=>nsFind es x|_=>ae)
 |none=>ae
theorem Uq(P:aM):(match AT ((qT P).lookup j9) (fi "law")with|some (.ref a)=>bt a 281|_=>am)=ag:=by left
theorem Rx(x:(qT P).In h)(e:h.nsMap j9 (fi "law")=ac (.ref fa)):fa=281:=by
 have c:=Uq P;cases q:(qT P).lookup j9 with
 |none=>rw [q]at c;exact bR c
 |some o=>
  have g:h.nsMap j9 (fi "law")=AT (ac o) (fi "law"):=by unfold OH AT;refine af (x _ _ q) ?_;rfl
  rw [q,<-g,e]at c;exact f0 c
def yU(ns:List Int):List ak:=ns.map λi=>.int i (dW i)
theorem Rc(h:IntsAre vs ns):br G F vs (yU ns):=by
 induction h with
 |nil=>exact .nil
 |cons n t _ ih=>exact .cons (aH.int (yx n)) ih
theorem SS{r:RowW}{s₁ s':aC}(hr:∀cls,r.claim.raises args cls=am)(hp:r.claim.post args (.bool ag) args=ag)(ho:OldK s₁.heap s'.heap)(h1:s'.os=s₁.os)(h2:tJ s'.gens):GoodWG r.claim cl mean args s₁ (.ok (.ret (.bool ag))) s':=
 ⟨.inl ⟨_,.bool ag,[],rfl,hr,ReadsW.bool _,hp,λO=>⟨List.nodup_nil,nofun⟩⟩,ho,h1,h2⟩
theorem LD(args:List WData):(∀cls,zv.claim.raises args cls=am)/\zv.claim.post args (.bool ag) args=ag:=⟨λcls=>by left,by left⟩
theorem RK(p:Pass G F s F' s')(ht:∀q∈G.tabs,s.heap.get? q.P=ac {cls:=.none,data:=.fields #[]}/\isCodeTable s.heap q.P):OldK s.heap s'.heap:=by
 have tb:∀q∈G.tabs,∃vs,s'.heap.get? q.P=ac {cls:=.none,data:=.fields vs}:=λq hq=>let⟨_,_,ps,_,t,_⟩:=p.ok.tabs q hq;⟨ps,t.2⟩;refine⟨λb o e=>?_,λb o e=>?_⟩
 ·by_cases h:∃q∈G.tabs,q.P=b
  ·refine aw h λq q2'=>ay q2' λhq z1=>?_;clear h q2';subst z1
   refine ay (ht q hq) λe' ct=>?_;rw [e]at e';cases e';refine aw (tb q hq) λvs z=>?_;exact .inr (.inl ⟨ct,rfl,#[],vs,rfl,by exact af z (af Array.empty_append rfl)⟩)
  ·exact .inl (p.keep b o e λq hq ne=>h ⟨q,hq,ne⟩)
 ·by_cases h:∃q∈G.tabs,q.P=b
  ·refine aw h λq q1'=>ay q1' λhq z1=>?_;clear h q1';subst z1
   refine aw (tb q hq) λvs z=>?_;exact⟨_,z⟩
  ·exact⟨o,p.keep b o e λq hq ne=>h ⟨q,hq,ne⟩⟩
noncomputable def Au:Nat:=100
noncomputable def JX:Nat:=81
theorem abK(Z:∀w os,pR (bL w os lam sp ns) JX)(pl:∀is:List Int,is.length<=63->(run (oi lam sp ns) Au).call 281 [.list (yU is)]=ac (.bool ag)){d:DefRec}(hn:d.name=fi "law"):
  WalkX w0 Bq (XL w0 []) (X.obsZ (bP 282)) (X.valZ qT 282 900) zv d kwd λf vs=>PySem.call f vs:=by
 intro w s₀ s₁ mg mb G y fa o pm cd doc pp kV ho hd hcd hD hmg hg args vals as L hpre hlay hrd hwl hlo
 wrow_args hpre hlay hrd hwl hlo
 obtain⟨hat,hsz⟩:=X.script_at L;have F:=X.z_facts MS y;have htk:=X.script_toks L F.2.2.2;rw [F.2.2.1]at hat hsz;subst hat;have hI:=‹IntsAre _ _›;have hL:=X.script_obj L ‹_›;have hlen:=‹¬(63:Int)<_›;have KX:(qT w.params).In s₁.heap:=InK.keeps w _ _ F.2.1 L.keeps;have Km:∀a o,(dJ w.params).lookup a=ac o->s₁.heap.get? a=ac o:=λa o e=>KX a o (LM (by rw [<-MS];exact List.nodup_range) e);have hfa:fa=281:=Rx KX (by refine af hn.symm (af G.T.g.eq_nsMap.symm ?_);exact hmg);subst hfa;have tn:=UJ w.params;have sat0:∀a o,(bL w s₁.os lam sp ns).F0 a=ac o->s₁.heap.get? a=ac o:=Km;have TT:∀t∈pY,s₁.heap.get? t.2.1=ac {cls:=.none,data:=.fields #[]}/\t.2.1≠282/\sD (bL w s₁.os lam sp ns).F0 s₁.heap (nv t):=λt ht=>by
  obtain⟨c1,c2⟩:=cZ.mp (eV.mp (Vh w.params) t ht);obtain⟨c2,c3⟩:=cZ.mp c2;have e:=vQ.mp (Ro w.params) t ht;have hP:=KX _ _ (rc e).1;exact⟨hP,λq=>by(rw [q]at c3;exact bR c3),QJ c1 rfl sat0 (rc e).2 hP λq=>by rw [q,Dk]at c2;exact bR c2⟩
 let F1:bn:=λa=>if a=282 then s₁.heap.get? 282 else(bL w s₁.os lam sp ns).F0 a;have le1:cJ (bL w s₁.os lam sp ns).F0 F1:=λa o e=>by
  by_cases q:a=282
  ·subst q;rw [show(bL w s₁.os lam sp ns).F0 282=ae from tn]at e;exact aW e
  ·refine(?_:(if a=282 then _ else _)=_);refine af (if_neg q) ?_;exact e
 have sat1:∀a o,F1 a=ac o->s₁.heap.get? a=ac o:=λa o e=>by
  by_cases q:a=282
  ·subst q;exact e
  ·have e:(if a=282 then _ else _)=ac o:=e;rw [if_neg q]at e;exact sat0 a o e
 have tb1:∀{p:yt},p.P≠282->sD (bL w s₁.os lam sp ns).F0 s₁.heap p->sD F1 s₁.heap p:=λ{p} ne t=>by
  obtain⟨t1,⟨oc,t2⟩,ps,t3,t4,t5⟩:=t;refine⟨by show(if _ then _ else _)=_;refine af (if_neg ne) ?_;exact t1,⟨oc,le1 _ _ t2⟩,ps,t3,t4,λpos c' hc=>?_⟩;obtain⟨a,o,vs,t,e1,e2,e3⟩:=t5 pos c' hc;exact⟨a,o,vs,t,e1,le1 _ _ e2,e3⟩
 have tabsIn:∀(P:yt->Prop),(∀t∈pY,P (nv t))->∀p∈(bL w s₁.os lam sp ns).tabs,P p:=λP h p hp=>by
  obtain⟨t,ht,rfl⟩:=jD.mp hp;exact h t ht
 have fok:bD (bL w s₁.os lam sp ns) F1 s₁:=⟨le1,sat1,tabsIn _ λt ht=>tb1 (TT t ht).2.1 (TT t ht).2.2,rfl,.of_eq hg,kA (by decide) htk⟩;have rd:br (bL w s₁.os lam sp ns) F1 [.ref 282] [.list (yU _)]:=.cons (aH.list (show(if 282=282 then s₁.heap.get? 282 else _)=_ by refine af (if_pos rfl) ?_;exact hL) (Rc hI)) .nil;have room:bX (Au+JX) callerA:=⟨rfl,by decide,by decide⟩;have H:=(Cy (Z w s₁.os) Au).call callerA F1 s₁ 281 [.ref 282] _ _ room fok rd (pl _ (by omega));refine Ac (zZ (H:lr _ _ (.call (.ref 281) _) _ _) λr s' h=>?_);obtain⟨v,rfl,F2,le2,ps,hv⟩:=h;have hv:v=.bool ag:=hv;subst hv;exact SS (r:=zv) (LD _).1 (LD _).2 (RK ps (tabsIn _ λt ht=>⟨(TT t ht).1,let⟨_,_,_,_,z,_⟩:=(TT t ht).2.2;z.isCodeTable⟩)) ps.ok.os ps.ok.gens
set_option backward.match.sparseCases false
noncomputable def bF(st:bY):List bY:=match st with
 |.For _ _ b _ _=>b
 |.While _ b _ _=>b
 |.If _ b _ _=>b
 |.Try b _ _ _ _=>b
 |_=>[]
noncomputable def jX(st:bY):List bY:=match st with
 |.If _ _ e _=>e
 |_=>[]
noncomputable def bl(st:bY):aK:=match st with
 |.For _ it _ _ _=>it
 |.While t _ _ _=>t
 |.If t _ _ _=>t
 |.Assign _ e _=>e
 |.Return (ac e) _=>e
 |.Expr e _=>e
 |.AugAssign _ _ e _=>e
 |_=>.Constant .none 0 default
noncomputable def gu(st:bY):aK:=match st with
 |.For t _ _ _ _=>t
 |.Assign (t::_) _ _=>t
 |.AugAssign t _ _ _=>t
 |_=>.Constant .none 0 default
noncomputable def ir(st:bY):eF:=match st with
 |.For _ _ _ _ p=>p
 |.While _ _ _ p=>p
 |.If _ _ _ p=>p
 |.Try _ _ _ _ p=>p
 |.Assign _ _ p=>p
 |.Return _ p=>p
 |.Expr _ p=>p
 |_=>default
noncomputable def EQ(st:bY):List ExceptHandler:=match st with
 |.Try _ hs _ _ _=>hs
 |_=>[]
noncomputable def cV(e:aK):eF:=match e with
 |.BoolOp _ _ p=>p
 |.BinOp _ _ _ p=>p
 |.IfExp _ _ _ p=>p
 |.Dict _ _ p=>p
 |.ListComp _ _ _ p=>p
 |.Compare _ _ _ p=>p
 |.Call _ _ _ p=>p
 |.Attribute _ _ p=>p
 |.Subscript _ _ p=>p
 |.Name _ p=>p
 |.List _ p=>p
 |.Tuple _ _ p=>p
 |_=>default
abbrev Wa(st:bY):Prop:=(st,nU (bl st))=(Stmt.For (gu st) (bl st) (bF st) [] (ir st),am)
abbrev BQ(st:bY):Prop:=st=.If (bl st) (bF st) (jX st) (ir st)
abbrev MO(st:bY):Prop:=st=.While (bl st) (bF st) [] (ir st)
abbrev LX(st:bY):Prop:=(st,eW (EQ st))=(Stmt.Try (bF st) (EQ st) [] [] (ir st),am)
abbrev GP(st:bY):Prop:=st=.Return (ac (bl st)) (ir st)
abbrev Gk(C:eQ)(E:bQ)(sc:cC)(σ:aA)(x:aL)(st:bY):Prop:=(st,nR E sc σ (bl st),nh C E sc σ (bl st),ty (bl st))=(Dp [.Name x (cV (gu st))] (bl st) (ir st),ae,ae,ag)
abbrev Vd(E:bQ)(sc:cC)(σ:aA)(x:aL)(st:bY):Prop:=(st,nR E sc σ (bl st))=(Dp [.Name x (cV (gu st))] (bl st) (ir st),ae)
noncomputable def cP(l:List bY)(i:Nat):bY:=l.getD i (.Pass default)
theorem uO{α β:Type}{a a':α}{b b':β}(h:(a,b)=(a',b')):a=a'/\b=b':=rc h
theorem tG{α β γ:Type}{a a':α}{b b':β}{c c':γ}(h:(a,b,c)=(a',b',c')):a=a'/\b=b'/\c=c':=⟨(rc h).1,uO (rc h).2⟩
theorem yp{α β γ δ:Type}{a a':α}{b b':β}{c c':γ}{d d':δ}(h:(a,b,c,d)=(a',b',c',d')):a=a'/\b=b'/\c=c'/\d=d':=⟨(rc h).1,tG (rc h).2⟩
theorem Up{α β γ δ ε:Type}{a a':α}{b b':β}{c c':γ}{d d':δ}{e e':ε}(h:(a,b,c,d,e)=(a',b',c',d',e')):a=a'/\b=b'/\c=c'/\d=d'/\e=e':=⟨(rc h).1,yp (rc h).2⟩
theorem Gn{α:Type}{l:List α}(h:eW l=ag):l=[]:=by induction l using dD with
 |nil=>rfl
 |cons _ _=>exact bR h
theorem js:b9 E sc [] σ=ac (.next,σ):=rfl
theorem cf{E:bQ}{sc:cC}{σ σ1:aA}{st:bY}{ss:List bY}{r:Option (cQ×aA)}(h:E.ex sc σ st=ac (.next,σ1))(k:b9 E sc ss σ1=r):b9 E sc (st::ss) σ=r:=by
 refine(?_:ob (E.ex sc σ st) _=_);refine af h ?_;exact k
theorem mh{E:bQ}{sc:cC}{σ σ1:aA}{st:bY}{ss:List bY}{d:ak}(h:E.ex sc σ st=ac (.ret d,σ1)):b9 E sc (st::ss) σ=ac (.ret d,σ1):=by
 refine(?_:ob (E.ex sc σ st) _=_);refine af h ?_;rfl
theorem AQ{C:eQ}{E:bQ}{sc:cC}{σ σ1:aA}{st:bY}{r:Option (cQ×aA)}{b:Bool}(hs:BQ st)(h:E.ts sc σ (bl st)=ac (b,σ1))(k:b9 E sc (aN (jX st) (bF st) b) σ1=r):(step C E).ex sc σ st=r:=by
 unfold BQ at hs;generalize bl st=e at*;generalize bF st=y at*;generalize jX st=z at*;generalize ir st=p at*;subst hs;refine(?_:ob (E.ts sc σ e) _=_);refine af h ?_;induction b using hO<;>exact k
theorem nG{C:eQ}{E:bQ}{sc:cC}{σ σ1:aA}{st:bY}{r:Option (cQ×aA)}{d:ak}{l:List ak}(hs:Wa st)(h:E.ev sc σ (bl st)=ac (d,σ1))(hi:sP (gu st) d=ac l)(k:lO E sc (gu st) (bF st) l σ1=r):(step C E).ex sc σ st=r:=by
 replace hs:=uO hs;refine ay hs ?_;clear hs;intro hs h1;generalize bl st=it at*;generalize gu st=t at*;generalize bF st=dO at*;generalize ir st=p at*;subst hs;refine(?_:aS (!nU it) (ob (E.ev sc σ it) _)=_);refine af h1 (af h ?_);refine(?_:ob (sP t d) _=_);refine af hi ?_;exact k
theorem Qn{C:eQ}{E:bQ}{sc:cC}{σ:aA}{st:bY}{r:Option (cQ×aA)}(hs:MO st)(k:sQ E sc (bl st) (bF st) 4000 σ=r):(step C E).ex sc σ st=r:=by
 unfold MO at hs;generalize bl st=e at*;generalize bF st=dO at*;generalize ir st=p at*;subst hs;exact k
theorem Yu{C:eQ}{E:bQ}{sc:cC}{σ:aA}{st:bY}{r:Option (cQ×aA)}(hs:LX st)(k:b9 E sc (bF st) σ=r):(step C E).ex sc σ st=r:=by
 replace hs:=uO hs;refine ay hs ?_;clear hs;intro hs h1;generalize bF st=dO at*;generalize EQ st=hd at*;generalize ir st=p at*;subst hs;refine(?_:aS (!eW hd) _=_);refine af h1 ?_;exact k
theorem mu{C:eQ}{E:bQ}{sc:cC}{σ σ1:aA}{st:bY}{d:ak}{x:aL}(hs:Gk C E sc σ x st)(h:E.ev sc σ (bl st)=ac (d,σ1))(hw:ke sc x=ag):(step C E).ex sc σ st=ac (.next,put x (.fz d) σ1):=by
 replace hs:=yp hs;refine dH hs ?_;clear hs;intro hs f1 f2 f3;generalize bl st=e at*;generalize cV (gu st)=p' at*;generalize ir st=p at*;subst hs;have g:ob (E.ev sc σ e) (λp=>ob (iT sc p.2 x (.fz p.1)) go)=ac (.next,put x (.fz d) σ1):=by
  refine af h ?_;refine(?_:ob (aS (ke sc x) _) _=_);refine af hw ?_;rfl
 refine(?_:bA (bA (bA (ob (nR E sc σ e) _) (bA (ob (nh C E sc σ e) _) (aS (ty e) _))) _) _=_);refine af f1 (af f2 (af f3 ?_));exact(congrArg (λz=>bA (bA z _) _) g).trans rfl
theorem xc{C:eQ}{E:bQ}{sc:cC}{σ σ1:aA}{st:bY}{d:ak}{x:aL}(hs:Vd E sc σ x st)(h:nh C E sc σ (bl st)=ac (d,σ1))(hw:ke sc x=ag):(step C E).ex sc σ st=ac (.next,put x (.fz d) σ1):=by
 replace hs:=uO hs;refine ay hs ?_;clear hs;intro hs f1;generalize bl st=e at*;generalize cV (gu st)=p' at*;generalize ir st=p at*;subst hs;have g:ob (nh C E sc σ e) (λp=>ob (iT sc p.2 x (.fz p.1)) go)=ac (.next,put x (.fz d) σ1):=by
  refine af h ?_;refine(?_:ob (aS (ke sc x) _) _=_);refine af hw ?_;rfl
 refine(?_:bA (bA (bA (ob (nR E sc σ e) _) (bA (ob (nh C E sc σ e) (λp=>ob (iT sc p.2 x (.fz p.1)) go)) _)) _) _=_);refine af f1 ?_;exact(congrArg (λz=>bA (bA (bA ae (bA z _)) _) _) g).trans rfl
theorem By{C:eQ}{E:bQ}{sc:cC}{σ σ1:aA}{st:bY}{d:ak}(hs:GP st)(h:E.ev sc σ (bl st)=ac (d,σ1)):(step C E).ex sc σ st=ac (.ret d,σ1):=by
 unfold GP at hs;generalize bl st=e at*;generalize ir st=p at*;subst hs;refine(?_:ob (E.ev sc σ e) _=_);refine af h ?_;rfl
theorem qO:lO E sc t body [] σ=ac (.next,σ):=rfl
theorem eX(ha:i7 sc σ t d=ac σ1)(h:b9 E sc body σ1=ac (.next,σ2))(k:lO E sc t body l σ2=r):lO E sc t body (d::l) σ=r:=by
 refine(?_:ob (i7 sc σ t d) _=_);refine af ha ?_;refine(?_:ob (b9 E sc body σ1) _=_);refine af h ?_;exact k
theorem Pj{E:bQ}(ht:E.ts sc σ t=ac (ag,σ1))(h:b9 E sc body σ1=ac (.next,σ2))(kk:sQ E sc t body k σ2=r):sQ E sc t body (k+1) σ=r:=by
 refine(?_:ob (E.ts sc σ t) _=_);refine af ht ?_;refine(?_:ob (b9 E sc body σ1) _=_);refine af h ?_;exact kk
theorem XH{E:bQ}{k:Nat}(ht:E.ts sc σ t=ac (am,σ1)):sQ E sc t body (k+1) σ=ac (.next,σ1):=by
 refine(?_:ob (E.ts sc σ t) _=_);refine af ht ?_;rfl
theorem sB{C:eQ}(hs:C.spec k args=ae)(hf:jk k C.fns=ac f)(hp:params f.params args=ac σ)(h:b9 E ⟨f.names,qW f.names,[]⟩ f.body σ=ac p)(hr:AD p.1=ac d):(step C E).call k args=ac d:=by
 refine(?_:bA (C.spec k args) (ob (jk k C.fns) _)=_);refine af hs (af hf ?_);refine(?_:ob (params f.params args) _=_);refine af hp ?_;refine(?_:ob (b9 E _ f.body σ) _=_);refine af h ?_;exact hr
noncomputable def GX(e:aK):List aK:=match e with
 |.BinOp a _ b _=>[a,b]
 |.Compare a _ bs _=>a::bs
 |.Call f _ _ _=>[f]
 |.Attribute o _ _=>[o]
 |.UnaryOp _ a _=>[a]
 |.Subscript a i _=>[a,i]
 |.ListComp a _ _ _=>[a]
 |.DictComp a b _ _ _=>[a,b]
 |_=>[]
def bK(e:aK):aK:=(GX e).getD 0 e
def ft(e:aK):aK:=(GX e).getD 1 e
noncomputable def xs(e:aK):List aK:=match e with
 |.Call _ as _ _=>as
 |.Tuple es _ _=>es
 |.List es _=>es
 |.BoolOp _ es _=>es
 |_=>[]
def cO(e:aK)(i:Nat):aK:=(xs e).getD i e
noncomputable def F8(e:aK):Nat:=match e with|.Tuple _ k _=>k|_=>0
abbrev E6(op:zE)(e:aK):Prop:=e=.BinOp (bK e) op (ft e) (cV e)
abbrev Cm(op:CmpOp)(e:aK):Prop:=(e,nU (ft e),xh op)=(Expr.Compare (bK e) [op] [ft e] (cV e),am,am)
abbrev Ba(x:aL)(e:aK):Prop:=(e,gh (xs e),bB (xs e).length 9,bK e)=(Expr.Call (.Name x (cV (bK e))) (xs e) [] (cV e),ag,ag,Expr.Name x (cV (bK e)))
abbrev sV(m:aL)(e:aK):Prop:=(e,gh (xs e),bB (xs e).length 9,xg (bK (bK e)),bt (cV (bK e)).endLine (cV e).line)=(Expr.Call (.Attribute (bK (bK e)) m (cV (bK e))) (xs e) [] (cV e),ag,ag,ag,ag)
abbrev Im(e:aK):Prop:=(e,gh (xs e),bB (xs e).length 1000)=(Expr.Tuple (xs e) (F8 e) (cV e),ag,ag)
abbrev XV(e:aK):Prop:=(e,gh (xs e),bB (xs e).length 1000)=(Expr.List (xs e) (cV e),ag,ag)
theorem iJ{C:eQ}(h:C.spec k ds=ac d):(step C E).call k ds=ac d:=by
 refine(?_:bA (C.spec k ds) _=_);refine af h ?_;rfl
theorem m9:dQ E sc [] σ=ac ([],σ):=rfl
theorem Zt{E:bQ}(h:E.ev sc σ e=ac (d,σ1))(k:dQ E sc es σ1=ac (ds,σ2)):dQ E sc (e::es) σ=ac (d::ds,σ2):=by
 refine(?_:ob (E.ev sc σ e) _=_);refine af h ?_;refine(?_:ob (dQ E sc es σ1) _=_);refine af k ?_;rfl
theorem WA{E:bQ}(hs:E6 op e)(h1:E.ev sc σ (bK e)=ac (d1,σ1))(h2:E.ev sc σ1 (ft e)=ac (d2,σ2))(h:um op d1 d2=ac d):(step C E).ev sc σ e=ac (d,σ2):=by
 unfold E6 at hs;generalize bK e=a at*;generalize ft e=b at*;generalize cV e=p at*;subst hs;refine(?_:ob (E.ev sc σ a) _=_);refine af h1 ?_;refine(?_:ob (E.ev sc σ1 b) _=_);refine af h2 ?_;refine(?_:ob (um op d1 d2) _=_);refine af h ?_;rfl
theorem KS{E:bQ}(hb:(!nU c)=ag)(ho:xh op=am)(h1:E.ev sc σ a=ac (d1,σ1))(h2:E.ev sc σ1 c=ac (d2,σ2))(h:qc op d1 d2=ac b):rC E sc σ a op c=ac (b,σ2):=by
 unfold rC;refine af hb (af h1 ?_);refine(?_:ob (@aN (λO=>Option (ak×aA)) (E.ev sc σ1 c) (pn E sc σ1 c) (xh op)) _=_);refine af ho ?_;refine(?_:ob (E.ev sc σ1 c) _=_);refine af h2 ?_;refine(?_:ob (qc op d1 d2) _=_);refine af h ?_;rfl
theorem Fk{E:bQ}(hs:Cm op e)(h1:E.ev sc σ (bK e)=ac (d1,σ1))(h2:E.ev sc σ1 (ft e)=ac (d2,σ2))(h:qc op d1 d2=ac b):(step C E).ts sc σ e=ac (b,σ2):=by
 replace hs:=tG hs;refine bu hs ?_;clear hs;intro hs hb ho;generalize bK e=a at*;generalize ft e=c at*;generalize cV e=p at*;subst hs;exact KS (by refine af hb ?_;rfl) ho h1 h2 h
theorem Zj{E:bQ}(hs:Cm op e)(h1:E.ev sc σ (bK e)=ac (d1,σ1))(h2:E.ev sc σ1 (ft e)=ac (d2,σ2))(h:qc op d1 d2=ac b):(step C E).ev sc σ e=ac (.bool b,σ2):=by
 replace hs:=tG hs;refine bu hs ?_;clear hs;intro hs hb ho;generalize bK e=a at*;generalize ft e=c at*;generalize cV e=p at*;subst hs;refine(?_:ob (rC E sc σ a op c) _=_);rw [KS (a:=a) (c:=c) (by rw [hb];rfl) ho h1 h2 h];rfl
theorem J0{E:bQ}(hs:Ba x e)(hf:E.ev sc σ (bK e)=ac (.hd h,σ))(hl:tH h=am)(ha:dQ E sc (xs e) σ=ac (ds,σ1))(hc:on C E h ds=ac d):(step C E).ev sc σ e=ac (d,σ1):=by
 replace hs:=yp hs;refine dH hs ?_;clear hs;intro hs h2 h3 h4;rw [h4]at hf;clear h4;generalize cV (bK e)=np at*;generalize xs e=args at*;generalize cV e=p at*;subst hs;refine(?_:aS (gh args) (aS (bB args.length 9) (ob (E.ev sc σ (.Name x np)) λp=>sZ p.1 λh=>@aN (λO=>Option (ak×aA)) (ob (dQ E sc args p.2) λq=>ob (on C E h q.1) λd=>ac (d,q.2)) _ (tH h)))=_);refine af h2 (af h3 (af hf ?_));refine(?_:@aN (λO=>Option (ak×aA)) (ob (dQ E sc args σ) λq=>ob (on C E h q.1) λd=>ac (d,q.2)) _ (tH h)=_);refine af hl (af ha ?_);refine(?_:ob (on C E h ds) _=_);refine af hc ?_;rfl
theorem Hb{E:bQ}(hs:sV m e)(hf:E.ev sc σ (bK (bK e))=ac (o,σ1))(aB:bA (ro C E sc σ1 o m (xs e)) (bA (ob (tI o m (xs e)) λd=>ac (d,σ1)) (ob (dQ E sc (xs e) σ1) λq=>ob (fk C E o m q.1) λd=>ac (d,q.2)))=k):(step C E).ev sc σ e=k:=by
 replace hs:=Up hs;refine mq hs ?_;clear hs;intro hs h2 h3 h4 h5;generalize bK (bK e)=q at*;generalize cV (bK e)=ap at*;generalize xs e=args at*;generalize cV e=p at*;subst hs;refine(?_:aS (gh args) (aS (bB args.length 9) (aS (xg q) (aS (bt ap.endLine p.line) (ob (E.ev sc σ q) λp=>bA (ro C E sc p.2 p.1 m args) (bA (ob (tI p.1 m args) λd=>ac (d,p.2)) (ob (dQ E sc args p.2) λq=>ob (fk C E p.1 m q.1) λd=>ac (d,q.2)))))))=_);refine af h2 (af h3 (af h4 (af h5 (af hf ?_))));exact aB
theorem M8{E:bQ}(hs:sV m e)(hf:E.ev sc σ (bK (bK e))=ac (o,σ1))(hp:ro C E sc σ1 o m (xs e)=ae)(hr:tI o m (xs e)=ae)(ha:dQ E sc (xs e) σ1=ac (ds,σ2))(hc:fk C E o m ds=ac d):(step C E).ev sc σ e=ac (d,σ2):=Hb hs hf (by
 refine af hp (af hr (af ha ?_));refine(?_:ob (fk C E o m ds) _=_);refine af hc ?_;rfl)
theorem Vc(hs:Im e)(ha:dQ E sc (xs e) σ=ac (ds,σ1)):(step C E).ev sc σ e=ac (.tup ds,σ1):=by
 replace hs:=tG hs;refine bu hs ?_;clear hs;intro hs h1 h2;generalize xs e=es at*;generalize F8 e=k at*;generalize cV e=p at*;subst hs;refine(?_:aS (gh es) (aS (bB es.length 1000) (ob (dQ E sc es σ) _))=_);refine af h1 (af h2 (af ha ?_));rfl
theorem abA(hs:XV e)(ha:dQ E sc (xs e) σ=ac (ds,σ1)):(step C E).ev sc σ e=ac (.list ds,σ1):=by
 replace hs:=tG hs;refine bu hs ?_;clear hs;intro hs h1 h2;generalize xs e=es at*;generalize cV e=p at*;subst hs;refine(?_:aS (gh es) (aS (bB es.length 1000) (ob (dQ E sc es σ) _))=_);refine af h1 (af h2 (af ha ?_));rfl
abbrev VH(x:aL)(st:bY):Prop:=(st,bt (cV (bK (bl st))).endLine (cV (bl st)).line,lT (cO (bl st) 0))=(Stmt.Expr (.Call (.Attribute (.Name x (cV (bK (bK (bl st))))) (ao "append") (cV (bK (bl st)))) [cO (bl st) 0] [] (cV (bl st))) (ir st),ag,am)
theorem Zm:d8 (ao "append") "append"=ag:=by left
theorem uG{C:eQ}{E:bQ}{sc:cC}{σ σ1:aA}{d:ak}{ds:List ak}{x:aL}{st:bY}{xs0:List ak}(hs:VH x st)(hm:ji sc x=ag)(h0:ba x σ=ac (.ow (.list ds)))(h:E.ev sc σ (cO (bl st) 0)=ac (d,σ1))(h1:ba x σ1=ac (.ow (.list xs0)))(hl:bB xs0.length lim=ag):
  (step C E).ex sc σ st=ac (.next,put x (.ow (.list (xs0++[d]))) σ1):=by
 replace hs:=tG hs;refine bu hs ?_;clear hs;intro hs e3 d9;generalize cO (bl st) 0=a at*;generalize cV (bK (bK (bl st)))=np at*;generalize cV (bK (bl st))=ap at*;generalize cV (bl st)=p1 at*;generalize ir st=p at*;subst hs;refine(?_:aS (d8 (ao "append") "append") (aS (ji sc x) (aS (bt ap.endLine p1.line) (aS (!lT a) (ob (ba x σ) λb=>@bk.rec (λO=>Option (cQ×aA)) (λO=>ae) (λo=>gp o λO=>ob (E.ev sc σ a) λp=>pS p.2 x λo=>gp o λds=>aS (bB ds.length lim) (go (put x (.ow (.list (ds++[p.1]))) p.2))) b))))=_);refine af Zm (af hm (af e3 (af d9 (af h0 ?_))));refine(?_:ob (E.ev sc σ a) (λp=>ob (ba x p.2) λb=>@bk.rec (λO=>Option (cQ×aA)) (λO=>ae) (λo=>gp o λds=>aS (bB ds.length lim) (go (put x (.ow (.list (ds++[p.1]))) p.2))) b)=_);refine af h ?_;refine(?_:ob (ba x σ1) (λb=>@bk.rec (λO=>Option (cQ×aA)) (λO=>ae) (λo=>gp o λds=>aS (bB ds.length lim) (go (put x (.ow (.list (ds++[d]))) σ1))) b)=_);refine af h1 ?_;refine(?_:aS (bB xs0.length lim) _=_);refine af hl ?_;rfl
theorem iV{E:bQ}(h:E.ev sc σ e=ac (d,σ))(k:dQ E sc es σ=ac (ds,σ)):dQ E sc (e::es) σ=ac (d::ds,σ):=Zt h k
theorem ki{E:bQ}(hs:E6 op e)(h1:E.ev sc σ (bK e)=ac (d1,σ))(h2:E.ev sc σ (ft e)=ac (d2,σ))(h:um op d1 d2=ac d):(step C E).ev sc σ e=ac (d,σ):=WA hs h1 h2 h
theorem rz{E:bQ}(hs:Cm op e)(h1:E.ev sc σ (bK e)=ac (d1,σ))(h2:E.ev sc σ (ft e)=ac (d2,σ))(h:qc op d1 d2=ac b):(step C E).ts sc σ e=ac (b,σ):=Fk hs h1 h2 h
theorem Za{E:bQ}(hs:Cm op e)(h1:E.ev sc σ (bK e)=ac (d1,σ))(h2:E.ev sc σ (ft e)=ac (d2,σ))(h:qc op d1 d2=ac b):(step C E).ev sc σ e=ac (.bool b,σ):=Zj hs h1 h2 h
theorem jn{E:bQ}(hs:Ba x e)(hf:E.ev sc σ (bK e)=ac (.hd h,σ))(hl:tH h=am)(ha:dQ E sc (xs e) σ=ac (ds,σ))(hc:on C E h ds=ac d):(step C E).ev sc σ e=ac (d,σ):=J0 hs hf hl ha hc
theorem jK{E:bQ}(hs:sV m e)(hf:E.ev sc σ (bK (bK e))=ac (o,σ))(hp:ro C E sc σ o m (xs e)=ae)(hr:tI o m (xs e)=ae)(ha:dQ E sc (xs e) σ=ac (ds,σ))(hc:fk C E o m ds=ac d):(step C E).ev sc σ e=ac (d,σ):=M8 hs hf hp hr ha hc
theorem A0(hs:Im e)(ha:dQ E sc (xs e) σ=ac (ds,σ)):(step C E).ev sc σ e=ac (.tup ds,σ):=Vc hs ha
theorem hH{C:eQ}{E:bQ}{sc:cC}{σ:aA}{b:Bool}{st:bY}{r:Option (cQ×aA)}(hs:BQ st)(h:E.ts sc σ (bl st)=ac (b,σ))(k:b9 E sc (aN (jX st) (bF st) b) σ=r):(step C E).ex sc σ st=r:=AQ hs h k
theorem TJ{C:eQ}{E:bQ}{sc:cC}{σ:aA}{d:ak}{x:aL}{st:bY}(hs:Gk C E sc σ x st)(h:E.ev sc σ (bl st)=ac (d,σ))(hw:ke sc x=ag):(step C E).ex sc σ st=ac (.next,put x (.fz d) σ):=mu hs h hw
theorem FE{C:eQ}{E:bQ}{sc:cC}{σ:aA}{d:ak}{st:bY}(hs:GP st)(h:E.ev sc σ (bl st)=ac (d,σ)):(step C E).ex sc σ st=ac (.ret d,σ):=By hs h
abbrev Q2(x:aL)(st:bY):Prop:=(st,bl st)=(Dp [.Name x (cV (gu st))] (.BinOp (bK (bl st)) .Add (ft (bl st)) (cV (bl st))) (ir st),Expr.BinOp (bK (bl st)) .Add (ft (bl st)) (cV (bl st)))
noncomputable def TM(d:ak):Bool:=match d with
 |.list _=>am
 |_=>ag
theorem CB{C:eQ}{E:bQ}{sc:cC}{σ σ1:aA}{d d1:ak}{x:aL}{st:bY}(hs:Q2 x st)(h1:E.ev sc σ (bK (bl st))=ac (d1,σ1))(hn:TM d1=ag)(h:E.ev sc σ (bl st)=ac (d,σ))(hw:ke sc x=ag):(step C E).ex sc σ st=ac (.next,put x (.fz d) σ):=by
 replace hs:=uO hs;refine ay hs ?_;clear hs;intro hs he;rw [he]at h;clear he;generalize bK (bl st)=a at*;generalize ft (bl st)=b at*;generalize cV (bl st)=p2 at*;generalize cV (gu st)=p' at*;generalize ir st=p at*;subst hs;have g:ob (E.ev sc σ (.BinOp a .Add b p2)) (λp=>ob (iT sc p.2 x (.fz p.1)) go)=ac (.next,put x (.fz d) σ):=by
  refine af h ?_;refine(?_:ob (aS (ke sc x) _) _=_);refine af hw ?_;rfl
 have f1:nR E sc σ (.BinOp a .Add b p2)=ae:=by
  refine(?_:ob (E.ev sc σ a) _=_);refine af h1 ?_;induction d1 using ak.casesOn<;>first|rfl|exact bR hn
 refine(?_:bA (bA (bA (ob (nR E sc σ (.BinOp a .Add b p2)) _) (bA ae (aS ag (ob (E.ev sc σ (.BinOp a .Add b p2)) (λp=>ob (iT sc p.2 x (.fz p.1)) go))))) _) _=_);refine af f1 ?_;exact(congrArg (λz=>bA (bA z _) _) g).trans rfl
noncomputable def Lx(e:aK):List CZ×List (aL×dh):=match e with
 |.ListComp _ gs sc _=>(gs,sc.names)
 |.DictComp _ _ gs sc _=>(gs,sc.names)
 |e=>([],[])
def xd(e:aK):CZ:=(Lx e).1.getD 0 ⟨e,e,[],0⟩
def jg(e:aK):aK:=(xd e).target
def vY(e:aK):aK:=(xd e).iter
def ge(e:aK):List aK:=(xd e).ifs
def kt(e:aK):List (aL×dh):=(Lx e).2
noncomputable def CC(e:aK):iY:=match e with
 |.ListComp _ _ sc _=>sc
 |_=>default
def dj(sc:cC)(e:aK):cC:=⟨uF sc.names (kt e),qW (kt e),[]⟩
abbrev I2(sc:cC)(e:aK):Prop:=(e,kq (xd e).is_async 0,w6 sc (CC e) (vY e),kt e)=(Expr.ListComp (bK e) [⟨jg e,vY e,ge e,(xd e).is_async⟩] (CC e) (cV e),ag,ag,(CC e).names)
theorem uK(hs:I2 sc e)(hi:uw C E sc σ (jg e) (vY e)=ac (l,σ1))(hg:gK (dj sc e) (jg e) (iy E (dj sc e) (ge e) (bK e)) l (kN (kt e) (frz (kt e) σ1)) []=ac r):nh C E sc σ e=ac (.list r,frz (kt e) σ1):=by
 replace hs:=yp hs;refine dH hs ?_;clear hs;intro hs h1 h2 h3;unfold dj at hg;rw [h3]at hg⊢;clear h3;generalize jg e=t at*;generalize vY e=it at*;generalize ge e=fs at*;generalize bK e=elt at*;generalize CC e=s at*;generalize(xd e).is_async=ia at*;generalize cV e=p at*;subst hs;refine(?_:aS (kq ia 0) (aS (w6 sc s it) (ob (uw C E sc σ t it) _))=_);refine af h1 (af h2 (af hi ?_));refine(?_:ob (gK (mi sc s) t (iy E (mi sc s) fs elt) l (kN s.names (frz s.names σ1)) []) _=_);refine af (show gK (mi sc s) t (iy E (mi sc s) fs elt) l (kN s.names (frz s.names σ1)) []=ac r from hg) ?_;rfl
theorem ve(hs:I2 sc e)(hi:uw C E sc σ (jg e) (vY e)=ac (l,σ1))(hg:gK (dj sc e) (jg e) (iy E (dj sc e) (ge e) (bK e)) l (kN (kt e) (frz (kt e) σ1)) []=ac r):(step C E).ev sc σ e=ac (.list r,frz (kt e) σ1):=by
 have h:=uK (C:=C) hs hi hg;have hs:=(rc hs).1;rw [hs]at h⊢;exact h
theorem sy{β:Type}{stp:aA->β->Option (aA×β)}{bb:β}:gK sc t stp [] σ bb=ac bb:=rfl
theorem gm{β:Type}{stp:aA->β->Option (aA×β)}{bb b2:β}{rr:Option β}(ha:i7 sc σ t d=ac σ1)(h:stp σ1 bb=ac (σ2,b2))(k:gK sc t stp l σ2 b2=rr):gK sc t stp (d::l) σ bb=rr:=by
 refine(?_:ob (i7 sc σ t d) _=_);refine af ha ?_;refine(?_:ob (stp σ1 bb) _=_);refine af h ?_;exact k
theorem gD{E:bQ}{b:List ak}(h:E.ev sc σ e=ac (d,σ1))(hl:bB b.length lim=ag):iy E sc [] e σ b=ac (σ1,b++[d]):=by
 refine(?_:ob (E.ev sc σ e) _=_);refine af h ?_;refine(?_:aS (bB b.length lim) _=_);refine af hl ?_;rfl
theorem Yn{E:bQ}{b:List ak}(hc:E.ts sc σ c=ac (v,σ))(h:v=ag->E.ev sc σ e=ac (d,σ))(hl:bB b.length lim=ag):iy E sc [c] e σ b=ac (σ,aN b (b++[d]) v):=by
 refine(?_:ob (ob (E.ts sc σ c) _) _=_);refine af hc ?_;induction v using hO with
 |false=>rfl
 |true=>
  refine(?_:ob (E.ev sc σ e) _=_);refine af (h rfl) ?_;refine(?_:aS (bB b.length lim) _=_);refine af hl ?_;rfl
theorem SF(ha:i7 sc σ t d=ac σ1)(h:b9 E sc body σ1=ac (.ret d1,σ2)):lO E sc t body (d::l) σ=ac (.ret d1,σ2):=by
 refine(?_:ob (i7 sc σ t d) _=_);refine af ha ?_;refine(?_:ob (b9 E sc body σ1) _=_);refine af h ?_;rfl
theorem ti{E:bQ}{K:ak->aA}{g:ak->ak}{P:ak->Prop}(ha:∀d' d,P d->i7 sc (K d') t d=ac (K d))(he:∀d,P d->E.ev sc (K d) elt=ac (g d,K d)):∀(l:List ak)(σ:aA)(b:List ak),(∀d∈l,P d)->(∀d,P d->i7 sc σ t d=ac (K d))->b.length+l.length<=lim->
  gK sc t (iy E sc [] elt) l σ b=ac (b++l.map g)
 |[],σ,b,_,_,_=>by rw [aa0,ka];rfl
 |d::l,σ,b,hp,h0,hb=>by
  have hb:b.length+(l.length+1)<=1048576:=hb;refine gm (h0 d (hp d ck)) (gD (he d (hp d ck)) (lw (show b.length<=1048576 by exact bM (mS b.length (l.length+1)) hb))) ?_;rw [ti ha he l (K d) (b++[g d]) (λe h=>hp e (cW _ h)) (ha d) (by rw [gx];refine(?_:b.length+1+l.length<=1048576);(simp only [nI,kB,tQ]at*;first|assumption|omega)),qm,ja];rfl
theorem NI{E:bQ}{K:ak->aA}{g:ak->ak}{p:ak->Bool}{P:ak->Prop}(ha:∀d' d,P d->i7 sc (K d') t d=ac (K d))(hc:∀d,P d->E.ts sc (K d) c=ac (p d,K d))(he:∀d,P d->E.ev sc (K d) elt=ac (g d,K d)):∀(l:List ak)(σ:aA)(b:List ak),(∀d∈l,P d)->(∀d,P d->i7 sc σ t d=ac (K d))->b.length+l.length<=lim->
  gK sc t (iy E sc [c] elt) l σ b=ac (b++(l.filter p).map g)
 |[],σ,b,_,_,_=>by rw [List.filter_nil,aa0,ka];rfl
 |d::l,σ,b,hp,h0,hb=>by
  have hb:b.length+(l.length+1)<=1048576:=hb;have hd:=hp d ck;refine gm (h0 d hd) (Yn (hc d hd) (λO=>he d hd) (lw (show b.length<=1048576 by lia))) ?_;have hl:(@aN (λO=>List ak) b (b++[g d]) (p d)).length+l.length<=1048576:=by
   cases p d
   ·refine(?_:b.length+l.length<=_);exact lW hb
   ·refine(?_:(b++[g d]).length+l.length<=_);refine af gx ?_;refine(?_:b.length+1+l.length<=1048576);lia
  refine af (NI ha hc he l (K d) _ (λe h=>hp e (cW _ h)) (ha d) hl) (af OI ?_);cases p d
  ·rfl
  ·refine(?_:ac ((b++[g d])++_)=ac (b++(g d::_)));rw [ja];rfl
def Ez(ks:List T):List T->Bool:=@bW T (λO=>List T->Bool) (λls=>eW ls) (λk O ih ls=>match ls with|[]=>am|l::r=>le k l&&ih r) ks
def GY(c:ak):ak->Bool:=@ak.rec (λO=>ak->Bool) (λO=>List ak->Bool)
 (λd=>match d with|.none=>ag|_=>am) (λb d=>match d with|.bool a=>aN (!a) a b|_=>am) (λi n d=>match d with|.int j m=>kq i j&&bB n m|_=>am) (λs n d=>match d with|.str t m=>le s t&&bB n m|_=>am)
 (λO ih d=>match d with|.tup es=>ih es|_=>am) (λO ih d=>match d with|.list es=>ih es|_=>am) (λO O O O=>am)
 (λks O ih d=>match d with|.inst ls es=>Ez ks ls&&ih es|_=>am) (λO O=>am) (λO O O O=>am) (λO O O=>am) (λO O O O=>am) (λO O O O=>am)
 (λes=>eW es) (λO O ihd ihr es=>match es with|[]=>am|e::r=>ihd e&&ihr r) c
theorem Rt:∀{ls:List T},Ez ks ls=ag->ks=ls:=by
 induction ks with
 |nil=>intro ls h;exact(Gn h).symm
 |cons k r ih=>
  intro ls h;induction ls using dD with
  |nil=>exact bR h
  |cons l q=>
   refine ay (cZ.mp h) λh1 h2=>?_;exact af (lS.mp h1) (af (ih h2) rfl)
theorem VQ(c:ak):∀d,GY c d=ag->∀v,aH G F v c->aH G F v d:=by
 refine@ak.rec (λc=>∀d,GY c d=ag->∀v,vm G F c v->vm G F d v) (λcs=>∀ds,(@ak.rec_1 (λO=>ak->Bool) (λO=>List ak->Bool)
 (λd=>match d with|.none=>ag|_=>am) (λb d=>match d with|.bool a=>aN (!a) a b|_=>am) (λi n d=>match d with|.int j m=>kq i j&&bB n m|_=>am) (λs n d=>match d with|.str t m=>le s t&&bB n m|_=>am)
 (λO ih d=>match d with|.tup es=>ih es|_=>am) (λO ih d=>match d with|.list es=>ih es|_=>am) (λO O O O=>am)
 (λks O ih d=>match d with|.inst ls es=>Ez ks ls&&ih es|_=>am) (λO O=>am) (λO O O O=>am) (λO O O=>am) (λO O O O=>am) (λO O O O=>am)
 (λes=>eW es) (λO O ihd ihr es=>match es with|[]=>am|e::r=>ihd e&&ihr r) cs) ds=ag->∀vs,uh G F cs vs->uh G F ds vs) ?_ ?_ ?_ ?_ ?_ ?_ ?_ ?_ ?_ ?_ ?_ ?_ ?_ ?_ ?_ c
 ·intro d h v hv;induction d using ak.casesOn<;>first|exact hv|exact bR h
 ·intro b d h v hv
  induction d using ak.casesOn<;>first|exact bR h|skip
  rename_i a;induction a using hO<;>induction b using hO<;>first|exact hv|exact bR h
 ·intro i n d h v hv
  induction d using ak.casesOn<;>first|exact bR h|skip
  refine ay (cZ.mp h) λh1 h2=>?_;refine aw hv λt q1'=>ay q1' λe l=>?_;clear hv q1';have:=of_decide_eq_true h1;subst this;exact⟨t,e,kA l (q7 (by decide) (gy h2))⟩
 ·intro s n d h v hv
  induction d using ak.casesOn<;>first|exact bR h|skip
  refine ay (cZ.mp h) λh1 h2=>?_;refine aw hv λt q0'=>bu q0' λe l a=>?_;clear hv q0';have:=lS.mp h1;subst this;exact⟨t,e,bM l (gy h2),a⟩
 ·intro cs ih d h v hv
  induction d using ak.casesOn<;>first|exact bR h|skip
  refine gB hv λa vs k q2'=>bu q2' λe f r=>?_;clear hv q2';exact⟨a,vs,k,e,f,ih _ h vs r⟩
 ·intro cs ih d h v hv
  induction d using ak.casesOn<;>first|exact bR h|skip
  refine gB hv λa vs k q1'=>bu q1' λe f r=>?_;clear hv q1';exact⟨a,vs,k,e,f,ih _ h vs r⟩
 ·intro ks cs ih d h;exact bR h
 ·intro ks cs ih d h v hv
  induction d using ak.casesOn<;>first|exact bR h|skip
  refine ay (cZ.mp h) λh1 h2=>?_;have:=Rt h1;subst this;refine d4 hv λa dx o vs q0'=>gY q0' λe1 e2 e3 d9 e5 r=>?_;clear hv q0';exact⟨a,dx,o,vs,e1,e2,e3,d9,e5,ih _ h2 vs r⟩
 ·intro _ d h;exact bR h
 ·intro _ _ _ d h;exact bR h
 ·intro _ _ d h;exact bR h
 ·intro _ _ _ d h;exact bR h
 ·intro _ _ _ d h;exact bR h
 ·intro ds h vs hv;refine af (Gn h) ?_;exact hv
 ·intro c cs ihd ihr ds h vs hv
  induction ds using dD with
  |nil=>exact bR h
  |cons d r=>
   refine ay (cZ.mp h) λh1 h2=>?_;refine bV hv λv ws q2'=>bu q2' λe h3 h4=>?_;clear hv q2';exact⟨v,ws,e,ihd d h1 v h3,ihr r h2 ws h4⟩
def rx(o:Option ak)(d:ak):Bool:=match o with|some c=>GY c d|none=>am
theorem A8(h:rx o d=ag):∃c,o=ac c/\∀(G:cg)(F:bn) v,aH G F v c->aH G F v d:=by
 induction o using kC with
 |none=>exact bR h
 |some c=>exact⟨c,rfl,λG F v=>VQ c d h v⟩
set_option genSizeOf false in
inductive V
 |lam (a:xJ) (b:aK) (s:iY) (p:eF)
 |bin (l:aK) (o:zE) (r:aK) (p:eF)
 |boo (o:CY) (l:List aK) (p:eF)
 |call (f:aK) (l:List aK) (k:List HM) (p:eF)
 |attr (e:aK) (n:aL) (p:eF)
 |name (x:aL) (p:eF)
 |cst (c:zF) (j:Nat) (p:eF)
 |oth (e:aK)
noncomputable def qU(e:aK):V:=match e with
 |.Lambda a b s p=>.lam a b s p
 |.BinOp l o r p=>.bin l o r p
 |.BoolOp o l p=>.boo o l p
 |.Call f l k p=>.call f l k p
 |.Attribute e n p=>.attr e n p
 |.Name x p=>.name x p
 |.Constant c j p=>.cst c j p
 |_=>.oth e
def KP{α:Type}(v:V)(f:xJ->aK->iY->eF->Option α):Option α:=@V.rec (λO=>Option α) f (λO O O O=>ae) (λO O O=>ae) (λO O O O=>ae) (λO O O=>ae) (λO O=>ae) (λO O O=>ae) (λO=>ae) v
def LO{α:Type}(v:V)(f:aK->zE->aK->eF->Option α):Option α:=@V.rec (λO=>Option α) (λO O O O=>ae) f (λO O O=>ae) (λO O O O=>ae) (λO O O=>ae) (λO O=>ae) (λO O O=>ae) (λO=>ae) v
def Ml{α:Type}(v:V)(f:CY->List aK->eF->Option α):Option α:=@V.rec (λO=>Option α) (λO O O O=>ae) (λO O O O=>ae) f (λO O O O=>ae) (λO O O=>ae) (λO O=>ae) (λO O O=>ae) (λO=>ae) v
def LK{α:Type}(v:V)(f:aK->List aK->List HM->eF->Option α):Option α:=@V.rec (λO=>Option α) (λO O O O=>ae) (λO O O O=>ae) (λO O O=>ae) f (λO O O=>ae) (λO O=>ae) (λO O O=>ae) (λO=>ae) v
def II{α:Type}(v:V)(f:aK->aL->eF->Option α):Option α:=@V.rec (λO=>Option α) (λO O O O=>ae) (λO O O O=>ae) (λO O O=>ae) (λO O O O=>ae) f (λO O=>ae) (λO O O=>ae) (λO=>ae) v
def Nn{α:Type}(v:V)(f:aL->eF->Option α):Option α:=@V.rec (λO=>Option α) (λO O O O=>ae) (λO O O O=>ae) (λO O O=>ae) (λO O O O=>ae) (λO O O=>ae) f (λO O O=>ae) (λO=>ae) v
def Bc{α:Type}(v:V)(f:zF->Nat->eF->Option α):Option α:=@V.rec (λO=>Option α) (λO O O O=>ae) (λO O O O=>ae) (λO O O=>ae) (λO O O O=>ae) (λO O O=>ae) (λO O=>ae) f (λO=>ae) v
noncomputable def E0{α:Type}(c:zF)(f:aL->Option α):Option α:=match c with|.str s=>f s|_=>ae
noncomputable def Ww(c:zF):Bool:=match c with|.int i=>bt i.toNat 1|_=>am
noncomputable def PH(o:zE):Bool:=match o with|.Add=>ag|_=>am
noncomputable def SR(k:dh):Bool:=match k with|.local=>ag|_=>am
def tz{α:Type}(l:List α):Bool:=@bW α (λO=>Bool) ag (λO O O=>am) l
def D2{α:Type}(o:Option α):Bool:=@dL α (λO=>Bool) ag (λO=>am) o
def LH(a:xJ):Bool:=tz a.posonlyargs&&(@bW Arg (λO=>Bool) am (λx r O=>tz r&&d8 x.arg "_m") a.args&&(D2 a.vararg&&(tz a.kwonlyargs&&(tz a.kw_defaults&&(D2 a.kwarg&&tz a.defaults)))))
def ID(s:iY):Bool:=isFn s.kind&&(!s.isGenerator&&(!s.isCoroutine&& @bW (aL×dh) (λO=>Bool) am (λx r O=>tz r&&(d8 x.1 "_m"&&SR x.2)) s.names))
def Mk(e:aK):Option Unit:=LK (qU e) λf args kws cp=>II (qU f) λm g ap=>Nn (qU m) λx O=>aS (d8 g "group") (aS (d8 x "_m") (aS (bt ap.endLine cp.line) (aS (tz kws) (aY args λe=>Bc (qU e) λc O O=>aS (Ww c) (ac ())))))
def km(e:aK):Option T:=KP (qU e) λa b s p=>aS (LH a) (aS (ID s) (aS (mX p) (LO (qU b) λl o r O=>aS (PH o) (Bc (qU l) λc O O=>E0 c λq=>aS (uk q.cps.toList) (Ml (qU r) λo es O=>aS (!E9 o) (b6 es λe z=>Bc (qU z) λc O O=>E0 c λz=>aS (eW z.cps.toList) (ob (Mk e) λO=>ac q.cps.toList)))))))
def yP(ds:List ak):Option (List T):=@bW ak (λO=>Option (List T)) (ac []) (λd O ih=>oT d λes=>@bW ak (λO=>Option (List T)) ae (λe O O=>jQ e λi O=>ox i λk=>aS (eK k 10000) (ob ih λl=>ac (fD 5 k::l))) es) ds
def kg(l:List T):T:=[97,116,32,116,97,98,32,115,105,122,101]++(aN [] [115] (eK 1 l.length)++(32::cy [44,32] l))
def pi(k:Nat)(ds:List ak):Option ak:=aS (bt k 200) (aY ds λd=>gp d λrows=>aS (bB rows.length 1000) (ob (yP rows) λl=>ac (.str (kg l) 8192)))
noncomputable def sC(ds:List ak):Option ak:=ae
def zr:eQ:=oi km pi sC
noncomputable def yF(n:Nat):List T:=@gW (λO=>List T) [[]] (λO ih=>ih.flatMap λs=>[32::s,9::s]) n
def fe:List T:=yF 0++(yF 1++(yF 2++(yF 3++yF 4)))
def Qt(s:T):Bool:=fe.any (le s)
def zl(z:Nat)(s:T):Nat->Nat:=@bW Nat (λO=>Nat->Nat) (λc=>c) (λa O ih c=>ih (aN (c+1) (z*((c+z)/z)) (bt a 9))) s
def vq(s:T):List Nat:=((c8 9 s).1::(c8 9 s).2).map fF
def oA(l:List Nat):Nat:=@bW Nat (λO=>Nat) 0 (λa O ih=>cK a ih) l
def abC(s:T):Nat:=oA (vq s)
def En(l:List Nat):Nat:=@bW Nat (λO=>Nat) 0 (λa r ih=>@bW Nat (λO=>Nat) a (λO O O=>ih) r) l
def Ei(l:List Nat):List Nat:=@bW Nat (λO=>List Nat) [] (λa r ih=>@bW Nat (λO=>List Nat) [] (λO O O=>a::ih) r) l
def vV(s:T):List Nat:=aN ((bP (oA (Ei (vq s))+1)).map λi=>(Ei (vq s)).countP (bt i)) [] (eW (Ei (vq s)))
def cr:List T:=[(ao "raw").cps.toList,(ao "n").cps.toList,(ao "nt").cps.toList,(ao "norm").cps.toList,(ao "is_simple").cps.toList]
noncomputable def aV(k m:Nat):ak:=.int (k:Int) m
def dq(s:T):ak:=.inst cr [.str s 4,aV s.length 8,aV (s.countP (bt 9)) 8,.tup [.tup ((vV s).map λk=>aV k 8),aV (En (vq s)) 8],.bool (ig (vV s).length 1)]
theorem S9:(fe.all λs=>[1,2,3,4,5].all λz=>rx ((run zr 39).call 259 [.str s 4,aV z 3]) (aV (zl z s 0) 64))=ag:=by left
theorem abm:(fe.all λs=>rx (sX zr (run zr 39) [.str s 4]) (dq s))=ag:=by left
theorem Pp:(fe.all λs=>rx ((run zr 39).call 151 [dq s]) (aV (cK ((vV s).length-1) (En (vq s))) 16))=ag:=by left
theorem Qo:(fe.all λs=>[1,2,3,4,5].all λz=>rx ((run zr 39).call 158 [dq s,aV z 3]) (aV (zl z s 0) 64))=ag:=by left
def cS(x:String):cC:=⟨(cw x).names,qW (cw x).names,[]⟩
def dO(x:String)(i:Nat):bY:=cP (cw x).body i
abbrev bJ(sp:Nat->List ak->Option ak):eQ:=oi km sp sC
structure sE(sp:Nat->List ak->Option ak)(va vb:List ak)(x y:Nat)(fa fb:Nat->Nat):Prop where
 la:sp 151 [.inst cr va]=ac (aV x 16)
 lb:sp 151 [.inst cr vb]=ac (aV y 16)
 ia:∀z k,0<z->z<=cK x y+1->sp 158 [.inst cr va,aV z k]=ac (aV (fa z) 64)
 ib:∀z k,0<z->z<=cK x y+1->sp 158 [.inst cr vb,aV z k]=ac (aV (fb z) 64)
abbrev lh(va vb:List ak)(N:ak)(rows:List ak)(r:aA):aA:=(ao "self",.fz (.inst cr va))::(ao "other",.fz (.inst cr vb))::(ao "n",.fz N)::(ao "a",.ow (.list rows))::r
def yv(fa fb:Nat->Nat)(p:Nat×Nat):ak:=.tup [aV p.1 p.2,aV (fa p.1) 64,aV (fb p.1) 64]
theorem VC(I:sE sp va vb x y fa fb){rows:List ak}{z:Nat}(h0:0<z)(h1:z<=cK x y+1)(hl:bB rows.length lim=ag):
  b9 (run (bJ sp) 37) (cS "not_less_witness") (bF (dO "not_less_witness" 2)) (lh va vb N rows [(ao "ts",.fz (aV z k))])=ac (.next,lh va vb N (aN rows (rows++[yv fa fb (z,k)]) (ld (fb z) (fa z))) [(ao "ts",.fz (aV z k))]):=by
 have ca:∀E:bQ,(step (bJ sp) E).call 158 [.inst cr va,aV z k]=ac (aV (fa z) 64):=λE=>iJ (I.ia z k h0 h1);have cb:∀E:bQ,(step (bJ sp) E).call 158 [.inst cr vb,aV z k]=ac (aV (fb z) 64):=λE=>iJ (I.ib z k h0 h1);have hb:bF (dO "not_less_witness" 2)=[cP (bF (dO "not_less_witness" 2)) 0]:=by left
 refine af hb ?_;have ht:(run (bJ sp) 36).ts (cS "not_less_witness") (lh va vb N rows [(ao "ts",.fz (aV z k))]) (bl (cP (bF (dO "not_less_witness" 2)) 0))=ac (ld (fb z) (fa z),lh va vb N rows [(ao "ts",.fz (aV z k))]):=
  rz (op:=.GtE) (by left) (jK (m:=ao "indent_level") (o:=.inst cr va) (ds:=[aV z k]) (by left) (by left) (by left) (by left) (by left) ((by left:fk (bJ sp) (run (bJ sp) 34) (.inst cr va) (ao "indent_level") [aV z k]=(run (bJ sp) 34).call 158 [.inst cr va,aV z k]).trans (ca _)))
   (jK (m:=ao "indent_level") (o:=.inst cr vb) (ds:=[aV z k]) (by left) (by left) (by left) (by left) (by left) ((by left:fk (bJ sp) (run (bJ sp) 34) (.inst cr vb) (ao "indent_level") [aV z k]=(run (bJ sp) 34).call 158 [.inst cr vb,aV z k]).trans (cb _))) rfl
 refine cf (hH (by left) ht ?_) js;cases q:ld (fb z) (fa z)with
 |false=>left
 |true=>
  refine(?_:b9 _ _ (bF (cP (bF (dO "not_less_witness" 2)) 0)) _=_);have hc:bF (cP (bF (dO "not_less_witness" 2)) 0)=[cP (bF (cP (bF (dO "not_less_witness" 2)) 0)) 0]:=by left
  refine af hc ?_;refine cf (uG (x:=ao "a") (xs0:=rows) (d:=yv fa fb (z,k)) (by left) (by left) (ds:=rows) (by left) (σ1:=lh va vb N rows [(ao "ts",.fz (aV z k))]) ?_ (by left) hl) ?_
  ·refine A0 (by left) ?_
   have he:xs (cO (bl (cP (bF (cP (bF (dO "not_less_witness" 2)) 0)) 0)) 0)=[cO (cO (bl (cP (bF (cP (bF (dO "not_less_witness" 2)) 0)) 0)) 0) 0,cO (cO (bl (cP (bF (cP (bF (dO "not_less_witness" 2)) 0)) 0)) 0) 1,cO (cO (bl (cP (bF (cP (bF (dO "not_less_witness" 2)) 0)) 0)) 0) 2]:=by left
   refine af he ?_;exact iV (by left) (iV (jK (m:=ao "indent_level") (o:=.inst cr va) (ds:=[aV z k]) (by left) (by left) (by left) (by left) (by left) ((by left:fk (bJ sp) (run (bJ sp) 33) (.inst cr va) (ao "indent_level") [aV z k]=(run (bJ sp) 33).call 158 [.inst cr va,aV z k]).trans (ca _)))
    (iV (jK (m:=ao "indent_level") (o:=.inst cr vb) (ds:=[aV z k]) (by left) (by left) (by left) (by left) (by left) ((by left:fk (bJ sp) (run (bJ sp) 33) (.inst cr vb) (ao "indent_level") [aV z k]=(run (bJ sp) 33).call 158 [.inst cr vb,aV z k]).trans (cb _))) m9))
  ·left
def hY{α:Type}(p:Nat->Bool)(f:Nat->α)(m:Nat):Nat->List α:=@gW (λO=>Nat->List α) (λO=>[]) (λO ih z=>aN (ih (z+1)) (f z::ih (z+1)) (p z)) m
abbrev gk(fa fb:Nat->Nat)(z:Nat):Bool:=ld (fb z) (fa z)
abbrev fK(fa fb:Nat->Nat)(z:Nat):ak:=yv fa fb (z,dW z)
theorem Lh(I:sE sp va vb x y fa fb):∀(m z:Nat)(rows:List ak)(r:aA),0<z->z+m<=cK x y+2->rows.length+m<=lim->(∀d,put (ao "ts") (.fz d) (lh va vb N rows r)=lh va vb N rows [(ao "ts",.fz d)])->
  ∃r',lO (run (bJ sp) 37) (cS "not_less_witness") (gu (dO "not_less_witness" 2)) (bF (dO "not_less_witness" 2)) (fJ m z) (lh va vb N rows r)=ac (.next,lh va vb N (rows++hY (gk fa fb) (fK fa fb) m z) r')
 |0,z,rows,r,_,_,_,_=>⟨r,by rw [show hY (gk fa fb) (fK fa fb) 0 z=[]from rfl,ka];rfl⟩
 |m+1,z,rows,r,h0,h1,h2,hr=>by
  have hl:bB rows.length lim=ag:=lw (by exact OJ h2);have hlen:(@aN (λO=>List ak) rows (rows++[fK fa fb z]) (gk fa fb z)).length+m<=lim:=by
   cases gk fa fb z
   ·refine(?_:rows.length+m<=lim);exact lW h2
   ·refine(?_:(rows++[_]).length+m<=lim);refine af gx ?_;refine(?_:rows.length+1+m<=lim);(simp only [nI,kB,tQ]at*;first|assumption|omega)
  have zq:=(Lh I (N:=N) m (z+1) _ [(ao "ts",.fz (aV z (dW z)))] (oF z) (by(simp only [nI,kB,tQ]at*;first|assumption|omega)) hlen (λd=>by left));refine aw zq λr' e=>?_;clear zq;refine⟨r',eX (d:=aV z (dW z)) (σ1:=lh va vb N rows [(ao "ts",.fz (aV z (dW z)))]) ?_ (VC I h0 (by lia) hl) (e.trans ?_)⟩
  ·rw [<-hr];left
  ·refine(?_:ac (cQ.next,lh va vb N (@aN (λO=>List ak) rows (rows++[fK fa fb z]) (gk fa fb z)++hY (gk fa fb) (fK fa fb) m (z+1)) r')=ac (cQ.next,lh va vb N (rows++ @aN (λO=>List ak) (hY (gk fa fb) (fK fa fb) m (z+1)) (fK fa fb z::hY (gk fa fb) (fK fa fb) m (z+1)) (gk fa fb z)) r'))
   cases gk fa fb z
   ·rfl
   ·refine(?_:ac (cQ.next,lh va vb N ((rows++[fK fa fb z])++_) r')=_)
    rw [ja];rfl
theorem TE(x y:Nat):jc [(y:Int)] (x:Int)=((cK x y:Nat):Int):=by
 refine(?_:@aN (λO=>Int) (x:Int) (y:Int) (jY x y)=_);have e:cK x y=if x<=y then y else x:=Nat.max_def;refine af e ?_;unfold jY;by_cases h:(x:Int)<y
 ·exact af (decide_eq_true h) (af (if_pos (by lia)) rfl)
 ·refine af (decide_eq_false h) ?_
  by_cases h':x<=y
  ·refine af (if_pos h') ?_;refine(?_:(x:Int)=y);lia
  ·exact af (if_neg h') rfl
theorem M0(I:sE sp va vb x y fa fb)(k:Nat)(h1:Ba (ao "max") e)(h2:sV (ao "longest_run_of_spaces") (cO e 0))(h3:sV (ao "longest_run_of_spaces") (cO e 1))(h4:xs e=[cO e 0,cO e 1])(h5:xs (cO e 0)=[])(h6:xs (cO e 1)=[])(h8:(run (bJ sp) (k+2)).ev sc σ (bK e)=ac (.hd (.bf .max),σ))(h9:(run (bJ sp) (k+1)).ev sc σ (bK (bK (cO e 0)))=ac (.inst cr va,σ))(h10:(run (bJ sp) (k+1)).ev sc σ (bK (bK (cO e 1)))=ac (.inst cr vb,σ)):
  (run (bJ sp) (k+3)).ev sc σ e=ac (aV (cK x y) 16,σ):=by
 have ca:∀E:bQ,(step (bJ sp) E).call 151 [.inst cr va]=ac (aV x 16):=λE=>iJ I.la;have cb:∀E:bQ,(step (bJ sp) E).call 151 [.inst cr vb]=ac (aV y 16):=λE=>iJ I.lb;refine jn (ds:=[aV x 16,aV y 16]) h1 h8 rfl ?_ ((by left:on (bJ sp) (run (bJ sp) (k+2)) (.bf .max) [aV x 16,aV y 16]=ac (.int (jc [(y:Int)] x) 16)).trans (by rw [TE];rfl));refine af h4 ?_;exact iV (jK (m:=ao "longest_run_of_spaces") (o:=.inst cr va) (ds:=[]) h2 h9 (by left) (by left) (by refine af h5 ?_;rfl) ((by left:fk (bJ sp) (run (bJ sp) (k+1)) (.inst cr va) (ao "longest_run_of_spaces") []=(run (bJ sp) (k+1)).call 151 [.inst cr va]).trans (ca _)))
   (iV (jK (m:=ao "longest_run_of_spaces") (o:=.inst cr vb) (ds:=[]) h3 h10 (by left) (by left) (by refine af h6 ?_;rfl) ((by left:fk (bJ sp) (run (bJ sp) (k+1)) (.inst cr vb) (ao "longest_run_of_spaces") []=(run (bJ sp) (k+1)).call 151 [.inst cr vb]).trans (cb _))) m9)
theorem QO(I:sE sp va vb x y fa fb)(hs:sp 186 [.inst cr va,.inst cr vb]=ae)(hm:cK x y<=1000):(run (bJ sp) 39).call 186 [.inst cr va,.inst cr vb]=ac (.list (hY (gk fa fb) (fK fa fb) (cK x y+1) 1)):=by
 have zq:=(Lh I (N:=aV (cK x y+1) 17) (cK x y+1) 1 [] [] (oF 0) (by lia) (by refine(?_:0+_<=1048576);lia) (λd=>by left));refine aw zq λr' e=>?_;clear zq;have hb:(cw "not_less_witness").body=[dO "not_less_witness" 0,dO "not_less_witness" 1,dO "not_less_witness" 2,dO "not_less_witness" 3]:=by left
 refine sB (f:=cw "not_less_witness") (σ:=[(ao "self",.fz (.inst cr va)),(ao "other",.fz (.inst cr vb))]) hs (by left) (by left) (p:=(.ret (.list (hY (gk fa fb) (fK fa fb) (cK x y+1) 1)),(ao "self",.fz (.inst cr va))::(ao "other",.fz (.inst cr vb))::(ao "n",.fz (aV (cK x y+1) 17))::(ao "a",.fz (.list (hY (gk fa fb) (fK fa fb) (cK x y+1) 1)))::r')) ?_ rfl;refine af hb ?_;have hn:∀k,(run (bJ sp) (k+3)).ev (cS "not_less_witness") [(ao "self",.fz (.inst cr va)),(ao "other",.fz (.inst cr vb))] (bK (bl (dO "not_less_witness" 0)))=ac (aV (cK x y) 16,[(ao "self",.fz (.inst cr va)),(ao "other",.fz (.inst cr vb))]):=λk=>
  M0 I k (by left) (by left) (by left) (by left) (by left) (by left) (by left) (by left) (by left)
 refine cf (CB (x:=ao "n") (by left) (hn 34) rfl (ki (op:=.Add) (d:=aV (cK x y+1) 17) (by left) (hn 33) (by left:_=ac (.int 1 1,_)) (by left)) (by left)) ?_;refine cf (σ1:=lh va vb (aV (cK x y+1) 17) [] []) (by left) ?_;refine cf (σ1:=lh va vb (aV (cK x y+1) 17) (hY (gk fa fb) (fK fa fb) (cK x y+1) 1) r') (nG (d:=.rng 1 (((cK x y+1:Nat):Int)+1)) (σ1:=lh va vb (aV (cK x y+1) 17) [] []) (l:=fJ (((cK x y+1:Nat):Int)+1-1).toNat 1) (by left) (by left) (by left) ?_) ?_
 ·refine af (show(((cK x y+1:Nat):Int)+1-1).toNat=cK x y+1 by simp) ?_
  exact e
 ·exact mh (By (by left) (by left))
def yu(p:Nat->Bool)(m:Nat):Nat->Bool:=@gW (λO=>Nat->Bool) (λO=>ag) (λO ih z=>aN (ih (z+1)) am (p z)) m
abbrev fm(r:ak)(n t:Nat)(m:ak)(s:Bool):List ak:=[r,aV n 8,aV t 8,m,.bool s]
abbrev j5(va vb:List ak)(N:ak)(r:aA):aA:=(ao "self",.fz (.inst cr va))::(ao "other",.fz (.inst cr vb))::(ao "n",.fz N)::r
theorem YC(I:sE sp va vb x y fa fb){z:Nat}(h0:0<z)(h1:z<=cK x y+1):
  b9 (run (bJ sp) 37) (cS "less") (bF (dO "less" 3)) (j5 va vb N [(ao "ts",.fz (aV z k))])=aN (ac (.next,j5 va vb N [(ao "ts",.fz (aV z k))])) (ac (.ret (.bool am),j5 va vb N [(ao "ts",.fz (aV z k))])) (ld (fb z) (fa z)):=by
 have ca:∀E:bQ,(step (bJ sp) E).call 158 [.inst cr va,aV z k]=ac (aV (fa z) 64):=λE=>iJ (I.ia z k h0 h1);have cb:∀E:bQ,(step (bJ sp) E).call 158 [.inst cr vb,aV z k]=ac (aV (fb z) 64):=λE=>iJ (I.ib z k h0 h1);have hb:bF (dO "less" 3)=[cP (bF (dO "less" 3)) 0]:=by left
 refine af hb ?_;have ht:(run (bJ sp) 36).ts (cS "less") (j5 va vb N [(ao "ts",.fz (aV z k))]) (bl (cP (bF (dO "less" 3)) 0))=ac (ld (fb z) (fa z),j5 va vb N [(ao "ts",.fz (aV z k))]):=
  rz (op:=.GtE) (by left) (jK (m:=ao "indent_level") (o:=.inst cr va) (ds:=[aV z k]) (by left) (by left) (by left) (by left) (by left) ((by left:fk (bJ sp) (run (bJ sp) 34) (.inst cr va) (ao "indent_level") [aV z k]=(run (bJ sp) 34).call 158 [.inst cr va,aV z k]).trans (ca _)))
   (jK (m:=ao "indent_level") (o:=.inst cr vb) (ds:=[aV z k]) (by left) (by left) (by left) (by left) (by left) ((by left:fk (bJ sp) (run (bJ sp) 34) (.inst cr vb) (ao "indent_level") [aV z k]=(run (bJ sp) 34).call 158 [.inst cr vb,aV z k]).trans (cb _))) (by left)
 cases q:ld (fb z) (fa z)with
 |false=>exact cf (hH (by left) (q▸ht) (by left)) js
 |true=>exact mh (hH (by left) (q▸ht) (by left))
theorem Ms(I:sE sp va vb x y fa fb):∀(m z:Nat)(r:aA),0<z->z+m<=cK x y+2->(∀d,put (ao "ts") (.fz d) (j5 va vb N r)=j5 va vb N [(ao "ts",.fz d)])->
  ∃r',lO (run (bJ sp) 37) (cS "less") (gu (dO "less" 3)) (bF (dO "less" 3)) (fJ m z) (j5 va vb N r)=ac (aN (.ret (.bool am)) .next (yu (gk fa fb) m z),j5 va vb N r')
 |0,z,r,_,_,_=>⟨r,rfl⟩
 |m+1,z,r,h0,h1,hr=>by
  have he:=YC I (N:=N) (k:=dW z) h0 (by lia:z<=cK x y+1);have ha:i7 (cS "less") (j5 va vb N r) (gu (dO "less" 3)) (aV z (dW z))=ac (j5 va vb N [(ao "ts",.fz (aV z (dW z)))]):=by rw [<-hr];left
  refine(?_:∃r',lO (run (bJ sp) 37) (cS "less") (gu (dO "less" 3)) (bF (dO "less" 3)) (aV z (dW z)::fJ m ((z+1:Nat):Int)) (j5 va vb N r)=ac (@aN (λO=>cQ) (.ret (.bool am)) .next (@aN (λO=>Bool) (yu (gk fa fb) m (z+1)) am (ld (fb z) (fa z))),j5 va vb N r'));cases q:ld (fb z) (fa z)with
  |true=>
   rw [q]at he;exact⟨_,SF ha he⟩
  |false=>
   rw [q]at he;have zq:=(Ms I (N:=N) m (z+1) [(ao "ts",.fz (aV z (dW z)))] (oF z) (by(simp only [nI,kB,tQ]at*;first|assumption|omega)) (λd=>by left));refine aw zq λr' e=>?_;clear zq;exact⟨r',eX ha he e⟩
def Co(na nb ta tb:Nat)(sa sb:Bool)(x y:Nat)(fa fb:Nat->Nat):Bool:=aN (aN (yu (gk fa fb) (cK x y) 2) (ld ta tb) (sa&&sb)) am (ld nb na)
theorem XJ(I:sE sp (fm ra na ta ma sa) (fm rb nb tb mb sb) x y fa fb)(hs:sp 179 [.inst cr (fm ra na ta ma sa),.inst cr (fm rb nb tb mb sb)]=ae)(hm:cK x y<=1000):
  (run (bJ sp) 39).call 179 [.inst cr (fm ra na ta ma sa),.inst cr (fm rb nb tb mb sb)]=ac (.bool (Co na nb ta tb sa sb x y fa fb)):=by
 have hb:(cw "less").body=[dO "less" 0,dO "less" 1,dO "less" 2,dO "less" 3,dO "less" 4]:=by left
 suffices∃σ',b9 (run (bJ sp) 38) (cS "less") (cw "less").body [(ao "self",.fz (.inst cr (fm ra na ta ma sa))),(ao "other",.fz (.inst cr (fm rb nb tb mb sb)))]=ac (.ret (.bool (Co na nb ta tb sa sb x y fa fb)),σ') by
  refine aw this λσ' e=>?_;clear this;exact sB (f:=cw "less") (σ:=[(ao "self",.fz (.inst cr (fm ra na ta ma sa))),(ao "other",.fz (.inst cr (fm rb nb tb mb sb)))]) hs (by left) (by left) e rfl
 refine af hb ?_;have t0:(run (bJ sp) 37).ts (cS "less") [(ao "self",.fz (.inst cr (fm ra na ta ma sa))),(ao "other",.fz (.inst cr (fm rb nb tb mb sb)))] (bl (dO "less" 0))=ac (ld nb na,[(ao "self",.fz (.inst cr (fm ra na ta ma sa))),(ao "other",.fz (.inst cr (fm rb nb tb mb sb)))]):=by left
 unfold Co;cases q0:ld nb na with
 |true=>exact⟨[(ao "self",bk.fz (.inst cr (fm ra na ta ma sa))),(ao "other",bk.fz (.inst cr (fm rb nb tb mb sb)))],mh (hH (by left) (q0▸t0) (by left))⟩
 |false=>
  have t1:(run (bJ sp) 37).ts (cS "less") [(ao "self",.fz (.inst cr (fm ra na ta ma sa))),(ao "other",.fz (.inst cr (fm rb nb tb mb sb)))] (bl (dO "less" 1))=ac (sa&&sb,[(ao "self",.fz (.inst cr (fm ra na ta ma sa))),(ao "other",.fz (.inst cr (fm rb nb tb mb sb)))]):=by
   induction sa using hO<;>induction sb using hO<;>left
  cases bC:sa&&sb with
  |true=>exact⟨[(ao "self",bk.fz (.inst cr (fm ra na ta ma sa))),(ao "other",bk.fz (.inst cr (fm rb nb tb mb sb)))],cf (hH (by left) (q0▸t0) (by left)) (mh (hH (by left) (bC▸t1) (by left)))⟩
  |false=>
   have hn:∀k,(run (bJ sp) (k+3)).ev (cS "less") [(ao "self",.fz (.inst cr (fm ra na ta ma sa))),(ao "other",.fz (.inst cr (fm rb nb tb mb sb)))] (bK (bl (dO "less" 2)))=ac (aV (cK x y) 16,[(ao "self",.fz (.inst cr (fm ra na ta ma sa))),(ao "other",.fz (.inst cr (fm rb nb tb mb sb)))]):=λk=>
    M0 I k (by left) (by left) (by left) (by left) (by left) (by left) (by left) (by left) (by left)
   have zq:=(Ms I (N:=aV (cK x y+1) 17) (cK x y) 2 [] (by decide) (by lia) (λd=>by left));refine aw zq λr' e=>?_;clear zq;have el:(run (bJ sp) 38).ex (cS "less") (j5 (fm ra na ta ma sa) (fm rb nb tb mb sb) (aV (cK x y+1) 17) []) (dO "less" 3)=ac (aN (.ret (.bool am)) .next (yu (gk fa fb) (cK x y) 2),j5 (fm ra na ta ma sa) (fm rb nb tb mb sb) (aV (cK x y+1) 17) r'):=
    nG (d:=.rng 2 (((cK x y+1:Nat):Int)+1)) (σ1:=j5 (fm ra na ta ma sa) (fm rb nb tb mb sb) (aV (cK x y+1) 17) []) (l:=fJ (((cK x y+1:Nat):Int)+1-2).toNat 2) (by left) (by left) (by left) (by refine af (show(((cK x y+1:Nat):Int)+1-2).toNat=cK x y by lia) ?_;exact e)
   cases q2:yu (gk fa fb) (cK x y) 2 with
   |true=>
    rw [q2]at el;exact⟨j5 (fm ra na ta ma sa) (fm rb nb tb mb sb) (aV (cK x y+1) 17) r',cf (hH (by left) (q0▸t0) (by left)) (cf (hH (by left) (bC▸t1) (by left)) (cf (CB (x:=ao "n") (by left) (hn 34) rfl (ki (op:=.Add) (d:=aV (cK x y+1) 17) (by left) (hn 33) (by left:_=ac (.int 1 1,_)) (by left)) (by left)) (cf (el) (mh (FE (by left) (by left:_=ac (ak.bool ag,_)))))))⟩
   |false=>
    rw [q2]at el;exact⟨j5 (fm ra na ta ma sa) (fm rb nb tb mb sb) (aV (cK x y+1) 17) r',cf (hH (by left) (q0▸t0) (by left)) (cf (hH (by left) (bC▸t1) (by left)) (cf (CB (x:=ao "n") (by left) (hn 34) rfl (ki (op:=.Add) (d:=aV (cK x y+1) 17) (by left) (hn 33) (by left:_=ac (.int 1 1,_)) (by left)) (by left)) (mh (el))))⟩
theorem Sx(l:List T):l8 (l.map λs=>gc s.length)=ac (l.map λs=>(s.length:Int),@bW T (λO=>Nat) 0 (λO O O=>15) l):=by
 induction l with
 |nil=>rfl
 |cons s r ih=>
  refine(?_:ob (l8 (r.map λs=>gc s.length)) _=_);refine af ih ?_;induction r using dD<;>rfl
theorem Qm(l:List T):∀a:Nat,jc (l.map λs=>(s.length:Int)) a=((cK a (oA (l.map fF)):Nat):Int):=by
 induction l with
 |nil=>intro a;refine(?_:(a:Int)=((cK a 0:Nat):Int));refine(?_:(a:Int)=((max a 0:Nat):Int));simp
 |cons s r ih=>
  intro a;refine(?_:@aN (λO=>Int) (jc (r.map λs=>(s.length:Int)) a) (jc (r.map λs=>(s.length:Int)) (s.length:Int)) (jY a s.length)=((cK a (cK s.length (oA (r.map fF))):Nat):Int));unfold jY;by_cases h:(a:Int)<s.length
  ·refine af (decide_eq_true h) ?_
   refine(?_:jc _ _=_);refine(ih _).trans (congrArg Int.ofNat (?_:max s.length (oA (r.map fF))=max a (max s.length (oA (r.map fF)))));exact(Nat.max_eq_right (bM (lW (Int.ofNat_lt.mp h)) (HE _ _))).symm
  ·refine af (decide_eq_false h) ?_
   refine(?_:jc _ _=_);refine(ih _).trans (congrArg Int.ofNat (?_:max a (oA (r.map fF))=max a (max s.length (oA (r.map fF)))));rw [<-Nat.max_assoc,Nat.max_eq_left (OK.mp (Int.not_lt.mp h))]
abbrev rA(i:Nat):bY:=dO "_law_witness" i
abbrev kn(la lb:T):aA:=[(ao "lead",.fz (.str la 4)),(ao "below",.fz (.str lb 4))]
def ku(la lb:T):List T:=(c8 9 (la++[9]++lb)).1::(c8 9 (la++[9]++lb)).2
abbrev nX:aK:=cO (bl (rA 0)) 0
theorem FT(l:List T):qR l=l.map λs=>.str s s.length:=by
 induction l with
 |nil=>rfl
 |cons s r ih=>show ak.str s s.length::qR r=_;refine af ih ?_;rfl
def JC(d:ak):ak:=match d with|.str s _=>gc s.length|d=>d
theorem Tz(h:∀s∈ku la lb,s.length<=100)(hn:(ku la lb).length<=100):(run (bJ sp) 37).ev (cS "_law_witness") (kn la lb) (bl (rA 0))=ac (aV (oA ((ku la lb).map fF)) 15,kn la lb):=by
 have hc:gK (dj (cS "_law_witness") nX) (jg nX) (iy (run (bJ sp) 35) (dj (cS "_law_witness") nX) (ge nX) (bK nX)) (qR (ku la lb)) (kN (kt nX) (frz (kt nX) (kn la lb))) []=ac (([]:List ak)++(qR (ku la lb)).map JC):=by
  rw [show ge nX=[] by left];refine ti (K:=λd=>[(ao "run",.fz d)]) (P:=λd=>∃s,d=.str s s.length/\s.length<=100) (λd' d O=>by left) ?_ _ _ _ ?_ (λd O=>by left) ?_
  ·rintro d ⟨s,rfl,hs⟩
   have e:(run (bJ sp) 35).ev (dj (cS "_law_witness") nX) [(ao "run",.fz (.str s s.length))] (bK nX)=ob (aS (bB s.length 32767) (ac (gc s.length))) λd=>ac (d,[(ao "run",.fz (.str s s.length))]):=by left
   rw [e,show bB s.length 32767=ag from lw (by exact bM hs (ik 100 32667))];rfl
  ·intro d hd
   rw [FT]at hd;refine aw (jD.mp hd) λs q0'=>ay q0' λhs z1=>?_;clear q0';subst z1;exact⟨s,rfl,h s hs⟩
  ·rw [FT,gj];refine(?_:0+_<=1048576);lia
 have he:(run (bJ sp) 36).ev (cS "_law_witness") (kn la lb) nX=ac (.list ((ku la lb).map λs=>gc s.length),kn la lb):=by
  rw [show(ku la lb).map (λs=>gc s.length)=[]++(qR (ku la lb)).map JC by rw [FT,jB];rfl];exact ve (by left) (σ1:=kn la lb) (by left) hc
 have hb:on (bJ sp) (run (bJ sp) 36) (.bf .max) [.list ((ku la lb).map λs=>gc s.length)]=ac (aV (oA ((ku la lb).map fF)) 15):=by
  refine(?_:bA (ob (l8 ((ku la lb).map λs=>gc s.length)) λp=>@bW Int (λO=>Option ak) ae (λi l O=>ac (.int (jc l i) p.2)) p.1) _=_);rw [Sx];refine(?_:ac (ak.int (jc (((c8 9 (la++[9]++lb)).2).map λs=>(s.length:Int)) ((c8 9 (la++[9]++lb)).1.length:Int)) 15)=_);rw [Qm];rfl
 exact jn (x:=ao "max") (h:=.bf .max) (by left) (by left) rfl (by refine af (show xs (bl (rA 0))=[nX] by left) ?_;exact iV he m9) hb
structure IZ(sp:Nat->List ak->Option ak)(la lb:T)(L:Nat)(fa fb:Nat->Nat):Prop where
 ca:∀z k,0<z->z<=L+1->sp 259 [.str la 4,aV z k]=ac (aV (fa z) 64)
 cb:∀z k,0<z->z<=L+1->sp 259 [.str lb 4,aV z k]=ac (aV (fb z) 64)
theorem DS:∀(m z:Nat),d∈fJ m z->∃y,d=aV y (dW y)/\z<=y/\y<z+m
 |0,z,h=>nomatch h
 |m+1,z,h=>by
  have h:d∈aV z (dW z)::fJ m ((z+1:Nat):Int):=h;rcases cI.mp h with h|h
  ·exact⟨z,h,bZ _,by simp⟩
  ·refine aw (DS m (z+1) h) λy q2'=>bu q2' λe h1 h2=>?_;clear q2'
   exact⟨y,e,by exact lW h1,by(simp only [nI,kB,tQ]at*;first|assumption|omega)⟩
theorem Eo:∀(m:Nat)(z:Int),(fJ m z).length=m
 |0,z=>rfl
 |m+1,z=>congrArg (· +1) (Eo m (z+1))
def pr(fa fb:Nat->Nat)(d:ak):ak:=match d with|.int (.ofNat z) k=>yv fa fb (z,k)|d=>d
def Ax(d:ak):Bool:=match d with|.tup [_,.int a _,.int b _]=>ld b a|_=>am
theorem Lo:∀(m z:Nat),(((fJ m z).map (pr fa fb)).filter Ax).map id=hY (gk fa fb) (fK fa fb) m z
 |0,z=>rfl
 |m+1,z=>by
  refine(?_:((aaj Ax (fK fa fb z::(fJ m ((z+1:Nat):Int)).map (pr fa fb)))).map id=@aN (λO=>List ak) (hY (gk fa fb) (fK fa fb) m (z+1)) (fK fa fb z::hY (gk fa fb) (fK fa fb) m (z+1)) (gk fa fb z));refine af OI (af (show Ax (fK fa fb z)=gk fa fb z from rfl) (af (Lo m (z+1)).symm ?_));cases gk fa fb z<;>rfl
abbrev oe:aK:=bl (rA 1)
abbrev oQ:aK:=bl (rA 2)
theorem X6(I:IZ sp la lb L fa fb)(hs:sp 264 [.str la 4,.str lb 4]=ae)(h:∀s∈ku la lb,s.length<=100)(hn:(ku la lb).length<=100)(hL:oA ((ku la lb).map fF)=L)(hm:L<=1000):
  (run (bJ sp) 39).call 264 [.str la 4,.str lb 4]=ac (.list (hY (gk fa fb) (fK fa fb) (L+1) 1)):=by
 have hb:(cw "_law_witness").body=[rA 0,rA 1,rA 2]:=by left
 have hlen:(((L+1:Nat):Int)+1-1).toNat=L+1:=by simp
 have e1:gK (dj (cS "_law_witness") oe) (jg oe) (iy (run (bJ sp) 37) (dj (cS "_law_witness") oe) (ge oe) (bK oe)) (fJ (L+1) 1) (kN (kt oe) (frz (kt oe) (kn la lb++[(ao "longest",.fz (aV L 15))]))) []=ac ([]++(fJ (L+1) 1).map (pr fa fb)):=by
  refine af (show ge oe=[] by left) ?_;refine ti (K:=λd=>[(ao "below",.fz (.str lb 4)),(ao "lead",.fz (.str la 4)),(ao "size",.fz d)]) (P:=λd=>∃z,d=aV z (dW z)/\0<z/\z<=L+1) (λd' d O=>by left) ?_ _ _ _ ?_ (λd O=>by left) (by rw [Eo];refine(?_:0+(L+1)<=1048576);lia)
  ·rintro d ⟨z,rfl,h0,h1⟩
   refine A0 (by left) ?_;refine af (show xs (bK oe)=[cO (bK oe) 0,cO (bK oe) 1,cO (bK oe) 2] by left) ?_;refine iV (by left) (iV (jn (x:=ao "_law_column") (h:=.fn 259) (ds:=[.str la 4,aV z (dW z)]) (by left) (by left) rfl (by left) (iJ (I.ca z _ h0 h1):(run (bJ sp) 35).call 259 _=_)) (iV (jn (x:=ao "_law_column") (h:=.fn 259) (ds:=[.str lb 4,aV z (dW z)]) (by left) (by left) rfl (by left) (iJ (I.cb z _ h0 h1):(run (bJ sp) 35).call 259 _=_)) m9))
  ·intro d hd
   refine aw (DS (L+1) 1 hd) λz q1'=>bu q1' λe h1 h2=>?_;clear q1';exact⟨z,e,by assumption,by exact(λ{m n}=>Nat.lt_one_add_iff.mp) h2⟩
 have s1:(run (bJ sp) 38).ex (cS "_law_witness") (kn la lb++[(ao "longest",.fz (aV L 15))]) (rA 1)=ac (.next,kn la lb++[(ao "longest",.fz (aV L 15)),(ao "rows",.fz (.list ((fJ (L+1) 1).map (pr fa fb))))]):=
  (xc (x:=ao "rows") (by left) (uK (σ1:=kn la lb++[(ao "longest",.fz (aV L 15))]) (l:=fJ (L+1) 1) (by left) ((by left:_=ac (fJ (((L+1:Nat):Int)+1-1).toNat 1,kn la lb++[(ao "longest",.fz (aV L 15))])).trans (by exact af hlen rfl)) e1) (by left)).trans (by left)
 have e2:gK (dj (cS "_law_witness") oQ) (jg oQ) (iy (run (bJ sp) 36) (dj (cS "_law_witness") oQ) (ge oQ) (bK oQ)) ((fJ (L+1) 1).map (pr fa fb)) (kN (kt oQ) (frz (kt oQ) (kn la lb++[(ao "longest",.fz (aV L 15)),(ao "rows",.fz (.list ((fJ (L+1) 1).map (pr fa fb))))]))) []=ac ([]++(((fJ (L+1) 1).map (pr fa fb)).filter Ax).map id):=by
  rw [show ge oQ=[(ge oQ).getD 0 oQ] by left];refine NI (K:=λd=>[(ao "row",.fz d)]) (P:=λd=>∃z k,d=yv fa fb (z,k)) (λd' d O=>by left) ?_ ?_ _ _ _ ?_ (λd O=>by left) (by rw [gj,Eo];refine(?_:0+(L+1)<=1048576);lia)
  ·rintro d ⟨z,k,rfl⟩;left
  ·rintro d ⟨z,k,rfl⟩;left
  ·intro d hd
   refine aw (jD.mp hd) λe q0'=>ay q0' λhe z1=>?_;clear q0';subst z1;refine aw (DS (L+1) 1 he) λz q2'=>ay q2' λz0 O=>?_;clear q2';subst z0;exact⟨z,_,rfl⟩
 have s2:(run (bJ sp) 37).ev (cS "_law_witness") (kn la lb++[(ao "longest",.fz (aV L 15)),(ao "rows",.fz (.list ((fJ (L+1) 1).map (pr fa fb))))]) oQ=ac (.list (hY (gk fa fb) (fK fa fb) (L+1) 1),kn la lb++[(ao "longest",.fz (aV L 15)),(ao "rows",.fz (.list ((fJ (L+1) 1).map (pr fa fb))))]):=by
  rw [<-Lo];exact ve (σ1:=kn la lb++[(ao "longest",.fz (aV L 15)),(ao "rows",.fz (.list ((fJ (L+1) 1).map (pr fa fb))))]) (by left) (by left) e2
 refine sB (f:=cw "_law_witness") (σ:=kn la lb) hs (by left) (by left) (p:=(.ret (.list (hY (gk fa fb) (fK fa fb) (L+1) 1)),kn la lb++[(ao "longest",.fz (aV L 15)),(ao "rows",.fz (.list ((fJ (L+1) 1).map (pr fa fb))))])) ?_ rfl;refine af hb ?_;subst hL;exact cf (TJ (x:=ao "longest") (by left) (Tz h hn) (by left)) (cf s1 (mh (FE (by left) s2)))
abbrev fL(w:b7)(os:dl)(sp:Nat->List ak->Option ak)(ns:List ak->Option ak):cg:=bL w os km sp ns
theorem DW{w:b7}{os:dl}{sp sp':Nat->List ak->Option ak}{ns ns':List ak->Option ak}{F:bn}{s:aC}(h:bD (fL w os sp ns) F s):bD (fL w os sp' ns') F s:=⟨h.base,h.sat,h.tabs,h.os,h.gens,h.tk⟩
theorem IB{w:b7}{os:dl}{sp sp':Nat->List ak->Option ak}{ns ns':List ak->Option ak}{F F':bn}{s s':aC}(h:Pass (fL w os sp ns) F s F' s'):Pass (fL w os sp' ns') F s F' s':=⟨h.le,DW h.ok,h.keep,h.new⟩
structure zg:Prop where
 pat:∀w os sp ns,td (fL w os sp ns)
 sub:∀w os sp ns (E:bQ) (n:Nat),dp (fL w os sp ns) E n->zy (fL w os sp ns) E n
def qC(w:b7)(os:dl)(o:List ak->Option ak)(ds:List ak)(d:ak):Prop:=∃es c,o es=ac c/\(∀(sp:Nat->List ak->Option ak)(ns:List ak->Option ak)(F:bn) vs,br (fL w os sp ns) F vs ds->br (fL w os sp ns) F vs es)/\∀(sp:Nat->List ak->Option ak)(ns:List ak->Option ak)(F:bn) v,aH (fL w os sp ns) F v c->aH (fL w os sp ns) F v d
theorem Lj{w:b7}{os:dl}{sp:Nat->List ak->Option ak}{ns:List ak->Option ak}(bk:zg){K:Nat}(hs:∀(A:cH) (F:bn) (s:aC) (k:Nat) (vs:List aF) (ds:List ak) (d:ak),bX K A->bD (fL w os sp ns) F s->br (fL w os sp ns) F vs ds->sp k ds=ac d->lr (aQ (fL w os sp ns).prog (fL w os sp ns).w) A (.call ((fL w os sp ns).val (.fn k)) ⟨vs,[]⟩) (λr s'=>∃v,r=.ok (.ret v)/\be (Pass (fL w os sp ns) F s) F (aZ (fL w os sp ns) d) v s') s)(hn:A3 (fL w os sp ns) K):pR (fL w os sp ns) K where
 go:=SN
 ins:=Sz
 call:=Qj
 fns:=IF
 cls:=YS
 pat:=bk.pat w os sp ns
 sub:=bk.sub w os sp ns
 spec:=hs
 nspec:=hn
theorem Lm{w:b7}{os:dl}{sp sp':Nat->List ak->Option ak}{ns ns':List ak->Option ak}(bk:zg){K n:Nat}(Z:pR (fL w os sp ns) K)(ok:∀k ds d,sp' k ds=ac d->qC w os ((run (oi km sp ns) n).call k) ds d)(okn:∀ds d,ns' ds=ac d->qC w os (sX (oi km sp ns) (run (oi km sp ns) n)) ds d):pR (fL w os sp' ns') (n+K+1):=
 Lj bk (λA F s k vs ds d R hf r h=>by
  refine bV (ok k ds d h) λes c q1'=>bu q1' λe1 e2 e3=>?_;clear q1';have q:=(Cy Z n).call A F s k vs es c (R.mono (mK _)) (DW hf) (e2 sp ns F vs r) e1;exact zZ q λr s' h=>by
   refine aw h λv q2'=>ay q2' λn5 q0'=>?_;clear h q2';rcases q0' with⟨F2,le2,p,rd⟩
   exact⟨v,n5,F2,le2,IB p,e3 sp ns F2 v rd⟩)
 λA F s vs ds d R hf r h=>by
  refine bV (okn ds d h) λes c q1'=>bu q1' λe1 e2 e3=>?_;clear q1';have q:=Kc Z.nspec (tO (ik K n)) Z.cls Z.fns (Cy Z n) R (DW hf) (e2 sp ns F vs r) e1;exact cn q (λv s' o=>by
   obtain⟨F2,le2,p,rd⟩:=o;exact⟨F2,le2,IB p,e3 sp ns F2 v rd⟩) λO O z=>z
noncomputable def kT(ds:List ak):T:=match ds with
 |.str s _::_=>s
 |.inst _ (.str s _::_)::_=>s
 |_=>[]
def Ep(ds:List ak):T:=kT (ds.drop 1)
noncomputable def H4(ds:List ak):Nat:=match ds with
 |_:: .int (.ofNat z) _::_=>z
 |_=>0
def i8(s:T):Nat:=cK ((vV s).length-1) (En (vq s))
open Classical in
def i9(p:Prop)(d:ak):Option ak:=if p then ac d else ae
theorem mz{p:Prop}(h:p):i9 p d=ac d:=if_pos h
theorem o9{p:Prop}(h:i9 p d=ac e):p/\d=e:=by
 unfold i9 at h;by_cases q:p
 ·rw [if_pos q]at h;exact⟨q,eJ h⟩
 ·rw [if_neg q]at h;exact aW h
theorem abk{p:Prop}(h:¬p):i9 p d=ae:=if_neg h
def ZA(ds:List ak):Prop:=∃s z m,s∈fe/\0<z/\z<=5/\ds=[.str s 4,aV z m]
def Wx(ds:List ak):Prop:=∃s z m,s∈fe/\0<z/\z<=5/\ds=[dq s,aV z m]
def WM(ds:List ak):Prop:=∃s,s∈fe/\ds=[dq s]
def Bn(l:List (Nat×(List ak->Option ak)))(z:Nat->List ak->Option ak)(k:Nat)(ds:List ak):Option ak:=@dL (List ak->Option ak) (λO=>Option ak) (z k ds) (λf=>f ds) (jk k l)
theorem J7{l:List (Nat×(List ak->Option ak))}{z:Nat->List ak->Option ak}{Q:Nat->List ak->ak->Prop}(h0:∀k ds d,z k ds=ac d->Q k ds d)(h1:∀p∈l,∀ds d,p.2 ds=ac d->Q p.1 ds d){k:Nat}(h:Bn l z k ds=ac d):Q k ds d:=by
 unfold Bn at h;cases q:jk k l with
 |none=>rw [q]at h;exact h0 k ds d h
 |some f=>rw [q]at h;exact h1 (k,f) (E5 l q) ds d h
def mU:Nat->List ak->Option ak:=Bn [(259,λds=>i9 (ZA ds) (aV (zl (H4 ds) (kT ds) 0) 64)),(158,λds=>i9 (Wx ds) (aV (zl (H4 ds) (kT ds) 0) 64)),(151,λds=>i9 (WM ds) (aV (i8 (kT ds)) 16))] pi
theorem Ft{w:b7}{os:dl}{o:List ak->Option ak}{ds es:List ak}{d:ak}(h:rx (o es) d=ag)(hr:∀(sp:Nat->List ak->Option ak) (ns:List ak->Option ak) (F:bn) vs,br (fL w os sp ns) F vs ds->br (fL w os sp ns) F vs es):qC w os o ds d:=by
 refine aw (A8 h) λc q2'=>ay q2' λe r=>?_;clear q2';exact⟨es,c,e,hr,λsp ns F v=>r _ F v⟩
theorem zw{n:Nat}(m:Nat)(h:n<64*m):eL n<=64*m:=zI 64 (aaA h)
theorem EO{n:Nat}(h:n<64):eL n=64:=by unfold eL;rw [Nat.div_eq_of_lt h]
theorem H6{z:Nat}(h0:0<z)(h1:z<=5):z∈[1,2,3,4,5]:=by
 have:=Me h0 h1;simp [this]
theorem Gc{z:Nat}(h1:z<=5)(r:aH G F v (aV z m)):aH G F v (aV z 3):=aH.int_el r λt e O=>by
 (symm;subst e);exact aH.int (show((z:Int)).natAbs<2^3 by exact mH h1 (of_decide_eq_true (id (tN ag))))
theorem WB{w:b7}{os:dl}(k:Nat)(ds:List ak)(d:ak)(h:mU k ds=ac d):qC w os ((run (oi km pi sC) 39).call k) ds d:=by
 refine J7 (Q:=λk ds d=>qC w os ((run (oi km pi sC) 39).call k) ds d) (λk ds d h=>⟨ds,d,iJ h,λO O O O r=>r,λO O O O r=>r⟩) (lv.mpr ⟨λds d h=>?_,lv.mpr ⟨λds d h=>?_,lv.mpr ⟨λds d h=>?_,aa1 _⟩⟩⟩) h
 ·refine ay (o9 h) λz0 z1=>gB z0 λs z m q1'=>dH q1' λhs h0 h1 z3=>?_;clear z0 q1';subst z3;subst z1
  exact Ft (es:=[.str s 4,aV z 3]) (eV.mp (eV.mp S9 s hs) z (H6 h0 h1)) λsp ns F vs r=>r.cons_er λv ws e a q=>by(symm;subst e);exact q.cons_er λv2 ws2 e b q2=>by subst e;exact .cons a (.cons (Gc h1 b) q2)
 ·refine ay (o9 h) λz0 z1=>gB z0 λs z m q0'=>dH q0' λhs h0 h1 z3=>?_;clear z0 q0';subst z3;subst z1
  exact Ft (es:=[dq s,aV z 3]) (eV.mp (eV.mp Qo s hs) z (H6 h0 h1)) λsp ns F vs r=>r.cons_er λv ws e a q=>by(symm;subst e);exact q.cons_er λv2 ws2 e b q2=>by subst e;exact .cons a (.cons (Gc h1 b) q2)
 ·refine ay (o9 h) λz0 z1=>aw z0 λs q2'=>ay q2' λhs z1=>?_;clear z0 q2';subst z1;subst z1
  exact Ft (es:=[dq s]) (eV.mp Pp s hs) λsp ns F vs r=>r
theorem OW{w:b7}{os:dl}(bk:zg)(Z:pR (fL w os pi sC) 1):pR (fL w os mU sC) 41:=Lm (n:=39) bk Z WB λds d h=>aW h
abbrev my(s:T)(z:Nat):Nat:=zl z s 0
theorem Ys:(fe.all λs=>ig s.length 4&&ig (i8 s) 4)=ag:=by left
theorem lE(h:s∈fe):s.length<=4/\i8 s<=4:=by
 refine ay (cZ.mp (eV.mp Ys s h)) λa b=>?_;exact⟨ll a,ll b⟩
theorem Mf(hl:l∈fe)(hb:b∈fe):sE mU (match dq l with|.inst _ v=>v|_=>[]) (match dq b with|.inst _ v=>v|_=>[]) (i8 l) (i8 b) (my l) (my b):=by
 have h:cK (i8 l) (i8 b)<=4:=tR.mpr ⟨(lE hl).2,(lE hb).2⟩;exact⟨mz ⟨l,hl,rfl⟩,mz ⟨b,hb,rfl⟩,λz k h0 h1=>mz ⟨l,z,k,hl,h0,by lia,rfl⟩,λz k h0 h1=>mz ⟨b,z,k,hb,h0,by lia,rfl⟩⟩
def qS(l b:T):List ak:=hY (gk (my l) (my b)) (fK (my l) (my b)) (cK (i8 l) (i8 b)+1) 1
theorem RW:(fe.all λl=>fe.all λb=>bt (oA ((ku l b).map fF)) (cK (i8 l) (i8 b))&&(((ku l b).all λs=>ig s.length 100)&&ig (ku l b).length 100))=ag:=by left
theorem Xj:(fe.all λl=>fe.all λb=>Am (Co l.length b.length (l.countP (bt 9)) (b.countP (bt 9)) (ig (vV l).length 1) (ig (vV b).length 1) (i8 l) (i8 b) (my l) (my b)) (!eW (qS l b)))=ag:=by left
theorem Pr(hl:l∈fe)(hb:b∈fe):IZ mU l b (cK (i8 l) (i8 b)) (my l) (my b):=by
 have h:cK (i8 l) (i8 b)<=4:=tR.mpr ⟨(lE hl).2,(lE hb).2⟩;exact⟨λz k h0 h1=>mz ⟨l,z,k,hl,h0,by lia,rfl⟩,λz k h0 h1=>mz ⟨b,z,k,hb,h0,by lia,rfl⟩⟩
theorem V6(hl:l∈fe)(hb:b∈fe):(run (bJ mU) 39).call 264 [.str l 4,.str b 4]=ac (.list (qS l b)):=by
 have h:cK (i8 l) (i8 b)<=4:=tR.mpr ⟨(lE hl).2,(lE hb).2⟩;refine ay (cZ.mp (eV.mp (eV.mp RW l hl) b hb)) λp1 p2=>?_;refine ay (cZ.mp p2) λp2 p3=>?_;exact X6 (Pr hl hb) rfl (λs hs=>ll (eV.mp p2 s hs)) (ll p3) (f0 p1) (by exact bM h (ik 4 996))
theorem U6(hl:l∈fe)(hb:b∈fe):(run (bJ mU) 39).call 186 [dq l,dq b]=ac (.list (qS l b)):=
 QO (Mf hl hb) rfl (bM (tR.mpr ⟨(lE hl).2,(lE hb).2⟩) (by decide))
theorem Pc(h:Am a (!b)=ag):a=b:=by induction a using hO<;>induction b using hO<;>first|rfl|exact bR h
theorem ZG(hl:l∈fe)(hb:b∈fe):(run (bJ mU) 39).call 179 [dq l,dq b]=ac (.bool (eW (qS l b))):=
 (XJ (Mf hl hb) rfl (bM (tR.mpr ⟨(lE hl).2,(lE hb).2⟩) (by decide))).trans (by exact af (Pc (eV.mp (eV.mp Xj l hl) b hb)) rfl)
theorem Sp:(fe.all λs=>rx (sX (bJ sp) (run (bJ sp) 39) [.str s 4]) (dq s))=ag:=by left
set_option backward.match.sparseCases true
noncomputable def oq:List Nat:=[38,60,62,34,92,108,116,59,61,13,10]
def lJ(s:T):Prop:=∀c∈s,c∈oq
def qi(ps:List (Nat×T)):T->T:=@bW (Nat×T) (λO=>T->T) (λx=>x) (λp O ih x=>ih (eR p.1 p.2 x)) ps
def Jj(ps:List (Nat×T)):T->Bool:=@bW (Nat×T) (λO=>T->Bool) (λx=>ig x.length 6) (λp O ih x=>ig x.length 6&&ih (eR p.1 p.2 x)) ps
abbrev bC(x:String):T:=(ao x).cps.toList
def wH(h:Nat):List (Nat×T):=match h with
 |0=>[(38,bC "&amp;"),(60,bC "&lt;"),(62,bC "&gt;")]
 |1=>[(38,bC "&amp;"),(60,bC "&lt;"),(62,bC "&gt;"),(34,bC "&quot;"),(13,bC "&#13;"),(10,bC "&#10;"),(9,bC "&#09;")]
 |2=>[(38,bC "&amp;"),(62,bC "&gt;"),(34,bC "&quot;")]
 |3=>[(38,bC "&amp;"),(60,bC "&lt;"),(62,bC "&gt;"),(13,bC "&#xD;")]
 |_=>[(38,bC "&amp;"),(60,bC "&lt;"),(34,bC "&quot;"),(9,bC "&#x9;"),(10,bC "&#xA;"),(13,bC "&#xD;")]
def iM(h c:Nat):T:=qi (wH h) [c]
def fU(h:Nat)(s:T):T:=s.flatMap (iM h)
theorem Xk(c:Nat)(z:T)(x y:T):eR c z (x++y)=eR c z x++eR c z y:=by
 induction x with
 |nil=>rfl
 |cons a r ih=>
  refine(?_:@aN (λO=>T) (a::eR c z (r++y)) (z++eR c z (r++y)) (bt a c)=(@aN (λO=>T) (a::eR c z r) (z++eR c z r) (bt a c))++eR c z y);refine af ih ?_;cases bt a c
  ·rfl
  ·exact(ja _ _ _).symm
theorem Qv(c:Nat)(z:T)(f:Nat->T)(s:T):eR c z (s.flatMap f)=s.flatMap λa=>eR c z (f a):=by
 induction s with
 |nil=>rfl
 |cons a r ih=>rw [xM,Xk,ih,xM]
theorem VL(c:Nat)(z:T)(x:T)(h:lG (io c x)=am):eR c z x=x:=by
 induction x with
 |nil=>rfl
 |cons a r ih=>
  change lG (@aN (λO=>Option Nat) (ob (io c r) λk=>ac (k+1)) (ac 0) (bt c a))=am at h;refine(?_:@aN (λO=>T) (a::eR c z r) (z++eR c z r) (bt a c)=a::r);cases q:bt c a with
  |true=>rw [q]at h;cases h
  |false=>
   rw [q]at h;have e:bt a c=am:=by
    cases p:bt a c with
    |false=>rfl
    |true=>rw [f0 p,Dk]at q;cases q
   rw [e,ih (by cases p:io c r with
    |none=>rfl
    |some k=>change lG (ob (io c r) λk=>ac (k+1))=am at h;rw [p]at h;cases h)]
theorem BI(f:Nat->T)(k:Nat):∀s:T,(∀c∈s,(f c).length<=k)->(s.flatMap f).length<=k*s.length
 |[],_=>eG _
 |a::r,h=>by
  have:=BI f k r λc hc=>h c (cW _ hc);have:=h a ck;rw [xM,gx,kb,Os];lia
theorem O8{E:bQ}(hs:sV m e)(hf:E.ev sc σ (bK (bK e))=ac (o,σ1))(hp:ro C E sc σ1 o m (xs e)=ae)(hr:tI o m (xs e)=ac d):(step C E).ev sc σ e=ac (d,σ1):=Hb hs hf (by refine af hp (af hr ?_);rfl)
abbrev fg(x:T)(k:Nat):aA:=[(ao "text",.fz (.str x k))]
structure HZ(sp:Nat->List ak->Option ak)(sc:cC)(st:bY)(p:Nat×T):Prop where
 i:BQ st
 e:jX st=[]
 t:∀x k,(run (bJ sp) 36).ts sc (fg x k) (bl st)=ac (lG (io p.1 x),fg x k)
 b:∀x k,bB k lim=ag->b9 (run (bJ sp) 36) sc (bF st) (fg x k)=ac (.next,fg (eR p.1 p.2 x) (eR p.1 p.2 x).length)
inductive zi(sp:Nat->List ak->Option ak)(sc:cC):List bY->List (Nat×T)->Prop
 |nil:zi sp sc [] []
 |cons {st:bY} {p:Nat×T} {sts:List bY} {ps:List (Nat×T)}:HZ sp sc st p->zi sp sc sts ps->zi sp sc (st::sts) (p::ps)
theorem Ux{sp:Nat->List ak->Option ak}{sc:cC}{st:bY}{p:Nat×T}(I:HZ sp sc st p){x:T}(hx:x.length<=lim):(run (bJ sp) 37).ex sc (fg x x.length) st=ac (.next,fg (eR p.1 p.2 x) (eR p.1 p.2 x).length):=by
 refine hH I.i (I.t x _) ?_;cases q:lG (io p.1 x)with
 |true=>exact I.b x _ (lw hx)
 |false=>
  refine(?_:b9 _ _ (jX st) _=_);refine af I.e (af (VL _ _ _ q) ?_);rfl
theorem Lk(hr:∀x k,(run (bJ sp) 37).ex sc (fg x k) rt=ac (.ret (.str x k),fg x k))(hs:lJ s)(hl:s.length<=1000):∀(ps:List (Nat×T))(sts:List bY)(f:Nat->T),zi sp sc sts ps->(∀a∈oq,Jj ps (f a)=ag)->
  b9 (run (bJ sp) 37) sc (sts++[rt]) (fg (s.flatMap f) (s.flatMap f).length)=ac (.ret (.str (s.flatMap λa=>qi ps (f a)) (s.flatMap λa=>qi ps (f a)).length),fg (s.flatMap λa=>qi ps (f a)) (s.flatMap λa=>qi ps (f a)).length)
 |[],_,f,.nil,_=>mh (hr _ _)
 |p::ps,_,f,.cons I r,h=>by
  have hf:(s.flatMap f).length<=lim:=bM (BI f 6 s λc hc=>ll (cZ.mp (h c (hs c hc))).1) (by refine(?_:6*s.length<=1048576);lia);have q:=Ux I hf;rw [Qv]at q;exact cf q (Lk hr hs hl ps _ (λa=>eR p.1 p.2 (f a)) r λa ha=>(cZ.mp (h a ha)).2)
theorem yG(aB:jk k ms=ac (cw nm))(hp:(cw nm).params=[ao "text"])(hb:(cw nm).body=[dO nm 0])(ht:LX (dO nm 0))(h1:bF (dO nm 0)=sts++[rt])(hr:∀x k,(run (bJ sp) 37).ex (cS nm) (fg x k) rt=ac (.ret (.str x k),fg x k))(hi:zi sp (cS nm) sts ps)(hc:(oq.all λa=>Jj ps [a])=ag)(hs:lJ s)(hl:s.length<=1000)(h0:sp k [.str s s.length]=ae):
  (run (bJ sp) 39).call k [.str s s.length]=ac (.str (s.flatMap λa=>qi ps [a]) (s.flatMap λa=>qi ps [a]).length):=by
 have e:=Lk hr hs hl ps sts (λa=>[a]) hi (eV.mp hc);have e1:s.flatMap (λa=>[a])=s:=by
  clear e hs hl h0;induction s with
  |nil=>rfl
  |cons a r ih=>refine af xM (af ih ?_);rfl
 rw [e1,<-h1]at e;refine sB (f:=cw nm) (σ:=fg s s.length) h0 aB (by refine af hp ?_;rfl) (p:=(.ret (.str (s.flatMap λa=>qi ps [a]) (s.flatMap λa=>qi ps [a]).length),fg (s.flatMap λa=>qi ps [a]) (s.flatMap λa=>qi ps [a]).length)) ?_ rfl;refine af hb ?_;exact mh (Yu ht e)
abbrev gb(nm:String)(i:Nat):bY:=cP (bF (dO nm 0)) i
abbrev za(nm:String)(i:Nat):bY:=cP (bF (gb nm i)) 0
theorem iN{p:Nat×T}(h0:bF (gb nm i)=[za nm i])(h1:∀x k,Gk (bJ sp) (run (bJ sp) 35) (cS nm) (fg x k) (ao "text") (za nm i))(h2:sV (ao "replace") (bl (za nm i)))(h3:∀x k,(run (bJ sp) 34).ev (cS nm) (fg x k) (bK (bK (bl (za nm i))))=ac (.str x k,fg x k))(h4:∀x k,tI (.str x k) (ao "replace") (xs (bl (za nm i)))=aS (bB k lim) (ac (.str (eR p.1 p.2 x) (eR p.1 p.2 x).length)))(h5:ke (cS nm) (ao "text")=ag)(x:T)(k:Nat)(h:bB k lim=ag):
  b9 (run (bJ sp) 36) (cS nm) (bF (gb nm i)) (fg x k)=ac (.next,fg (eR p.1 p.2 x) (eR p.1 p.2 x).length):=by
 refine af h0 ?_;exact cf (mu (h1 x k) (O8 h2 (h3 x k) rfl ((h4 x k).trans (by refine af h ?_;rfl))) h5) js
theorem U7{sp:Nat->List ak->Option ak}(s:T)(hs:lJ s)(hl:s.length<=1000)(h0:sp 214 [.str s s.length]=ae):(run (bJ sp) 39).call 214 [.str s s.length]=ac (.str (fU 0 s) (fU 0 s).length):=by
 refine @yG _ "_escape_cdata" [gb "_escape_cdata" 0,gb "_escape_cdata" 1,gb "_escape_cdata" 2] (gb "_escape_cdata" 3) _ (wH 0) _ (by left) (by left) (by left) (by left) (by left) (λx k=>by left) ?_ (by left) hs hl h0;exact .cons ⟨by left,by left,λx k=>by left,iN (by left) (λx k=>by left) (by left) (λx k=>by left) (λx k=>by left) (by left)⟩ (.cons ⟨by left,by left,λx k=>by left,iN (by left) (λx k=>by left) (by left) (λx k=>by left) (λx k=>by left) (by left)⟩ (.cons ⟨by left,by left,λx k=>by left,iN (by left) (λx k=>by left) (by left) (λx k=>by left) (λx k=>by left) (by left)⟩ (.nil)))
theorem Q4{sp:Nat->List ak->Option ak}(s:T)(hs:lJ s)(hl:s.length<=1000)(h0:sp 221 [.str s s.length]=ae):(run (bJ sp) 39).call 221 [.str s s.length]=ac (.str (fU 1 s) (fU 1 s).length):=by
 refine @yG _ "_escape_attrib" [gb "_escape_attrib" 0,gb "_escape_attrib" 1,gb "_escape_attrib" 2,gb "_escape_attrib" 3,gb "_escape_attrib" 4,gb "_escape_attrib" 5,gb "_escape_attrib" 6] (gb "_escape_attrib" 7) _ (wH 1) _ (by left) (by left) (by left) (by left) (by left) (λx k=>by left) ?_ (by left) hs hl h0;exact .cons ⟨by left,by left,λx k=>by left,iN (by left) (λx k=>by left) (by left) (λx k=>by left) (λx k=>by left) (by left)⟩ (.cons ⟨by left,by left,λx k=>by left,iN (by left) (λx k=>by left) (by left) (λx k=>by left) (λx k=>by left) (by left)⟩ (.cons ⟨by left,by left,λx k=>by left,iN (by left) (λx k=>by left) (by left) (λx k=>by left) (λx k=>by left) (by left)⟩ (.cons ⟨by left,by left,λx k=>by left,iN (by left) (λx k=>by left) (by left) (λx k=>by left) (λx k=>by left) (by left)⟩ (.cons ⟨by left,by left,λx k=>by left,iN (by left) (λx k=>by left) (by left) (λx k=>by left) (λx k=>by left) (by left)⟩ (.cons ⟨by left,by left,λx k=>by left,iN (by left) (λx k=>by left) (by left) (λx k=>by left) (λx k=>by left) (by left)⟩ (.cons ⟨by left,by left,λx k=>by left,iN (by left) (λx k=>by left) (by left) (λx k=>by left) (λx k=>by left) (by left)⟩ (.nil)))))))
theorem XR{sp:Nat->List ak->Option ak}(s:T)(hs:lJ s)(hl:s.length<=1000)(h0:sp 228 [.str s s.length]=ae):(run (bJ sp) 39).call 228 [.str s s.length]=ac (.str (fU 2 s) (fU 2 s).length):=by
 refine @yG _ "_escape_attrib_html" [gb "_escape_attrib_html" 0,gb "_escape_attrib_html" 1,gb "_escape_attrib_html" 2] (gb "_escape_attrib_html" 3) _ (wH 2) _ (by left) (by left) (by left) (by left) (by left) (λx k=>by left) ?_ (by left) hs hl h0;exact .cons ⟨by left,by left,λx k=>by left,iN (by left) (λx k=>by left) (by left) (λx k=>by left) (λx k=>by left) (by left)⟩ (.cons ⟨by left,by left,λx k=>by left,iN (by left) (λx k=>by left) (by left) (λx k=>by left) (λx k=>by left) (by left)⟩ (.cons ⟨by left,by left,λx k=>by left,iN (by left) (λx k=>by left) (by left) (λx k=>by left) (λx k=>by left) (by left)⟩ (.nil)))
theorem SV{sp:Nat->List ak->Option ak}(s:T)(hs:lJ s)(hl:s.length<=1000)(h0:sp 235 [.str s s.length]=ae):(run (bJ sp) 39).call 235 [.str s s.length]=ac (.str (fU 3 s) (fU 3 s).length):=by
 refine @yG _ "_escape_cdata_c14n" [gb "_escape_cdata_c14n" 0,gb "_escape_cdata_c14n" 1,gb "_escape_cdata_c14n" 2,gb "_escape_cdata_c14n" 3] (gb "_escape_cdata_c14n" 4) _ (wH 3) _ (by left) (by left) (by left) (by left) (by left) (λx k=>by left) ?_ (by left) hs hl h0;exact .cons ⟨by left,by left,λx k=>by left,iN (by left) (λx k=>by left) (by left) (λx k=>by left) (λx k=>by left) (by left)⟩ (.cons ⟨by left,by left,λx k=>by left,iN (by left) (λx k=>by left) (by left) (λx k=>by left) (λx k=>by left) (by left)⟩ (.cons ⟨by left,by left,λx k=>by left,iN (by left) (λx k=>by left) (by left) (λx k=>by left) (λx k=>by left) (by left)⟩ (.cons ⟨by left,by left,λx k=>by left,iN (by left) (λx k=>by left) (by left) (λx k=>by left) (λx k=>by left) (by left)⟩ (.nil))))
theorem TQ{sp:Nat->List ak->Option ak}(s:T)(hs:lJ s)(hl:s.length<=1000)(h0:sp 242 [.str s s.length]=ae):(run (bJ sp) 39).call 242 [.str s s.length]=ac (.str (fU 4 s) (fU 4 s).length):=by
 refine @yG _ "_escape_attrib_c14n" [gb "_escape_attrib_c14n" 0,gb "_escape_attrib_c14n" 1,gb "_escape_attrib_c14n" 2,gb "_escape_attrib_c14n" 3,gb "_escape_attrib_c14n" 4,gb "_escape_attrib_c14n" 5] (gb "_escape_attrib_c14n" 6) _ (wH 4) _ (by left) (by left) (by left) (by left) (by left) (λx k=>by left) ?_ (by left) hs hl h0;exact .cons ⟨by left,by left,λx k=>by left,iN (by left) (λx k=>by left) (by left) (λx k=>by left) (λx k=>by left) (by left)⟩ (.cons ⟨by left,by left,λx k=>by left,iN (by left) (λx k=>by left) (by left) (λx k=>by left) (λx k=>by left) (by left)⟩ (.cons ⟨by left,by left,λx k=>by left,iN (by left) (λx k=>by left) (by left) (λx k=>by left) (λx k=>by left) (by left)⟩ (.cons ⟨by left,by left,λx k=>by left,iN (by left) (λx k=>by left) (by left) (λx k=>by left) (λx k=>by left) (by left)⟩ (.cons ⟨by left,by left,λx k=>by left,iN (by left) (λx k=>by left) (by left) (λx k=>by left) (λx k=>by left) (by left)⟩ (.cons ⟨by left,by left,λx k=>by left,iN (by left) (λx k=>by left) (by left) (λx k=>by left) (λx k=>by left) (by left)⟩ (.nil))))))
theorem RN:(oq.all λc=>[0,1,2,3,4].all λh=>rx ((run (bJ mU) 39).call 247 [.str [c] 1,aV h 3]) (.str (iM h c) 8))=ag:=by left
theorem UA:(oq.all λc=>[0,1,2,3,4].all λh=>ig (iM h c).length 6)=ag:=by left
set_option backward.match.sparseCases false
def E8:List Nat:=32::9::oq
def wp(s:T):Prop:=∀c∈s,c∈E8
def jd(s:T):Bool:= !eW s&&le s (dw s.length [38])
def gL(s:T):T:=aN (34::(cm [92] s++[34])) s (jd s)
def lM(c:Nat):ak:=aN (.str [c] 1) (.str [92,c] 2) (gi c)
def JI(d:ak):ak:=match d with|.str [c] _=>lM c|d=>d
theorem qu(s:T):jU s=s.map λc=>.str [c] 1:=by
 induction s with
 |nil=>rfl
 |cons a r ih=>show ak.str [a] 1::jU r=_;refine af ih ?_;rfl
theorem IV:∀s:T,∃ls n,iW (s.map lM)=ac (ls,n)/\cy [] ls=cm [92] s/\n<=2*s.length/\(s≠[]->ls≠[])
 |[]=>⟨[],0,rfl,rfl,bZ _,λh=>nomatch h rfl⟩
 |a::r=>by
  refine bV (IV r) λls n q0'=>dH q0' λe1 e2 e3 d9=>?_;clear q0';have ej:∀x:T,cy [] (x::ls)=x++cm [92] r:=λx=>by
   induction ls using dD with
   |nil=>
    induction r using dD with
    |nil=>show x=x++[];rw [ka]
    |cons _ _=>exact nomatch d9 (by simp) rfl
   |cons y ys=>show x++([]++cy [] (y::ys))=_;refine af e2 ?_;rfl
  refine(?_:∃ls n,(fB (lM a) λs n=>ob (iW (r.map lM)) λp=>ac (s::p.1,n+p.2))=ac (ls,n)/\cy [] ls=@aN (λO=>T) (a::cm [92] r) ([92]++(a::cm [92] r)) (gi a)/\n<=2*(r.length+1)/\(a::r≠[]->ls≠[]));unfold lM;cases gi a with
  |false=>
   refine(?_:∃ls n,(ob (iW (r.map lM)) λp=>ac ([a]::p.1,1+p.2))=ac (ls,n)/\cy [] ls=(a::cm [92] r)/\n<=2*(r.length+1)/\(a::r≠[]->ls≠[]));refine af e1 ?_;exact⟨[a]::ls,1+n,rfl,ej [a],by lia,λO=>by simp⟩
  |true=>
   refine(?_:∃ls n,(ob (iW (r.map lM)) λp=>ac ([92,a]::p.1,2+p.2))=ac (ls,n)/\cy [] ls=([92]++a::cm [92] r)/\n<=2*(r.length+1)/\(a::r≠[]->ls≠[]));refine af e1 ?_;exact⟨[92,a]::ls,2+n,rfl,ej [92,a],by lia,λO=>by simp⟩
abbrev tc(i:Nat):bY:=dO "_law_value" i
abbrev Gu:aK:=ft (bK (bl (tc 1)))
abbrev oy:aK:=cO Gu 0
theorem w8{n:Nat}(h:n<=lim):iO s n=ac (.str s n):=by unfold iO;refine af (show bB n lim=ag from lw h) ?_;rfl
theorem sO{n m:Nat}(h:n+m<=lim):um .Add (.str s n) (.str t m)=ac (.str (s++t) (n+m)):=by
 refine(?_:bA ae (bA (iO (s++t) (n+m)) ae)=_);refine af (w8 h) ?_;rfl
theorem Q5(hs:wp s)(hl:s.length<=64):(run (bJ sp) 34).ev (cS "_law_value") (fg s 64) oy=ac (.list (s.map lM),fg s 64):=by
 have hg:gK (dj (cS "_law_value") oy) (jg oy) (iy (run (bJ sp) 33) (dj (cS "_law_value") oy) (ge oy) (bK oy)) (jU s) (kN (kt oy) (frz (kt oy) (fg s 64))) []=ac (([]:List ak)++(jU s).map JI):=by
  rw [show ge oy=[] by left];refine ti (K:=λd=>[(ao "sign",.fz d)]) (P:=λd=>∃c,c∈E8/\d=.str [c] 1) (λd' d O=>by left) ?_ _ _ _ ?_ (λd O=>by left) (by rw [qu,gj];refine(?_:0+s.length<=1048576);lia)
  ·rintro d ⟨c,hc,rfl⟩
   have h2:∀c,(run (bJ sp) 33).ev (dj (cS "_law_value") oy) [(ao "sign",.fz (.str [c] 1))] (bK oy)=aN (ac (.str [c] 1,[(ao "sign",.fz (.str [c] 1))])) (ac (.str [92,c] 2,[(ao "sign",.fz (.str [c] 1))])) (lG (io c [34,92])):=λc=>by left
   rw [h2];refine(?_:_=ac (lM c,_));unfold lM;rw [show lG (io c [34,92])=gi c from by
    refine(?_:lG (@aN (λO=>Option Nat) (ob (@aN (λO=>Option Nat) (ob ae _) (ac 0) (bt c 92)) λk=>ac (k+1)) (ac 0) (bt c 34))=(bt c 34||Nat.beq c 92));cases bt c 34<;>cases bt c 92<;>rfl]
   cases gi c<;>rfl
  ·intro d hd
   rw [qu]at hd;refine aw (jD.mp hd) λc q2'=>ay q2' λhc z1=>?_;clear q2';subst z1;exact⟨c,hs c hc,rfl⟩
 have e:(jU s).map JI=s.map lM:=by rw [qu,jB];rfl
 rw [vR,e]at hg;exact ve (σ1:=fg s 64) (l:=jU s) (by left) (by left) hg
theorem Y5{sp:Nat->List ak->Option ak}(hs:wp s)(hl:s.length<=64)(h0:sp 252 [.str s 64]=ae):∃N,N<=400/\(run (bJ sp) 39).call 252 [.str s 64]=ac (.str (gL s) N):=by
 have hb:(cw "_law_value").body=[tc 0,tc 1]:=by left
 suffices∃N,N<=400/\b9 (run (bJ sp) 38) (cS "_law_value") (cw "_law_value").body (fg s 64)=ac (.ret (.str (gL s) N),fg s 64) by
  refine aw this λN q1'=>ay q1' λh e=>?_;clear this q1';exact⟨N,h,sB (f:=cw "_law_value") (σ:=fg s 64) h0 (by left) (by left) e rfl⟩
 refine af hb ?_;have t0:(run (bJ sp) 37).ts (cS "_law_value") (fg s 64) (bl (tc 0))=ac (jd s,fg s 64):=by
  induction s using dD with
  |nil=>left
  |cons a r=>
   have h:(run (bJ sp) 37).ts (cS "_law_value") (fg (a::r) 64) (bl (tc 0))=@aN (λO=>Option (Bool×aA)) (ac (le (a::r) (dw (a::r).length [38]),fg (a::r) 64)) (ac (ag,fg (a::r) 64)) (@aN (λO=>Bool) am ag (le (a::r) (dw (a::r).length [38]))):=by left
   refine af h ?_;refine(?_:_=ac (le (a::r) (dw (a::r).length [38]),_));cases le (a::r) (dw (a::r).length [38])<;>rfl
 unfold gL;cases q:jd s with
 |true=>
  refine⟨64,by decide,mh (hH (by left) (q▸t0) ?_)⟩;refine(?_:b9 _ _ (bF (tc 0)) _=ac (.ret (.str s 64),_));left
 |false=>
  refine bV (IV s) λls n q0'=>dH q0' λe1 e2 e3 O=>?_;clear q0';have hn:eL (n+0*ls.length)<=256:=by rw [OL];exact zw 4 (by lia)
  have cj:fk (bJ sp) (run (bJ sp) 34) (.str [] 0) (ao "join") [.list (s.map lM)]=ac (.str (cm [92] s) (eL (n+0*ls.length))):=by
   have:fk (bJ sp) (run (bJ sp) 34) (.str [] 0) (ao "join") [.list (s.map lM)]=bA (ob (iW (s.map lM)) λp=>iO (cy [] p.1) (eL (p.2+0*p.1.length))) ae:=by left
   refine af this (af e1 ?_);refine(?_:bA (iO (cy [] ls) (eL (n+0*ls.length))) ae=_);refine af e2 (af (w8 (bM hn (by decide))) ?_);rfl
  have ej:(run (bJ sp) 35).ev (cS "_law_value") (fg s 64) Gu=ac (.str (cm [92] s) (eL (n+0*ls.length)),fg s 64):=
   jK (m:=ao "join") (o:=.str [] 0) (ds:=[.list (s.map lM)]) (by left) (by left) (by left) (by left) (by refine af (show xs Gu=[oy] by left) ?_;exact iV (Q5 hs hl) m9) cj
  revert hn ej;generalize eL (n+0*ls.length)=N;intro hn ej;have e3:(run (bJ sp) 36).ev (cS "_law_value") (fg s 64) (bK (bl (tc 1)))=ac (.str (34::cm [92] s) (1+N),fg s 64):=
   ki (op:=.Add) (d1:=.str [34] 1) (by left) (by left) ej (@sO [34] _ 1 N (by refine(?_:_<=1048576);lia))
  have d9:(run (bJ sp) 37).ev (cS "_law_value") (fg s 64) (bl (tc 1))=ac (.str (34::(cm [92] s++[34])) (1+N+1),fg s 64):=
   ki (op:=.Add) (d2:=.str [34] 1) (by left) e3 (by left) (@sO (34::cm [92] s) _ (1+N) 1 (by refine(?_:_<=1048576);lia))
  exact⟨_,by lia,cf (hH (by left) (q▸t0) (by left)) (mh (FE (by left) d9))⟩
def oO(x:T):Bool:= !eW x&&bt (bE pw x) x.length
noncomputable abbrev lU:String:="join_header_words"
abbrev l9:bY:=dO lU 1
abbrev qI:bY:=cP (bF l9) 1
abbrev wM:bY:=cP (bF qI) 0
abbrev MX:bY:=cP (bF wM) 0
abbrev kO(L H p A k v:ak):aA:=[(ao "lists",.fz L),(ao "headers",.ow H),(ao "pairs",.fz p),(ao "attr",.ow A),(ao "k",.fz k),(ao "v",.fz v)]
abbrev uz(L H:ak)(r:aA):aA:=(ao "lists",.fz L)::(ao "headers",.ow H)::r
def eE(K x:T):T:=K++(61::gL x)
theorem IK{sp:Nat->List ak->Option ak}{L H p:ak}{K x:T}{A:List ak}(hj:oO x=jd x)(ha:bB A.length lim=ag):∃N dv,N<=135/\b9 (run (bJ sp) 36) (cS lU) (bF qI) (kO L H p (.list A) (.str K 4) (.str x 64))=ac (.next,kO L H p (.list (A++[.str (eE K x) N])) (.str (eE K x) N) dv):=by
 have hb:bF qI=[wM,cP (bF qI) 1]:=by left
 have hc:bF wM=[MX,cP (bF wM) 1]:=by left
 have t1:(run (bJ sp) 34).ts (cS lU) (kO L H p (.list A) (.str K 4) (.str x 64)) (bl MX)=ob (ob (Ea (@aN (λO=>ak) .none (.mat x 64 [0,x.length]) (oO x))) λb=>ac (b,kO L H p (.list A) (.str K 4) (.str x 64))) λp=>ac (!p.1,p.2):=by left
 unfold eE gL;refine af hb ?_;cases q:jd x with
 |true=>
  rw [hj.trans q]at t1;refine⟨69,.str x 64,by decide,cf (σ1:=kO L H p (.list A) (.str (K++(61::x)) 69) (.str x 64)) (hH (b:=ag) (by left) (by left) ?_) (cf (@uG _ _ _ _ (kO L H p (.list A) (.str (K++(61::x)) 69) (.str x 64)) (.str (K++(61::x)) 69) A (ao "attr") _ A (by left) (by left) (by left) (by left) (by left) ha) js)⟩;refine(?_:b9 _ _ (bF wM) _=_);refine af hc ?_;exact cf (hH (by left) t1 (by left:_=ac (cQ.next,kO L H p (.list A) (.str K 4) (.str x 64)))) (by left)
 |false=>
  rw [hj.trans q]at t1;refine⟨135,.str (34::(cm [92] x++[34])) 130,by decide,cf (σ1:=kO L H p (.list A) (.str (K++(61::(34::(cm [92] x++[34])))) 135) (.str (34::(cm [92] x++[34])) 130)) (hH (b:=ag) (by left) (by left) ?_) (cf (@uG _ _ _ _ (kO L H p (.list A) (.str (K++(61::(34::(cm [92] x++[34])))) 135) (.str (34::(cm [92] x++[34])) 130)) (.str (K++(61::(34::(cm [92] x++[34])))) 135) A (ao "attr") _ A (by left) (by left) (by left) (by left) (by left) ha) js)⟩;refine(?_:b9 _ _ (bF wM) _=_);refine af hc ?_;exact cf (hH (by left) t1 (by left:_=ac (cQ.next,kO L H p (.list A) (.str K 4) (.str (34::(cm [92] x++[34])) 130)))) (by left)
abbrev gU:T:=bC "Stay"
abbrev fA:T:=bC "Down"
def d6(r:T×T×T):ak:=.list [.tup [.str r.1 r.1.length,.none],.tup [.str gU 4,.str r.2.1 64],.tup [.str fA 4,.str r.2.2 64]]
def d5(r:T×T×T):T:=r.1++([59,32]++(eE gU r.2.1++([59,32]++eE fA r.2.2)))
def Gq(r:aA):Prop:=r=[]\/∃a b c d,r=[(ao "pairs",.fz a),(ao "attr",b),(ao "k",.fz c),(ao "v",.fz d)]
theorem SJ{sp:Nat->List ak->Option ak}{L:ak}{r:T×T×T}{Hs:List ak}{rs:aA}(hd:Gq rs)(h1:oO r.2.1=jd r.2.1)(h2:oO r.2.2=jd r.2.2)(hl:r.1.length<=100)(hh:bB Hs.length lim=ag):
  ∃N rs' σ1,Gq rs'/\N<=1000/\i7 (cS lU) (uz L (.list Hs) rs) (gu l9) (d6 r)=ac σ1/\b9 (run (bJ sp) 37) (cS lU) (bF l9) σ1=ac (.next,uz L (.list (Hs++[.str (d5 r) N])) rs'):=by
 obtain⟨lab,t,l⟩:=r;have hb:bF l9=[cP (bF l9) 0,qI,cP (bF l9) 2]:=by left
 refine bV (@IK sp L (.list Hs) (d6 (lab,t,l)) gU t [.str lab lab.length] h1 rfl) λN1 d1 q0'=>ay q0' λn1 e1=>?_;clear q0';refine bV (@IK sp L (.list Hs) (d6 (lab,t,l)) fA l [.str lab lab.length,.str (eE gU t) N1] h2 rfl) λN2 d2 q2'=>ay q2' λn2 e2=>?_;clear q2';obtain⟨σ1,a1,a2⟩:∃σ1,i7 (cS lU) (uz L (.list Hs) rs) (gu l9) (d6 (lab,t,l))=ac σ1/\∃σ2,(run (bJ sp) 37).ex (cS lU) σ1 (cP (bF l9) 0)=ac (.next,σ2)/\sP (gu qI) (d6 (lab,t,l))=ac [.tup [.str lab lab.length,.none],.tup [.str gU 4,.str t 64],.tup [.str fA 4,.str l 64]]/\(run (bJ sp) 36).ev (cS lU) σ2 (bl qI)=ac (d6 (lab,t,l),σ2)/\i7 (cS lU) σ2 (gu qI) (.tup [.str lab lab.length,.none])=ac (kO L (.list Hs) (d6 (lab,t,l)) (.list []) (.str lab lab.length) .none):=by
  rcases hd with rfl|⟨a,b,c,d,rfl⟩
  ·exact⟨[(ao "lists",.fz L),(ao "headers",.ow (.list Hs)),(ao "pairs",.fz (d6 (lab,t,l)))],by left,[(ao "lists",.fz L),(ao "headers",.ow (.list Hs)),(ao "pairs",.fz (d6 (lab,t,l))),(ao "attr",.ow (.list []))],by left,by left,by left,by left⟩
  ·exact⟨(kO L (.list Hs) (d6 (lab,t,l)) .none c d).set 3 (ao "attr",b),by left,kO L (.list Hs) (d6 (lab,t,l)) (.list []) c d,by left,by left,by left,by left⟩
 refine aw a2 λσ2 q1'=>dH q1' λb1 b2 b3 b4=>?_;clear a2 q1';have f:lO (run (bJ sp) 36) (cS lU) (gu qI) (bF qI) [.tup [.str lab lab.length,.none],.tup [.str gU 4,.str t 64],.tup [.str fA 4,.str l 64]] σ2=ac (.next,kO L (.list Hs) (d6 (lab,t,l)) (.list [.str lab lab.length,.str (eE gU t) N1,.str (eE fA l) N2]) (.str (eE fA l) N2) d2):=
  eX b4 (by left:_=ac (cQ.next,kO L (.list Hs) (d6 (lab,t,l)) (.list [.str lab lab.length]) (.str lab lab.length) .none)) (eX (by left) e1 (eX (by left) e2 qO))
 have hl:lab.length<=100:=hl;have hN:eL (lab.length+(N1+(N2+0))+2*3)<=1000:=bM (zw 15 (by lia)) (by decide);have hj:fk (bJ sp) (run (bJ sp) 34) (.str [59,32] 2) (ao "join") [.list [.str lab lab.length,.str (eE gU t) N1,.str (eE fA l) N2]]=ac (.str (d5 (lab,t,l)) (eL (lab.length+(N1+(N2+0))+2*3))):=by
  have:fk (bJ sp) (run (bJ sp) 34) (.str [59,32] 2) (ao "join") [.list [.str lab lab.length,.str (eE gU t) N1,.str (eE fA l) N2]]=bA (iO (d5 (lab,t,l)) (eL (lab.length+(N1+(N2+0))+2*3))) ae:=by left
  refine af this (af (w8 (bM hN (by decide))) ?_);rfl
 have hc:bF (cP (bF l9) 2)=[cP (bF (cP (bF l9) 2)) 0]:=by left
 refine⟨_,[(ao "pairs",.fz (d6 (lab,t,l))),(ao "attr",.fz (.list [.str lab lab.length,.str (eE gU t) N1,.str (eE fA l) N2])),(ao "k",.fz (.str (eE fA l) N2)),(ao "v",.fz d2)],σ1,.inr ⟨_,_,_,_,rfl⟩,hN,a1,?_⟩;refine af hb ?_;refine cf b1 (cf (nG (by left) b3 b2 f) (cf (AQ (b:=ag) (σ1:=(kO L (.list Hs) (d6 (lab,t,l)) .none (.str (eE fA l) N2) d2).set 3 (ao "attr",.fz (.list [.str lab lab.length,.str (eE gU t) N1,.str (eE fA l) N2]))) (by left) (by left) ?_) js));refine(?_:b9 _ _ (bF (cP (bF l9) 2)) _=_);refine af hc ?_;exact cf (uG (x:=ao "headers") (ds:=Hs) (xs0:=Hs) (by left) (by left) (by left) (jK (m:=ao "join") (o:=.str [59,32] 2) (ds:=[.list [.str lab lab.length,.str (eE gU t) N1,.str (eE fA l) N2]]) (by left) (by left) (by left) (by left) (by left) hj) (by left) hh) js
set_option backward.match.sparseCases true
def gQ(rs:List (T×T×T)):T:=cy [44,32] (rs.map d5)
structure B9(r:T×T×T):Prop where
 t:oO r.2.1=jd r.2.1
 l:oO r.2.2=jd r.2.2
 n:r.1.length<=100
theorem Jk{sp:Nat->List ak->Option ak}{L:ak}:∀(rs:List (T×T×T))(Hs:List ak)(r:aA),Gq r->(∀x∈rs,B9 x)->Hs.length+rs.length<=lim->∃Ds n r',iW Ds=ac (rs.map d5,n)/\n<=1000*rs.length/\lO (run (bJ sp) 37) (cS lU) (gu l9) (bF l9) (rs.map d6) (uz L (.list Hs) r)=ac (.next,uz L (.list (Hs++Ds)) r')
 |[],Hs,r,_,_,_=>⟨[],0,r,rfl,bZ _,by rw [ka];rfl⟩
 |x::rs,Hs,r,hd,ho,hl=>by
  have hl:Hs.length+(rs.length+1)<=1048576:=hl;have hx:=ho x ck;refine gB (@SJ sp L _ Hs _ hd hx.t hx.l hx.n (lw (show Hs.length<=1048576 by exact bM (mS Hs.length (rs.length+1)) hl))) λN r1 σ1 q0'=>dH q0' λd1 n1 a1 e1=>?_;clear q0';have zq:=(@Jk sp L rs (Hs++[.str (d5 x) N]) r1 d1 (λy hy=>ho y (cW _ hy)) (by refine af gx ?_;refine(?_:Hs.length+1+rs.length<=1048576);(simp only [nI,kB,tQ]at*;first|assumption|omega)));refine gB zq λDs n r' q2'=>bu q2' λs1 n2 e2=>?_;clear zq q2';rw [ja]at e2;refine⟨.str (d5 x) N::Ds,N+n,r',?_,by refine af kb ?_;lia,eX a1 e1 e2⟩;refine(?_:(ob (iW Ds) λp=>ac (d5 x::p.1,N+p.2))=_);refine af s1 ?_;rfl
theorem Vo{sp:Nat->List ak->Option ak}(ho:∀x∈rs,B9 x)(hl:rs.length<=10)(h0:sp 94 [.list (rs.map d6)]=ae):∃N,N<=20000/\(run (bJ sp) 39).call 94 [.list (rs.map d6)]=ac (.str (gQ rs) N):=by
 have zq:=(@Jk sp (.list (rs.map d6)) rs [] [] (.inl rfl) ho (by refine(?_:0+_<=1048576);lia));refine gB zq λDs n r' q1'=>bu q1' λs1 n2 e=>?_;clear zq q1';have hb:(cw lU).body=[dO lU 0,l9,dO lU 2]:=by left
 have hlen:(rs.map d5).length<=10:=by rw [gj];exact hl
 have hN:eL (n+2*(rs.map d5).length)<=20000:=bM (zw 312 (by lia)) (by decide);have hj:fk (bJ sp) (run (bJ sp) 36) (.str [44,32] 2) (ao "join") [.list Ds]=ac (.str (gQ rs) (eL (n+2*(rs.map d5).length))):=by
  have:fk (bJ sp) (run (bJ sp) 36) (.str [44,32] 2) (ao "join") [.list Ds]=bA (ob (iW Ds) λp=>iO (cy [44,32] p.1) (eL (p.2+2*p.1.length))) ae:=by left
  refine af this (af s1 ?_);refine(?_:bA (iO (gQ rs) (eL (n+2*(rs.map d5).length))) ae=_);refine af (w8 (bM hN (by decide))) ?_;rfl
 refine⟨_,hN,sB (f:=cw lU) (σ:=[(ao "lists",.fz (.list (rs.map d6)))]) h0 (by left) (by left) (p:=(.ret (.str (gQ rs) (eL (n+2*(rs.map d5).length))),(ao "lists",.fz (.list (rs.map d6)))::(ao "headers",.fz (.list Ds))::r')) ?_ rfl⟩;refine af hb ?_;refine cf (σ1:=uz (.list (rs.map d6)) (.list []) []) (by left) (cf (nG (d:=.list (rs.map d6)) (by left) (by left) (by left) e) (mh (By (by left) ?_)));exact @M8 (ao "join") _ _ _ (.str [44,32] 2) (uz (.list (rs.map d6)) (.list Ds) r') _ [.list Ds] _ _ _ (by left) (by left) (by left) (by left) (by left) hj
abbrev fQ:eQ:=bJ mU
noncomputable abbrev iX:String:="split_header_words"
abbrev vi:bY:=dO iX 2
abbrev qY:bY:=cP (bF vi) 2
abbrev yL:bY:=cP (bF qY) 1
abbrev eH(V:ak)(R:List ak)(x:T)(o:ak)(P:List ak)(m nm vl nj nr:ak):aA:=[(ao "header_values",.fz V),(ao "result",.ow (.list R)),(ao "text",.fz (.str x 512)),(ao "orig_text",.fz o),(ao "pairs",.ow (.list P)),(ao "m",.fz m),(ao "name",.fz nm),(ao "value",.fz vl),(ao "non_junk",.fz nj),(ao "nr_junk_chars",.fz nr)]
def vj(σ σ':aA):Prop:=(run fQ 36).ts (cS iX) σ (bl qY)=ac (ag,σ)/\b9 (run fQ 36) (cS iX) (bF qY) σ=ac (.next,σ')
theorem DT{V o m nm vl nj nr:ak}{R P:List ak}{r:T}(c:Nat)(h:c=83\/c=68):vj (eH V R (59::32::c::r) o P m nm vl nj nr) (eH V R (c::r) o P .none nm vl (.str (c::r) 512) (fN 1)):=by
 rcases h with rfl|rfl<;>exact⟨by left,by left⟩
theorem TY{V o m nm vl nj nr:ak}{R:List ak}{r:T}{a b c:ak}(hR:R.length<=3):vj (eH V R (44::32::r) o [a,b,c] m nm vl nj nr) (eH V (R++[.list [a,b,c]]) (32::r) o [] .none nm vl nj nr):=by
 refine⟨by left,?_⟩;rcases R with _|⟨x0,R⟩
 ·left
 rcases R with _|⟨x1,R⟩
 ·left
 rcases R with _|⟨x2,R⟩
 ·left
 rcases R with _|⟨x3,R⟩
 ·left
 ·exact absurd hR (by simp only [kb];lia)
def names:List T:=[bC "local",bC "y.net",bC "y.xlocal"]
def su:List T:=[bC "a",bC "b",bC "c"]
theorem XG{V o m nm vl nj nr:ak}{R:List ak}{r:T}{k:T}(h:k∈su):vj (eH V R (32::(k++(59::r))) o [] m nm vl nj nr) (eH V R (59::r) o [.tup [.str k 512,.none]] .none (.str k 512) .none nj nr):=by
 rcases cI.mp h with rfl|h
 ·exact⟨by left,by left⟩
 rcases cI.mp h with rfl|h
 ·exact⟨by left,by left⟩
 rcases cI.mp h with rfl|h
 ·exact⟨by left,by left⟩
 ·exact nomatch h
abbrev v7(V:ak)(x:T)(o:ak)(P:List ak)(r:aA):aA:=(ao "header_values",.fz V)::(ao "result",.ow (.list []))::(ao "text",.fz (.str x 512))::(ao "orig_text",.fz o)::(ao "pairs",.ow (.list P))::r
theorem VT{V o:ak}{r:T}{k:T}(h:k∈names):vj (v7 V (k++(59::r)) o [] []) (v7 V (59::r) o [.tup [.str k 512,.none]] [(ao "m",.fz .none),(ao "name",.fz (.str k 512)),(ao "value",.fz .none)]):=by
 rcases cI.mp h with rfl|h
 ·exact⟨by left,by left⟩
 rcases cI.mp h with rfl|h
 ·exact⟨by left,by left⟩
 rcases cI.mp h with rfl|h
 ·exact⟨by left,by left⟩
 ·exact nomatch h
theorem Pn{V o m nm vl:ak}{P:List ak}{r:T}:vj (v7 V (59::32::83::r) o P [(ao "m",.fz m),(ao "name",.fz nm),(ao "value",.fz vl)]) (eH V [] (83::r) o P .none nm vl (.str (83::r) 512) (fN 1)):=⟨by left,by left⟩
theorem ZD(r:T):jv ((cm [92] q++[34])++r) am=ac (cm [92] q).length:=by
 induction q with
 |nil=>rfl
 |cons c q ih=>
  refine(?_:jv (((@aN (λO=>T) (c::cm [92] q) ([92]++(c::cm [92] q)) (gi c))++[34])++r) am=ac (@aN (λO=>T) (c::cm [92] q) ([92]++(c::cm [92] q)) (gi c)).length);unfold gi;cases h1:bt c 34 with
  |true=>
   cases f0 h1;refine(?_:(ob (ob (jv ((cm [92] q++[34])++r) am) λk=>ac (k+1)) λk=>ac (k+1))=_);refine af ih ?_;rfl
  |false=>
   cases h2:bt c 92 with
   |true=>
    cases f0 h2;refine(?_:(ob (ob (jv ((cm [92] q++[34])++r) am) λk=>ac (k+1)) λk=>ac (k+1))=_);refine af ih ?_;rfl
   |false=>
    refine(?_:@aN (λO=>Option Nat) (@aN (λO=>Option Nat) (ob (jv ((cm [92] q++[34])++r) (bt c 92)) λk=>ac (k+1)) (ac 0) (bt c 34)) (aS (!bt c 10) (ob (jv ((cm [92] q++[34])++r) am) λk=>ac (k+1))) am=_);refine af h1 (af h2 ?_);refine(?_:(ob (jv ((cm [92] q++[34])++r) am) λk=>ac (k+1))=_);refine af ih ?_;rfl
theorem Sq(q:T):iH [] (cm [92] q) am=ac q:=by
 induction q with
 |nil=>rfl
 |cons c q ih=>
  refine(?_:iH [] (@aN (λO=>T) (c::cm [92] q) ([92]++(c::cm [92] q)) (gi c)) am=_);unfold gi;cases h1:bt c 34 with
  |true=>
   cases f0 h1;refine(?_:(ob (iH [] (cm [92] q) am) λr=>ac ([]++(34::r)))=_);refine af ih ?_;rfl
  |false=>
   cases h2:bt c 92 with
   |true=>
    cases f0 h2;refine(?_:(ob (iH [] (cm [92] q) am) λr=>ac ([]++(92::r)))=_);refine af ih ?_;rfl
   |false=>
    refine(?_:@aN (λO=>Option T) (ob (iH [] (cm [92] q) am) λr=>ac (c::r)) (iH [] (cm [92] q) ag) (bt c 92)=_);refine af h2 ?_;refine(?_:(ob (iH [] (cm [92] q) am) λr=>ac (c::r))=_);refine af ih ?_;rfl
def zD(r:T):Prop:=r=[]\/(∃y,r=59::y)\/∃y,r=44::y
theorem It(h:zD r):∀k,bE mZ (dw k [38]++r)=k
 |0=>by rcases h with rfl|⟨y,rfl⟩|⟨y,rfl⟩<;>rfl
 |k+1=>by refine(?_:bE mZ (dw k [38]++r)+1=_);exact af (It h k) rfl
theorem KY:∀k,nT cG (dw k [38])=dw k [38]
 |0=>rfl
 |k+1=>by
  refine(?_:@bW Nat (λO=>T) (@aN (λO=>T) [38] [] (cG 38)) (λe l O=>38::e::l) (nT cG (dw k [38]))=38::dw k [38]);refine af (KY k) ?_;induction k using j8 with
  |zero=>show@aN (λO=>T) [38] [] (cG 38)=_;refine af (show cG 38=am by left) ?_;rfl
  |succ k=>rfl
theorem ze:∀k,(dw k [38]).length=k
 |0=>rfl
 |k+1=>congrArg (· +1) (ze k)
theorem RQ{E:bQ}(hs:sV m e)(hf:E.ev sc σ (bK (bK e))=ac (o,σ1))(hp:ro C E sc σ1 o m (xs e)=ac (d,σ2)):(step C E).ev sc σ e=ac (d,σ2):=Hb hs hf (by refine af hp ?_;rfl)
abbrev gq(i:Nat):bY:=cP (bF yL) i
theorem U1:(61::((34::(q++[34]))++r)).drop (q.length+3)=r:=by
 refine(?_:((q++[34])++r).drop (q.length+1)=r);rw [aa2 (by rw [gx];exact bZ _),q8 (by rw [gx];exact bZ _),vR]
theorem Vv:im (61::((34::(q++[34]))++r)) 2 (q.length+2)=q:=by
 refine(?_:(((q++[34])++r)).take (q.length+2-2)=q);rw [Oj,ja,aa3 (bZ _),aaM]
theorem Pb(hq:q=cm [92] x):rl .quo (61::((34::(q++[34]))++r))=ac (ac [0,q.length+3,2,q.length+2]):=by
 subst hq;have:rl .quo (61::((34::(cm [92] x++[34]))++r))=ob (jv ((cm [92] x++[34])++r) am) λj=>ac (ac [0,j+3,2,j+2]):=by left
 rw [this,ZD];rfl
theorem X1{V o m nm vl nj nr:ak}{R P:List ak}{K:T}(hK:K=gU\/K=fA){s:T}:(run fQ 36).ts (cS iX) (eH V R (K++(61::s)) o P m nm vl nj nr) (bl qY)=ac (ag,eH V R (K++(61::s)) o P m nm vl nj nr)/\
  (run fQ 36).ex (cS iX) (eH V R (K++(61::s)) o P m nm vl nj nr) (cP (bF qY) 0)=ac (.next,eH V R (K++(61::s)) o P (.mat (K++(61::s)) 512 [0,4,0,4]) nm vl nj nr)/\
  (run fQ 35).ts (cS iX) (eH V R (K++(61::s)) o P (.mat (K++(61::s)) 512 [0,4,0,4]) nm vl nj nr) (bl yL)=ac (ag,eH V R (K++(61::s)) o P (.mat (K++(61::s)) 512 [0,4,0,4]) nm vl nj nr)/\
  b9 (run fQ 35) (cS iX) [gq 0,gq 1] (eH V R (K++(61::s)) o P (.mat (K++(61::s)) 512 [0,4,0,4]) nm vl nj nr)=ac (.next,eH V R (61::s) o P (.mat (K++(61::s)) 512 [0,4,0,4]) (.str K 512) vl nj nr):=by
 rcases hK with rfl|rfl<;>exact⟨by left,by left,by left,by left⟩
theorem yw{E:bQ}{sc:cC}{a b:bY}{ss:List bY}{σ σ1:aA}{q:Option (cQ×aA)}(h:b9 E sc [a,b] σ=ac (.next,σ1))(k:b9 E sc ss σ1=q):b9 E sc (a::b::ss) σ=q:=by
 have h:ob (E.ex sc σ a) (λp=>aN (ac p) (ob (E.ex sc p.2 b) λp=>aN (ac p) (ac (.next,p.2)) (oj p.1)) (oj p.1))=ac (.next,σ1):=h;refine(?_:ob (E.ex sc σ a) (λp=>aN (ac p) (ob (E.ex sc p.2 b) λp=>aN (ac p) (b9 E sc ss p.2) (oj p.1)) (oj p.1))=q);cases h1:E.ex sc σ a with
 |none=>rw [h1]at h;exact aW h
 |some p=>
  rw [h1]at h;obtain⟨f,σ2⟩:=p;cases f<;>first|(change(ac (_,σ2):Option (cQ×aA))=_ at h;cases h)|skip
  change ob (E.ex sc σ2 b) _=_ at h;refine(?_:ob (E.ex sc σ2 b) _=_);cases h2:E.ex sc σ2 b with
  |none=>rw [h2]at h;exact aW h
  |some p=>
   rw [h2]at h;obtain⟨f,σ3⟩:=p;cases f<;>(change(ac (_,σ3):Option (cQ×aA))=_ at h;cases h);exact k
theorem Cz{V o m nm vl nj nr:ak}{R P:List ak}{r x K:T}(hK:K=gU\/K=fA)(hr:zD r)(hP:bB P.length lim=ag):∃m',vj (eH V R (eE K x++r) o P m nm vl nj nr) (eH V R r o (P++[.tup [.str K 512,.str x 512]]) m' (.str K 512) (.str x 512) nj nr):=by
 have hb:bF qY=[cP (bF qY) 0,yL]:=by left
 have hc:bF yL=[gq 0,gq 1,gq 2,gq 3,gq 4]:=by left
 have e0:eE K x++r=K++(61::(gL x++r)):=by unfold eE;rw [ja];rfl
 refine af e0 ?_;refine dH (X1 (V:=V) (R:=R) (o:=o) (P:=P) (m:=m) (nm:=nm) (vl:=vl) (nj:=nj) (nr:=nr) hK (s:=gL x++r)) λh1 h2 h3 h4=>?_
 suffices∃m',∃σ3,(run fQ 35).ex (cS iX) (eH V R (61::(gL x++r)) o P (.mat (K++(61::(gL x++r))) 512 [0,4,0,4]) (.str K 512) vl nj nr) (gq 2)=ac (.next,σ3)/\(run fQ 35).ex (cS iX) σ3 (gq 3)=ac (.next,eH V R r o P m' (.str K 512) (.str x 512) nj nr) by
  refine bV this λm' σ3 q1'=>ay q1' λe1 e2=>?_;clear this q1';refine⟨m',h1,?_⟩;refine af hb ?_;refine cf h2 (cf (hH (by left) h3 ?_) js);refine(?_:b9 _ _ (bF yL) _=_);refine af hc ?_;refine yw h4 (cf e1 (cf e2 (cf (@uG _ _ _ _ (eH V R r o P m' (.str K 512) (.str x 512) nj nr) (.tup [.str K 512,.str x 512]) P (ao "pairs") _ P (by left) (by left) (by left) (by left) (by left) hP) (by left))))
 cases q:jd x with
 |false=>
  have ev:gL x=34::(cm [92] x++[34]):=by unfold gL;exact af q rfl
  refine af ev ?_;have hm:fk fQ (run fQ 33) (.hd (.pat .quo)) (ao "search") [.str (61::((34::(cm [92] x++[34]))++r)) 512]=ac (.mat (61::((34::(cm [92] x++[34]))++r)) 512 [0,(cm [92] x).length+3,2,(cm [92] x).length+2]):=by
   have:fk fQ (run fQ 33) (.hd (.pat .quo)) (ao "search") [.str (61::((34::(cm [92] x++[34]))++r)) 512]=bA (ob (rl .quo (61::((34::(cm [92] x++[34]))++r))) λq=>ac (dL .none (λsp=>.mat (61::((34::(cm [92] x++[34]))++r)) 512 sp) q)) ae:=by left
   rw [this,Pb rfl];rfl
  generalize hy:cm [92] x=y at hm;have hs:bF (gq 3)=[cP (bF (gq 3)) 0,cP (bF (gq 3)) 1,cP (bF (gq 3)) 2]:=by left
  refine⟨.mat (61::((34::(y++[34]))++r)) 512 [0,y.length+3,2,y.length+2],eH V R (61::((34::(y++[34]))++r)) o P (.mat (61::((34::(y++[34]))++r)) 512 [0,y.length+3,2,y.length+2]) (.str K 512) vl nj nr,mu (x:=ao "m") (by left) (jK (m:=ao "search") (o:=.hd (.pat .quo)) (ds:=[.str (61::((34::(y++[34]))++r)) 512]) (by left) (by left) (by left) (by left) (by left) hm) (by left),hH (b:=ag) (by left) (by left) ?_⟩;refine(?_:b9 _ _ (bF (gq 3)) _=_);rw [hs];refine yw (σ1:=eH V R r o P (.mat (61::((34::(y++[34]))++r)) 512 [0,y.length+3,2,y.length+2]) (.str K 512) (.str y 512) nj nr) ?_ (cf (mu (x:=ao "value") (d:=.str x 512) (σ1:=eH V R r o P (.mat (61::((34::(y++[34]))++r)) 512 [0,y.length+3,2,y.length+2]) (.str K 512) (.str y 512) nj nr) (by left) (RQ (σ1:=eH V R r o P (.mat (61::((34::(y++[34]))++r)) 512 [0,y.length+3,2,y.length+2]) (.str K 512) (.str y 512) nj nr) (m:=ao "sub") (o:=.hd (.pat .esc)) (by left) (by left) ?_) (by left)) (by left))
  ·have:b9 (run fQ 34) (cS iX) [cP (bF (gq 3)) 0,cP (bF (gq 3)) 1] (eH V R (61::((34::(y++[34]))++r)) o P (.mat (61::((34::(y++[34]))++r)) 512 [0,y.length+3,2,y.length+2]) (.str K 512) vl nj nr)=ac (.next,eH V R ((61::((34::(y++[34]))++r)).drop (y.length+3)) o P (.mat (61::((34::(y++[34]))++r)) 512 [0,y.length+3,2,y.length+2]) (.str K 512) (.str (im (61::((34::(y++[34]))++r)) 2 (y.length+2)) 512) nj nr):=by left
   rw [U1,Vv]at this;exact this
  ·have:ro fQ (run fQ 32) (cS iX) (eH V R r o P (.mat (61::((34::(y++[34]))++r)) 512 [0,y.length+3,2,y.length+2]) (.str K 512) (.str y 512) nj nr) (.hd (.pat .esc)) (ao "sub") (xs (bl (cP (bF (gq 3)) 2)))=ob (ob (iH [] y am) λz=>ac (.str z 512)) λd=>ac (d,eH V R r o P (.mat (61::((34::(y++[34]))++r)) 512 [0,y.length+3,2,y.length+2]) (.str K 512) (.str y 512) nj nr):=by left
   refine Eq.trans this ?_;subst hy;rw [Sq];rfl
 |true=>
  have ev:gL x=x:=by unfold gL;exact af q rfl
  refine af ev ?_;obtain⟨k,rfl⟩:∃k,x=38::dw k [38]:=by
   unfold jd at q;refine ay (cZ.mp q) λbC q2=>?_;have:=lS.mp q2;induction x using dD with
   |nil=>cases bC
   |cons a y=>exact⟨y.length,this⟩
  have hv:rl .val (61::((38::dw k [38])++r))=ac (ac [0,k+2,1,k+2]):=by
   have:rl .val (61::((38::dw k [38])++r))=ac (ac [0,1+(bE mZ (dw k [38]++r)+1),1,1+(bE mZ (dw k [38]++r)+1)]):=by left
   rw [this,It hr,kB 1 (k+1)]
  have hm:fk fQ (run fQ 32) (.hd (.pat .val)) (ao "search") [.str (61::((38::dw k [38])++r)) 512]=ac (.mat (61::((38::dw k [38])++r)) 512 [0,k+2,1,k+2]):=by
   have:fk fQ (run fQ 32) (.hd (.pat .val)) (ao "search") [.str (61::((38::dw k [38])++r)) 512]=bA (ob (rl .val (61::((38::dw k [38])++r))) λq=>ac (dL .none (λsp=>.mat (61::((38::dw k [38])++r)) 512 sp) q)) ae:=by left
   refine af this (af hv ?_);rfl
  have hs:jX (gq 3)=[cP (jX (gq 3)) 0,cP (jX (gq 3)) 1]:=by left
  have hs2:bF (cP (jX (gq 3)) 1)=[cP (bF (cP (jX (gq 3)) 1)) 0,cP (bF (cP (jX (gq 3)) 1)) 1,cP (bF (cP (jX (gq 3)) 1)) 2]:=by left
  refine⟨.mat (61::((38::dw k [38])++r)) 512 [0,k+2,1,k+2],eH V R (61::((38::dw k [38])++r)) o P .none (.str K 512) vl nj nr,by left,hH (b:=am) (by left) (by left) ?_⟩;refine(?_:b9 _ _ (jX (gq 3)) _=_);rw [hs];refine cf (mu (x:=ao "m") (d:=.mat (61::((38::dw k [38])++r)) 512 [0,k+2,1,k+2]) (σ1:=eH V R (61::((38::dw k [38])++r)) o P .none (.str K 512) vl nj nr) (by left) (jK (m:=ao "search") (o:=.hd (.pat .val)) (ds:=[.str (61::((38::dw k [38])++r)) 512]) (by left) (by left) (by left) (by left) (by left) hm) (by left)) (cf (hH (b:=ag) (by left) (by left) ?_) js);refine(?_:b9 _ _ (bF (cP (jX (gq 3)) 1)) _=_);rw [hs2];refine yw (σ1:=eH V R r o P (.mat (61::((38::dw k [38])++r)) 512 [0,k+2,1,k+2]) (.str K 512) (.str (38::dw k [38]) 512) nj nr) ?_ ?_
  ·have:b9 (run fQ 33) (cS iX) [cP (bF (cP (jX (gq 3)) 1)) 0,cP (bF (cP (jX (gq 3)) 1)) 1] (eH V R (61::((38::dw k [38])++r)) o P (.mat (61::((38::dw k [38])++r)) 512 [0,k+2,1,k+2]) (.str K 512) vl nj nr)=ac (.next,eH V R ((61::((38::dw k [38])++r)).drop (k+2)) o P (.mat (61::((38::dw k [38])++r)) 512 [0,k+2,1,k+2]) (.str K 512) (.str (im (61::((38::dw k [38])++r)) 1 (k+2)) 512) nj nr):=by left
   have e1:(61::((38::dw k [38])++r)).drop (k+2)=r:=by
    refine(?_:(dw k [38]++r).drop k=r);rw [aa2 (by rw [ze];exact bZ _),q8 (by rw [ze];exact bZ _),vR]
   have e2:im (61::((38::dw k [38])++r)) 1 (k+2)=38::dw k [38]:=by
    refine(?_:(((38::dw k [38])++r)).take (k+2-1)=_);rw [aa3 (by refine(?_:k+2-1<=(dw k [38]).length+1);rw [ze];exact bZ _),Hr (by refine(?_:(dw k [38]).length+1<=k+2-1);rw [ze];exact bZ _)]
   rw [e1,e2]at this;exact this
  ·refine cf (mu (x:=ao "value") (d:=.str (38::dw k [38]) 512) (σ1:=eH V R r o P (.mat (61::((38::dw k [38])++r)) 512 [0,k+2,1,k+2]) (.str K 512) (.str (38::dw k [38]) 512) nj nr) (by left) ?_ (by left)) (by left)
   have:(run fQ 32).ev (cS iX) (eH V R r o P (.mat (61::((38::dw k [38])++r)) 512 [0,k+2,1,k+2]) (.str K 512) (.str (38::dw k [38]) 512) nj nr) (bl (cP (bF (cP (jX (gq 3)) 1)) 2))=ac (.str (nT cG (dw (k+1) [38])) 512,eH V R r o P (.mat (61::((38::dw k [38])++r)) 512 [0,k+2,1,k+2]) (.str K 512) (.str (38::dw k [38]) 512) nj nr):=by left
   exact this.trans (by refine af (KY (k+1)) ?_;rfl)
def fV(rs:List (T×T×T)):T:=@bW (T×T×T) (λO=>T) [] (λr O ih=>44::32::(d5 r++ih)) rs
theorem LA(r:T×T×T)(rs:List (T×T×T)):gQ (r::rs)=d5 r++fV rs:=by
 induction rs generalizing r with
 |nil=>show d5 r=d5 r++[];rw [ka]
 |cons x rs ih=>show d5 r++([44,32]++gQ (x::rs))=_;rw [ih];rfl
theorem LL(rs:List (T×T×T)):zD (fV rs):=by
 induction rs using dD with
 |nil=>exact .inl rfl
 |cons r rs=>exact .inr (.inr ⟨_,rfl⟩)
def GN(r:T×T×T):List ak:=[.tup [.str r.1 512,.none],.tup [.str gU 512,.str r.2.1 512],.tup [.str fA 512,.str r.2.2 512]]
def o8(r:T×T×T):ak:=.list (GN r)
theorem G8:gU=[83,116,97,121]:=by left
theorem GT:fA=[68,111,119,110]:=by left
theorem IP(x z:T):∃y,eE gU x++z=83::y:=⟨_,by unfold eE;refine af G8 ?_;rfl⟩
theorem IL(x z:T):∃y,eE fA x++z=68::y:=⟨_,by unfold eE;refine af GT ?_;rfl⟩
theorem MD(r:T×T×T)(y:T):d5 r++y=r.1++(59::32::(eE gU r.2.1++(59::32::(eE fA r.2.2++y)))):=by
 unfold d5;rw [ja,ja,ja,ja];rfl
abbrev pT(k:Nat)(σ:aA):Option (cQ×aA):=sQ (run fQ 36) (cS iX) (bl qY) (bF qY) k σ
theorem pB{k:Nat}(h:vj σ σ'):pT (k+1) σ=pT k σ':=Pj h.1 h.2 rfl
theorem Yt{V o m nm vl nj nr:ak}{R:List ak}{r:T×T×T}{y:T}{k:Nat}{a:ak}(hy:zD y):∃m' nm' vl' nj' nr',pT (k+4) (eH V R (59::32::(eE gU r.2.1++(59::32::(eE fA r.2.2++y)))) o [a] m nm vl nj nr)=pT k (eH V R y o [a,.tup [.str gU 512,.str r.2.1 512],.tup [.str fA 512,.str r.2.2 512]] m' nm' vl' nj' nr'):=by
 refine aw (IP r.2.1 (59::32::(eE fA r.2.2++y))) λz1 e1=>?_;refine aw (IL r.2.2 y) λz2 e2=>?_;refine aw (@Cz V o .none nm vl (.str (eE gU r.2.1++(59::32::(eE fA r.2.2++y))) 512) (fN 1) R [a] (59::32::(eE fA r.2.2++y)) r.2.1 _ (.inl rfl) (.inr (.inl ⟨_,rfl⟩)) rfl) λm1 bC=>?_;refine aw (@Cz V o .none (.str gU 512) (.str r.2.1 512) (.str (eE fA r.2.2++y) 512) (fN 1) R ([a]++[.tup [.str gU 512,.str r.2.1 512]]) y r.2.2 _ (.inr rfl) hy rfl) λm2 q2=>?_;refine⟨m2,.str fA 512,.str r.2.2 512,.str (eE fA r.2.2++y) 512,fN 1,?_⟩;refine af e1 (af (pB (DT 83 (.inl rfl))) (af e1.symm (af (pB bC) (af e2 (af (pB (DT 68 (.inr rfl))) (af e2.symm (af (pB q2) ?_)))))));rfl
theorem PG{V o m nm vl nj nr:ak}{R:List ak}{r:T×T×T}{y:T}{k:Nat}{a b c:ak}(hy:zD y)(hr:r.1∈su)(hR:R.length<=3):∃m' nm' vl' nj' nr',pT (k+6) (eH V R (44::32::(d5 r++y)) o [a,b,c] m nm vl nj nr)=pT k (eH V (R++[.list [a,b,c]]) y o (GN r) m' nm' vl' nj' nr'):=by
 rw [MD,pB (TY hR),pB (XG hr)];exact Yt hy
theorem Mh{V o:ak}:∀(rs:List (T×T×T))(R:List ak)(a b c m nm vl nj nr:ak)(k:Nat),R.length+rs.length<=3->(∀r∈rs,r.1∈su)->∃R' a' b' c' m' nm' vl' nj' nr',R'++[.list [a',b',c']]=R++(.list [a,b,c]::rs.map o8)/\R'.length<=3/\pT (k+6*rs.length) (eH V R (fV rs) o [a,b,c] m nm vl nj nr)=pT k (eH V R' [] o [a',b',c'] m' nm' vl' nj' nr')
 |[],R,a,b,c,m,nm,vl,nj,nr,k,h,_=>⟨R,a,b,c,m,nm,vl,nj,nr,rfl,h,rfl⟩
 |r::rs,R,a,b,c,m,nm,vl,nj,nr,k,h,hr=>by
  have h:R.length+(rs.length+1)<=3:=h;have zq:=(@PG V o m nm vl nj nr R r (fV rs) (k+6*rs.length) a b c (LL rs) (hr r ck) (by exact bM (mS R.length (rs.length+1)) h));refine d4 zq λm1 nm1 vl1 nj1 q1'=>aw q1' λnr1 e1=>?_;clear zq q1';obtain⟨R',a',b',c',m',nm',vl',nj',nr',e2,e3,d9⟩:=Mh rs (R++[.list [a,b,c]]) _ _ _ m1 nm1 vl1 nj1 nr1 k (by refine af gx ?_;refine(?_:R.length+1+rs.length<=3);lia) λx hx=>hr x (cW _ hx);refine⟨R',a',b',c',m',nm',vl',nj',nr',e2.trans (by rw [ja];rfl),e3,?_⟩;exact e1.trans d9
theorem EU{r:T×T×T}{rs:List (T×T×T)}(hr:r.1∈names)(hs:∀r∈rs,r.1∈su)(hl:rs.length<=3):(run fQ 39).call 77 [.list [.str (gQ (r::rs)) 512]]=ac (.list ((r::rs).map o8)):=by
 rw [LA];have hb:(cw iX).body=[dO iX 0,dO iX 1,vi,dO iX 3]:=by left
 have hc:bF vi=[cP (bF vi) 0,cP (bF vi) 1,qY,cP (bF vi) 3]:=by left
 generalize hV:ak.list [.str (d5 r++fV rs) 512]=V;have e0:∃m' nm' vl' nj' nr',pT (3994-6*rs.length+6*rs.length+6) (v7 V (d5 r++fV rs) (.str (d5 r++fV rs) 512) [] [])=pT (3994-6*rs.length+6*rs.length+1) (eH V [] (fV rs) (.str (d5 r++fV rs) 512) (GN r) m' nm' vl' nj' nr'):=by
  generalize ak.str (d5 r++fV rs) 512=o;rw [MD];refine aw (IP r.2.1 (59::32::(eE fA r.2.2++fV rs))) λz1 e1=>?_;refine aw (IL r.2.2 (fV rs)) λz2 e2=>?_;refine aw (@Cz V o .none (.str r.1 512) .none (.str (eE gU r.2.1++(59::32::(eE fA r.2.2++fV rs))) 512) (fN 1) [] [.tup [.str r.1 512,.none]] (59::32::(eE fA r.2.2++fV rs)) r.2.1 _ (.inl rfl) (.inr (.inl ⟨_,rfl⟩)) rfl) λm1 bC=>?_;refine aw (@Cz V o .none (.str gU 512) (.str r.2.1 512) (.str (eE fA r.2.2++fV rs) 512) (fN 1) [] ([.tup [.str r.1 512,.none]]++[.tup [.str gU 512,.str r.2.1 512]]) (fV rs) r.2.2 _ (.inr rfl) (LL rs) rfl) λm2 q2=>?_;refine⟨m2,.str fA 512,.str r.2.2 512,.str (eE fA r.2.2++fV rs) 512,fN 1,?_⟩;rw [pB (VT hr),e1,pB Pn,<-e1,pB bC,e2,pB (DT 68 (.inr rfl)),<-e2,pB q2];rfl
 refine d4 e0 λm1 nm1 vl1 nj1 q0'=>aw q0' λnr1 e1=>?_;clear e0 q0';have zq:=(@Mh V (.str (d5 r++fV rs) 512) rs [] (.tup [.str r.1 512,.none]) (.tup [.str gU 512,.str r.2.1 512]) (.tup [.str fA 512,.str r.2.2 512]) m1 nm1 vl1 nj1 nr1 (3994-6*rs.length+1) (by refine(?_:0+rs.length<=3);lia) hs);refine d4 zq λR' a' b' c' q0'=>d4 q0' λm' nm' vl' nj' q1'=>aw q1' λnr' q2'=>bu q2' λe2 e3 d9=>?_;clear zq q0' q1' q2';have e5:pT 4000 (v7 V (d5 r++fV rs) (.str (d5 r++fV rs) 512) [] [])=ac (.next,eH V R' [] (.str (d5 r++fV rs) 512) [a',b',c'] m' nm' vl' nj' nr'):=by
  refine af (show 4000=3994-6*rs.length+6*rs.length+6 by lia) ?_;refine e1.trans ?_;refine af (show 3994-6*rs.length+6*rs.length+1=3994-6*rs.length+1+6*rs.length by lia) ?_;exact d9.trans (XH (by left))
 have e2:R'++[.list [a',b',c']]=(r::rs).map o8:=e2;generalize hG:(r::rs).map o8=G at e2;have e6:∃σ',b9 (run fQ 37) (cS iX) [cP (bF vi) 3] (eH V R' [] (.str (d5 r++fV rs) 512) [a',b',c'] m' nm' vl' nj' nr')=ac (.next,σ')/\(run fQ 37).ev (cS iX) σ' (bl (dO iX 3))=ac (.list G,frz1 (ao "result") σ'):=by
  refine af e2.symm ?_;rcases R' with _|⟨x0,R⟩
  ·exact⟨[(ao "header_values",.fz V),(ao "result",.ow (.list [.list [a',b',c']])),(ao "text",.fz (.str [] 512)),(ao "orig_text",.fz (.str (d5 r++fV rs) 512)),(ao "pairs",.fz (.list [a',b',c'])),(ao "m",.fz m'),(ao "name",.fz nm'),(ao "value",.fz vl'),(ao "non_junk",.fz nj'),(ao "nr_junk_chars",.fz nr')],by left,by left⟩
  rcases R with _|⟨x1,R⟩
  ·exact⟨[(ao "header_values",.fz V),(ao "result",.ow (.list [x0,.list [a',b',c']])),(ao "text",.fz (.str [] 512)),(ao "orig_text",.fz (.str (d5 r++fV rs) 512)),(ao "pairs",.fz (.list [a',b',c'])),(ao "m",.fz m'),(ao "name",.fz nm'),(ao "value",.fz vl'),(ao "non_junk",.fz nj'),(ao "nr_junk_chars",.fz nr')],by left,by left⟩
  rcases R with _|⟨x2,R⟩
  ·exact⟨[(ao "header_values",.fz V),(ao "result",.ow (.list [x0,x1,.list [a',b',c']])),(ao "text",.fz (.str [] 512)),(ao "orig_text",.fz (.str (d5 r++fV rs) 512)),(ao "pairs",.fz (.list [a',b',c'])),(ao "m",.fz m'),(ao "name",.fz nm'),(ao "value",.fz vl'),(ao "non_junk",.fz nj'),(ao "nr_junk_chars",.fz nr')],by left,by left⟩
  rcases R with _|⟨x3,R⟩
  ·exact⟨[(ao "header_values",.fz V),(ao "result",.ow (.list [x0,x1,x2,.list [a',b',c']])),(ao "text",.fz (.str [] 512)),(ao "orig_text",.fz (.str (d5 r++fV rs) 512)),(ao "pairs",.fz (.list [a',b',c'])),(ao "m",.fz m'),(ao "name",.fz nm'),(ao "value",.fz vl'),(ao "non_junk",.fz nj'),(ao "nr_junk_chars",.fz nr')],by left,by left⟩
  ·exact absurd e3 (by simp only [kb];lia)
 refine aw e6 ?_;clear e6;intro σ' q2';refine ay q2' λe6 e7=>?_;clear q2';refine sB (f:=cw iX) (σ:=[(ao "header_values",.fz V)]) (by(symm;subst hV);rfl) (by left) (by left) (p:=(.ret (.list G),frz1 (ao "result") σ')) ?_ rfl;refine af hb ?_;refine yw (σ1:=[(ao "header_values",.fz V),(ao "result",.ow (.list []))]) (by(symm;subst hV);left) (cf (σ1:=σ') (@nG _ _ _ _ [(ao "header_values",.fz V),(ao "result",.ow (.list []))] _ _ V [.str (d5 r++fV rs) 512] (by left) (by left) (by(symm;subst hV);left) (eX (σ1:=[(ao "header_values",.fz V),(ao "result",.ow (.list [])),(ao "text",.fz (.str (d5 r++fV rs) 512))]) (by left) ?_ qO)) (mh (By (by left) e7)));refine af hc ?_;exact yw (σ1:=v7 V (d5 r++fV rs) (.str (d5 r++fV rs) 512) [] []) (by left) (cf (Qn (by left) e5) e6)
set_option backward.match.sparseCases false
noncomputable def vd(d:ak):T×T×T:=match d with|.list [.tup [.str a _,_],.tup [_,.str b _],.tup [_,.str c _]]=>(a,b,c)|_=>([],[],[])
theorem abE(r:T×T×T):vd (d6 r)=r:=rfl
noncomputable def B3(ds:List ak):List ak:=match ds with|.list l::_=>l|_=>[]
noncomputable def ZF(d:ak):Nat:=match d with|.int (.ofNat k) _=>k|_=>0
noncomputable def abp(k:Nat):Nat:=match k with|214=>0|221=>1|228=>2|235=>3|_=>4
def Wr(ds:List ak):Prop:=∃l b n m,l∈fe/\b∈fe/\ds=[.str l n,.str b m]
def Ng(ds:List ak):Prop:=∃l b,l∈fe/\b∈fe/\ds=[dq l,dq b]
def RP(ds:List ak):Prop:=∃rs:List (T×T×T),(∀x∈rs,B9 x)/\rs.length<=10/\(gQ rs).length<=512/\ds=[.list (rs.map d6)]
def Em(ds:List ak)(d:ak):Prop:=∃r rs,r.1∈names/\(∀x∈rs,x.1∈su)/\rs.length<=3/\ds=[.list [.str (gQ (r::rs)) 512]]/\d=.list ((r::rs).map o8)
def Ws(ds:List ak):Prop:=∃s n,wp s/\s.length<=16/\ds=[.str s n]
def wX(ds:List ak):Prop:=∃s n,lJ s/\s.length<=200/\ds=[.str s n]
def O4(ds:List ak):Prop:=∃c h n m,c∈oq/\h∈[0,1,2,3,4]/\ds=[.str [c] n,aV h m]
def TO(ds:List ak):Prop:=∃s n,s∈fe/\ds=[.str s n]
def kZ(g:T)(k:Nat):T:=match k with
 |0=>g
 |1=>(bC "a"++[46])++g
 |2=>(bC "b"++[46])++((bC "a"++[46])++g)
 |_=>(bC "c"++[46])++((bC "b"++[46])++((bC "a"++[46])++g))
def Ib:List (T×T):=names.flatMap λg=>[(kZ g 0,kZ g 0),(kZ g 1,46::kZ g 0),(kZ g 2,46::kZ g 1),(kZ g 3,46::kZ g 2)]
def E2(l:List (T×T))(s:T):Option T:=@bW (T×T) (λO=>Option T) ae (λp O ih=>aN ih (ac p.2) (le s p.1)) l
open Classical in
def zB(ds:List ak):Option ak:=if h:∃d,Em ds d then ac h.choose else ae
def jJ:Nat->List ak->Option ak:=Bn [(264,λds=>i9 (Wr ds) (.list (qS (kT ds) (Ep ds)))),(186,λds=>i9 (Ng ds) (.list (qS (kT ds) (Ep ds)))),(179,λds=>i9 (Ng ds) (.bool (eW (qS (kT ds) (Ep ds))))),(94,λds=>i9 (RP ds) (.str (gQ ((B3 ds).map vd)) 512)),(77,λds=>zB ds),(113,λds=>aY ds λd=>fB d λs O=>ob (E2 Ib s) λa=>ac (.str a 64)),(252,λds=>i9 (Ws ds) (.str (gL (kT ds)) 64)),(247,λds=>i9 (O4 ds) (.str (iM (ZF (ds.getD 1 .none)) ((kT ds).getD 0 0)) 8)),(214,λds=>i9 (wX ds) (.str (fU 0 (kT ds)) 4096)),(221,λds=>i9 (wX ds) (.str (fU 1 (kT ds)) 4096)),(228,λds=>i9 (wX ds) (.str (fU 2 (kT ds)) 4096)),(235,λds=>i9 (wX ds) (.str (fU 3 (kT ds)) 4096)),(242,λds=>i9 (wX ds) (.str (fU 4 (kT ds)) 4096))] pi
def wZ(ds:List ak):Option ak:=i9 (TO ds) (dq (kT ds))
theorem qz{s:T}{m:Nat}(h:s.length<=m)(r:aH G F v (.str s n)):aH G F v (.str s m):=by
 refine aw r λt q1'=>bu q1' λe l a=>?_;clear r q1';exact⟨t,e,h,a⟩
theorem qy{w:b7}{os:dl}{o:List ak->Option ak}{ds es:List ak}{c d:ak}(e:o es=ac c)(hr:∀(sp:Nat->List ak->Option ak) (ns:List ak->Option ak) (F:bn) vs,br (fL w os sp ns) F vs ds->br (fL w os sp ns) F vs es)(hd:∀(sp:Nat->List ak->Option ak) (ns:List ak->Option ak) (F:bn) v,aH (fL w os sp ns) F v c->aH (fL w os sp ns) F v d):qC w os o ds d:=⟨es,c,e,hr,hd⟩
theorem IR(s:T):(cm [92] s).length<=2*s.length:=by
 induction s with
 |nil=>exact bZ _
 |cons c r ih=>
  refine(?_:(@aN (λO=>T) (c::cm [92] r) ([92]++(c::cm [92] r)) (gi c)).length<=2*(r.length+1));cases gi c
  ·refine(?_:(cm [92] r).length+1<=_);lia
  ·refine(?_:(cm [92] r).length+1+1<=_);lia
theorem Rh{s:T}(h:s.length<=16):(gL s).length<=64:=by
 unfold gL;cases jd s
 ·refine(?_:(cm [92] s++[34]).length+1<=64)
  have:=IR s;refine af gx ?_;refine(?_:(cm [92] s).length+1+1<=64);lia
 ·refine(?_:s.length<=64);exact bM h (ik 16 48)
theorem TK{h:Nat}(hh:h∈[0,1,2,3,4]){c:Nat}(hc:c∈oq):(iM h c).length<=6:=ll (eV.mp (eV.mp UA c hc) h hh)
theorem XT{h:Nat}(hh:h∈[0,1,2,3,4])(hs:lJ s):(fU h s).length<=6*s.length:=BI _ 6 s λc hc=>TK hh (hs c hc)
theorem y7{w:b7}{os:dl}{k h:Nat}(hh:h∈[0,1,2,3,4])(f:∀s,lJ s->s.length<=1000->(run fQ 39).call k [.str s s.length]=ac (.str (fU h s) (fU h s).length)){ds:List ak}{d:ak}(x:i9 (wX ds) (.str (fU h (kT ds)) 4096)=ac d):qC w os ((run fQ 39).call k) ds d:=by
 refine ay (o9 x) λz0 z1=>bV z0 λs n q0'=>bu q0' λhs hl z2=>?_;clear z0 q0';subst z2;subst z1;refine qy (f s hs (by exact bM hl (ik 200 800))) (λsp ns F vs r=>r.cons_er λv ws e a q=>by subst e;exact .cons (qz (bZ _) a) q) λsp ns F v r=>qz ?_ r;have:=XT hh hs;refine(?_:(fU h s).length<=4096);lia
theorem Yp{z:Nat}(h1:z∈[0,1,2,3,4])(r:aH G F v (aV z m)):aH G F v (aV z 3):=Gc (by simp at h1;lia) r
theorem L4:∀{l:List (T×T)},E2 l s=ac a->(s,a)∈l
 |[],h=>aW h
 |p::l,h=>by
  change@aN (λO=>Option T) (E2 l s) (ac p.2) (le s p.1)=ac a at h;cases q:le s p.1 with
  |false=>rw [q]at h;exact cW _ (L4 h)
  |true=>rw [q]at h;refine bG h ?_;refine af (lS.mp q) ?_;exact ck
theorem XX:(Ib.all λp=>ig p.1.length 20&&rx ((run fQ 39).call 113 [.str p.1 20]) (.str p.2 64))=ag:=by left
theorem Xv{w:b7}{os:dl}(k:Nat)(ds:List ak)(d:ak)(h:jJ k ds=ac d):qC w os ((run fQ 39).call k) ds d:=by
 refine J7 (Q:=λk ds d=>qC w os ((run fQ 39).call k) ds d) (λk ds d h=>?_) (lv.mpr ⟨λds d h=>?_,lv.mpr ⟨λds d h=>?_,lv.mpr ⟨λds d h=>?_,lv.mpr ⟨λds d h=>?_,lv.mpr ⟨λds d h=>?_,lv.mpr ⟨λds d h=>?_,lv.mpr ⟨λds d h=>?_,lv.mpr ⟨λds d h=>?_,lv.mpr ⟨λds d h=>?_,lv.mpr ⟨λds d h=>?_,lv.mpr ⟨λds d h=>?_,lv.mpr ⟨λds d h=>?_,lv.mpr ⟨λds d h=>?_,aa1 _⟩⟩⟩⟩⟩⟩⟩⟩⟩⟩⟩⟩⟩) h
 ·refine⟨ds,d,?_,λO O O O r=>r,λO O O O r=>r⟩
  unfold pi at h;refine bj h λe h=>?_;cases f0 e;exact iJ (show mU 200 ds=ac d from h)
 ·refine ay (o9 h) λz0 z1=>d4 z0 λl b n m q2'=>bu q2' λhl hb z2=>?_;clear z0 q2';subst z2;subst z1
  exact qy (V6 hl hb) (λsp ns F vs r=>r.cons_er λv ws e a q=>by(symm;subst e);exact q.cons_er λv2 ws2 e b q2=>by subst e;exact .cons (qz (lE hl).1 a) (.cons (qz (lE hb).1 b) q2)) λsp ns F v r=>r
 ·refine ay (o9 h) λz0 z1=>bV z0 λl b q1'=>bu q1' λhl hb z2=>?_;clear z0 q1';subst z2;subst z1
  exact qy (U6 hl hb) (λsp ns F vs r=>r) λsp ns F v r=>r
 ·refine ay (o9 h) λz0 z1=>bV z0 λl b q0'=>bu q0' λhl hb z2=>?_;clear z0 q0';subst z2;subst z1
  exact qy (ZG hl hb) (λsp ns F vs r=>r) λsp ns F v r=>r
 ·refine ay (o9 h) λz0 z1=>aw z0 λrs q2'=>dH q2' λho hl hn z3=>?_;clear z0 q2';subst z3;subst z1
  refine aw (@Vo _ mU ho hl rfl) λN q1'=>ay q1' λO e=>?_;clear q1';refine qy e (λsp ns F vs r=>r) λsp ns F v r=>?_;have:(B3 [ak.list (rs.map d6)]).map vd=rs:=by refine(?_:(rs.map d6).map vd=rs);refine af jB ?_;exact Df _
  refine af this ?_;exact qz hn r
 ·have h:zB ds=ac d:=h
  unfold zB at h;split at h
  ·rename_i q
   refine bV q.choose_spec λr rs q0'=>mq q0' λh1 h2 h3 h4 h5=>?_;clear q0';have h:=eJ h;rw [h]at h5;(symm;subst h4 h5);exact qy (EU h1 h2 h3) (λsp ns F vs r=>r) λsp ns F v r=>r
  ·exact aW h
 ·refine fy h λd0 e0 h=>ff h λs n e1 h=>aX h λa q h=>?_
  refine bG h ?_;(symm;subst e1);subst e0;refine ay (cZ.mp (eV.mp XX _ (L4 q))) λbC q2=>?_;refine aw (A8 q2) λc2 q2'=>ay q2' λe f=>?_;clear q2';exact qy e (λsp ns F vs r=>r.cons_er λv ws e a q=>by(symm;subst e);exact .cons (qz (ll bC) a) q) λsp ns F v=>f _ F v
 ·refine ay (o9 h) λz0 z1=>bV z0 λs n q1'=>bu q1' λhs hl z2=>?_;clear z0 q1';subst z2;subst z1
  have zq:=(@Y5 _ mU hs (by lia) rfl);refine aw zq λN q0'=>ay q0' λO e=>?_;clear zq q0';exact qy e (λsp ns F vs r=>r.cons_er λv ws e a q=>by(symm;subst e);exact .cons (qz (by lia) a) q) λsp ns F v r=>qz (Rh hl) r
 ·refine ay (o9 h) λz0 z1=>d4 z0 λc z n m q2'=>bu q2' λhc hz z2=>?_;clear z0 q2';subst z2;subst z1
  refine aw (A8 (eV.mp (eV.mp RN c hc) z hz)) λc2 q1'=>ay q1' λe f=>?_;clear q1';exact qy e (λsp ns F vs r=>r.cons_er λv ws e a q=>by(symm;subst e);exact q.cons_er λv2 ws2 e b q2=>by subst e;exact .cons (qz (bZ 1) a) (.cons (Yp hz b) q2)) λsp ns F v=>f _ F v
 ·exact y7 (by decide) (λs hs hl=>U7 s hs hl rfl) h
 ·exact y7 (by decide) (λs hs hl=>Q4 s hs hl rfl) h
 ·exact y7 (by decide) (λs hs hl=>XR s hs hl rfl) h
 ·exact y7 (by decide) (λs hs hl=>SV s hs hl rfl) h
 ·exact y7 (by decide) (λs hs hl=>TQ s hs hl rfl) h
theorem SY{w:b7}{os:dl}(ds:List ak)(d:ak)(h:wZ ds=ac d):qC w os (sX fQ (run fQ 39)) ds d:=by
 refine ay (o9 h) λz0 z1=>bV z0 λs n q0'=>ay q0' λhs z1=>?_;clear z0 q0';subst z1;subst z1;refine aw (A8 (eV.mp (@Sp mU) s hs)) λc q2'=>ay q2' λe f=>?_;clear q2';exact qy e (λsp ns F vs r=>r.cons_er λv ws e a q=>by(symm;subst e);exact .cons (qz (lE hs).1 a) q) λsp ns F v=>f _ F v
theorem abH{w:b7}{os:dl}(bk:zg)(Z:pR (fL w os pi sC) 1):pR (fL w os jJ wZ) 81:=Lm (n:=39) bk (OW bk Z) Xv SY
set_option backward.match.sparseCases true
abbrev aR:eQ:=oi km jJ wZ
abbrev bh:cC:=cS "law"
abbrev bx(i:Nat):bY:=dO "law" i
def B5(ds:List ak):Prop:=∀d∈ds,∃i n,d=.int i n
theorem EY{α:Type}{a:α}:∀(l:List α)(k:Nat),a∈third l k->a∈l
 |[],_,h=>nomatch h
 |b::l,0,h=>(cI.mp (show a∈b::third l 2 from h)).elim (λe=>e▸ck) λh=>cW _ (EY l 2 h)
 |b::l,k+1,h=>cW _ (EY l k h)
theorem I4:∀{ds:List ak},B5 ds->∃L m,l8 ds=ac (L,m)
 |[],_=>⟨[],0,rfl⟩
 |d::ds,h=>by
  refine bV (@I4 ds λx hx=>h x (cW _ hx)) λL m e=>?_;refine bV (h d ck) λi n z2=>?_;subst z2;exact⟨i::L,cK n m,by refine(?_:(ob (l8 ds) λp=>ac (i::p.1,cK n p.2))=_);refine af e ?_;rfl⟩
abbrev wb:aK:=bl (bx 0)
abbrev LC:aK:=ft (bK wb)
abbrev GM:aK:=cO LC 0
abbrev q6(ds:List ak)(k b:ak):aA:=[(ao "script",.fz (.list ds)),(ao "k",.fz k),(ao "base",.fz b)]
theorem Uc{ds:List ak}(hl:bB ds.length lim=ag)(k:Nat)(b:ak):(run aR 96).ev (dj bh wb) (q6 ds (fN k) b) GM=ac (.list (third (ds.drop k) 0),q6 ds (fN k) b):=by
 have h:(run aR 96).ev (dj bh wb) (q6 ds (fN k) b) GM=bA (ob (aS (bB ds.length lim) (ac (.list (third (ds.drop k) 0)))) λd=>ac (d,q6 ds (fN k) b)) (ob (aS (bB ds.length lim) (ac (.list (third (ds.drop k) 0)))) λd=>ac (d,q6 ds (fN k) b)):=by left
 refine af h (af hl ?_);rfl
theorem DZ(hi:B5 ds)(hl:bB ds.length lim=ag)(k:Nat)(b:Int)(n:Nat):∃i m,(run aR 98).ev (dj bh wb) (q6 ds (fN k) (.int b n)) (bK wb)=ac (.int i m,q6 ds (fN k) (.int b n)):=by
 refine bV (@I4 (third (ds.drop k) 0) λd h=>hi d (xC (EY _ _ h))) λL m e=>?_;have hc:on aR (run aR 96) (.bf .sum) [.list (third (ds.drop k) 0)]=ac (.int (lI L 0) (eL (m+L.length+1))):=by
  refine(?_:(ob (l8 (third (ds.drop k) 0)) λp=>ac (ak.int (lI p.1 0) (eL (p.2+p.1.length+1))))=_);refine af e ?_;rfl
 exact⟨_,_,@ki .Add _ _ _ (.int b n) (.int (lI L 0) (eL (m+L.length+1))) _ _ _ (by left) (by left) (jn (x:=ao "sum") (h:=.bf .sum) (ds:=[.list (third (ds.drop k) 0)]) (by left) (by left) rfl (by refine af (show xs LC=[GM] by left) ?_;exact iV (Uc hl k _) m9) hc) rfl⟩
noncomputable abbrev dP(c0 c1 c2:Int)(n0 n1 n2:Nat):ak:=.list [.int c0 n0,.int c1 n1,.int c2 n2]
theorem YM(hi:B5 ds)(hl:bB ds.length lim=ag):∃c0 c1 c2 n0 n1 n2,(run aR 99).ex bh [(ao "script",.fz (.list ds))] (bx 0)=ac (.next,[(ao "script",.fz (.list ds)),(ao "cells",.fz (dP c0 c1 c2 n0 n1 n2))]):=by
 refine bV (DZ hi hl 0 251 8) λc0 n0 e0=>?_;refine bV (DZ hi hl 1 403354621 29) λc1 n1 e1=>?_;refine bV (DZ hi hl 2 925532 20) λc2 n2 e2=>?_;refine⟨c0,c1,c2,n0,n1,n2,(xc (x:=ao "cells") (d:=dP c0 c1 c2 n0 n1 n2) (σ1:=[(ao "script",.fz (.list ds))]) (by left) (uK (l:=[.tup [fN 0,.int 251 8],.tup [fN 1,.int 403354621 29],.tup [fN 2,.int 925532 20]]) (σ1:=[(ao "script",.fz (.list ds))]) (by left) (by left) ?_) (by left)).trans (by left)⟩;refine af (show ge wb=[] by left) ?_;exact gm (σ1:=q6 ds (fN 0) (.int 251 8)) (by left) (gD e0 rfl) (gm (σ1:=q6 ds (fN 1) (.int 403354621 29)) (by left) (gD e1 rfl) (gm (σ1:=q6 ds (fN 2) (.int 925532 20)) (by left) (gD e2 rfl) sy))
set_option backward.match.sparseCases false
def rT(e:aK):aK:=(GX e).getD 0 e
noncomputable def Fx(e:aK):Bool:=match e with
 |.Name .. =>ag
 |_=>am
abbrev Zc(x:aL)(e:aK):Prop:=(e,uI (ft e))=(aa4 (.Name x (cV (rT e))) (ft e) (cV e),ag)
abbrev Ln(e:aK):Prop:=(e,uI (ft e),Fx (rT e))=(aa4 (rT e) (ft e) (cV e),ag,am)
abbrev RF(x:aL)(st:bY):Prop:=(st,gh (xs (bl st)),bB (xs (bl st)).length 1000,xs (bl st))=(Dp [.Name x (cV (gu st))] (.List (xs (bl st)) (cV (bl st))) (ir st),ag,ag,xs (bl st))
theorem PW{α:Type}{f:aL->eF->Option α}(h:Fx a=am):kh a f=ae:=by induction a using fw<;>first|rfl|cases h
theorem Ir{E:bQ}(h:uI i=ag)(h1:E.ev sc σ i=ac (d,σ1)):tF E sc σ i=ac (.at d,σ1):=by
 have g:ob (E.ev sc σ i) (λp=>ac (mA.at p.1,p.2))=ac (.at d,σ1):=by refine af h1 ?_;rfl
 induction i using fw<;>first|exact g|exact bR h
theorem R4{E:bQ}(hs:Zc x e)(hm:ji sc x=ag)(h1:ba x σ=ac b)(h2:E.ev sc σ (ft e)=ac (i,σ))(h3:item b.d i=ac d):(step C E).ev sc σ e=ac (d,σ):=by
 replace hs:=uO hs;refine ay hs ?_;clear hs;intro hs e2;generalize cV (rT e)=np at*;generalize ft e=j at*;generalize cV e=p at*;subst hs;refine(?_:bA (aS (ji sc x) (ob (ba x σ) λO=>ob (tF E sc σ j) λq=>ob (ba x q.2) λb=>ob (pP b.d q.1) λd=>ac (d,q.2))) _=_);refine af hm (af h1 ?_);refine(?_:bA (ob (tF E sc σ j) λq=>ob (ba x q.2) λb=>ob (pP b.d q.1) λd=>ac (d,q.2)) _=_);refine af (Ir e2 h2) ?_;refine(?_:bA (ob (ba x σ) λb=>ob (pP b.d (.at i)) λd=>ac (d,σ)) _=_);refine af h1 ?_;refine(?_:bA (ob (item b.d i) λd=>ac (d,σ)) _=_);refine af h3 ?_;rfl
theorem Nl{E:bQ}(hs:Ln e)(h1:E.ev sc σ (rT e)=ac (o,σ1))(h2:E.ev sc σ1 (ft e)=ac (i,σ2))(h3:item o i=ac d):(step C E).ev sc σ e=ac (d,σ2):=by
 replace hs:=tG hs;refine bu hs ?_;clear hs;intro hs e2 e3;generalize rT e=a at*;generalize ft e=j at*;generalize cV e=p at*;subst hs;refine(?_:bA (kh a λx O=>_) (ob (E.ev sc σ a) λp=>ob (tF E sc p.2 j) λq=>ob (pP p.1 q.1) λd=>ac (d,q.2))=_);refine af (PW e3) (af h1 ?_);refine(?_:(ob (tF E sc σ1 j) λq=>ob (pP o q.1) λd=>ac (d,q.2))=_);refine af (Ir e2 h2) ?_;refine(?_:(ob (item o i) λd=>ac (d,σ2))=_);refine af h3 ?_;rfl
theorem Qr{E:bQ}(hs:Ln e)(h1:E.ev sc σ (rT e)=ac (o,σ))(h2:E.ev sc σ (ft e)=ac (i,σ))(h3:item o i=ac d):(step C E).ev sc σ e=ac (d,σ):=Nl hs h1 h2 h3
theorem OU{C:eQ}{E:bQ}{sc:cC}{σ σ1:aA}{x:aL}{ds:List ak}{st:bY}(hs:RF x st)(h:dQ E sc (xs (bl st)) σ=ac (ds,σ1))(hw:ke sc x=ag):(step C E).ex sc σ st=ac (.next,put x (.ow (.list ds)) σ1):=by
 replace hs:=tG hs;refine bu hs ?_;clear hs;intro hs e2 e3;replace e3:=(rc e3).1;generalize xs (bl st)=es at*;generalize cV (bl st)=p2 at*;generalize cV (gu st)=p' at*;generalize ir st=p at*;subst hs;have f1:nR E sc σ (.List es p2)=ac (.list ds,σ1):=by
  refine(?_:aS (gh es) (aS (bB es.length 1000) (ob (dQ E sc es σ) λp=>ac (ak.list p.1,p.2)))=_);refine af e2 (af e3 (af h ?_));rfl
 refine(?_:bA (bA (bA (ob (nR E sc σ (.List es p2)) λp=>ob (iT sc p.2 x (.ow p.1)) go) _) _) _=_);refine af f1 ?_;refine(?_:bA (bA (bA (ob (aS (ke sc x) _) _) _) _) _=_);refine af hw ?_;rfl
abbrev sN(R:Nat):ak:=.list (fJ R 0)
abbrev qA(dS dC:ak)(r:aA):aA:=(ao "script",.fz dS)::(ao "cells",.fz dC)::r
theorem yD(a:Int)(n:Nat)(h:0<n):∃k:Nat,k<n/\gJ a n=k:=by
 have h1:(0:Int)<=gJ a n:=Int.fmod_nonneg_of_pos a (by simp_all);have h2:gJ a n<n:=Int.fmod_lt_of_pos a (by lia);exact⟨(gJ a n).toNat,by simp_all,by exact(λ{a}=>Int.eq_natCast_toNat.mpr) h1⟩
theorem X0:∃R:Nat,(R=3\/R=4)/\(run aR 99).ex bh (qA dS (dP c0 c1 c2 n0 n1 n2) []) (bx 1)=ac (.next,qA dS (dP c0 c1 c2 n0 n1 n2) [(ao "rungs",.fz (sN R))]):=by
 have e1:(run aR 97).ev bh (qA dS (dP c0 c1 c2 n0 n1 n2) []) (cO (bl (bx 1)) 0)=ac (.rng 0 (3+gJ c0 2),qA dS (dP c0 c1 c2 n0 n1 n2) []):=by left
 have e2:∀R:Nat,R=3\/R=4->3+gJ c0 2=(R:Int)->(run aR 99).ex bh (qA dS (dP c0 c1 c2 n0 n1 n2) []) (bx 1)=ac (.next,qA dS (dP c0 c1 c2 n0 n1 n2) [(ao "rungs",.fz (sN R))]):=λR hR e=>by
  rw [e]at e1;refine(mu (x:=ao "rungs") (by left) (@jn (ao "list") _ _ _ (.bf .list) [.rng 0 (R:Int)] _ (sN R) _ (by left) (by left) rfl (by refine af (show xs (bl (bx 1))=[cO (bl (bx 1)) 0] by left) ?_;exact iV e1 m9) (by rcases hR with rfl|rfl<;>left)) (by left)).trans (by left)
 have zq:=(yD c0 2 (by decide));refine aw zq λk q1'=>ay q1' λaB ek=>?_;clear zq q1';have ek:gJ c0 2=(k:Int):=ek;have:=T7 aB;rcases this with rfl|rfl
 ·exact⟨3,.inl rfl,e2 3 (.inl rfl) (by refine af ek ?_;rfl)⟩
 ·exact⟨4,.inr rfl,e2 4 (.inr rfl) (by refine af ek ?_;rfl)⟩
noncomputable abbrev IG:List T:=[[],[38],[60],[62],[34],[92],[108,116,59],[61,13],[10]]
abbrev oa(dS dC:ak)(R h:Nat)(rb:Int)(r:aA):aA:=qA dS dC ((ao "rungs",.fz (sN R))::(ao "hand",.fz (aV h 3))::(ao "rebate",.fz (.int rb 4))::r)
abbrev ju:ak:=.list (qR IG)
abbrev qX(g:T):ak:=.list [.str g g.length,.str (bC "a") 1,.str (bC "b") 1,.str (bC "c") 1]
theorem TX:∃(h:Nat)(rb:Int),h<5/\b9 (run aR 99) bh [bx 2,bx 3,bx 4] (qA dS (dP c0 c1 c2 n0 n1 n2) [(ao "rungs",.fz (sN R))])=ac (.next,oa dS (dP c0 c1 c2 n0 n1 n2) R h rb [(ao "signs",.ow ju)]):=by
 have zq:=(yD (ij c0 6) 5 (by decide));refine aw zq λk q0'=>ay q0' λaB ek=>?_;clear zq q0';have ek:gJ (ij c0 6) 5=(k:Int):=ek;refine⟨k,gJ (ij c0 30) 9,aB,?_⟩;have:b9 (run aR 99) bh [bx 2,bx 3,bx 4] (qA dS (dP c0 c1 c2 n0 n1 n2) [(ao "rungs",.fz (sN R))])=ac (.next,qA dS (dP c0 c1 c2 n0 n1 n2) [(ao "rungs",.fz (sN R)),(ao "hand",.fz (.int (gJ (ij c0 6) 5) 3)),(ao "rebate",.fz (.int (gJ (ij c0 30) 9) 4)),(ao "signs",.ow ju)]):=by left
 rw [ek]at this;exact this
theorem SZ:∃g,g∈names/\(run aR 99).ex bh (oa dS (dP c0 c1 c2 n0 n1 n2) R h rb [(ao "signs",.ow ju)]) (bx 5)=ac (.next,oa dS (dP c0 c1 c2 n0 n1 n2) R h rb [(ao "signs",.ow ju),(ao "labels",.ow (qX g))]):=by
 have key:∀(k:Nat)(g:T),gJ (ij c0 2) 3=(k:Int)->item (.tup [.str (bC "local") 5,.str (bC "y.net") 5,.str (bC "y.xlocal") 8]) (.int (k:Int) 2)=ac (.str g g.length)->(run aR 99).ex bh (oa dS (dP c0 c1 c2 n0 n1 n2) R h rb [(ao "signs",.ow ju)]) (bx 5)=ac (.next,oa dS (dP c0 c1 c2 n0 n1 n2) R h rb [(ao "signs",.ow ju),(ao "labels",.ow (qX g))]):=λk g ek hi=>by
  have e1:(run aR 97).ev bh (oa dS (dP c0 c1 c2 n0 n1 n2) R h rb [(ao "signs",.ow ju)]) (ft (cO (bl (bx 5)) 0))=ac (.int (gJ (ij c0 2) 3) 2,oa dS (dP c0 c1 c2 n0 n1 n2) R h rb [(ao "signs",.ow ju)]):=by left
  rw [ek]at e1;have e2:xs (bl (bx 5))=cO (bl (bx 5)) 0::(xs (bl (bx 5))).drop 1:=by left
  refine(@OU _ _ _ _ (oa dS (dP c0 c1 c2 n0 n1 n2) R h rb [(ao "signs",.ow ju)]) (ao "labels") [.str g g.length,.str (bC "a") 1,.str (bC "b") 1,.str (bC "c") 1] _ (by left) ?_ (by left)).trans (by left);refine af e2 ?_;exact iV (Qr (by left) (by left) e1 hi) (by left)
 have zq:=(yD (ij c0 2) 3 (by decide));refine aw zq λk q2'=>ay q2' λaB ek=>?_;clear zq q2';have ek:gJ (ij c0 2) 3=(k:Int):=ek;have:=Dy aB;rcases this with rfl|rfl|rfl
 ·exact⟨bC "local",ck,key 0 _ ek (by left)⟩
 ·exact⟨bC "y.net",cW _ ck,key 1 _ ek (by left)⟩
 ·exact⟨bC "y.xlocal",cW _ (cW _ ck),key 2 _ ek (by left)⟩
set_option backward.match.sparseCases true
noncomputable def gv(c1:Int)(j:Nat):Nat:=(gJ (ij c1 ((9:Int)^j)) 9).toNat
def gt(k:Nat):T:=IG.getD k []
def tl(a b c:Nat):T:=gt a++(gt b++gt c)
def qP(c1:Int)(h:Nat):T:=tl (gv c1 (3*h+0)) (gv c1 (3*h+1)) (gv c1 (3*h+2))
theorem sM(c1:Int)(j:Nat):gv c1 j<9/\gJ (ij c1 ((9:Int)^j)) 9=(gv c1 j:Int):=by
 have zq:=(yD (ij c1 ((9:Int)^j)) 9 (by decide));refine aw zq λk q2'=>ay q2' λaB e=>?_;clear zq q2';have e:gJ (ij c1 ((9:Int)^j)) 9=(k:Int):=e;unfold gv;refine af e ?_;exact⟨aB,rfl⟩
theorem QI{k:Nat}(h:k<9):item ju (.int (k:Int) 4)=ac (.str (gt k) (gt k).length):=by
 have:=Mm h;rcases this with rfl|rfl|rfl|rfl|rfl|rfl|rfl|rfl|rfl<;>left
theorem DN{k:Nat}(h:k<9):(gt k).length<=3:=by
 have:=Mm h;rcases this with rfl|rfl|rfl|rfl|rfl|rfl|rfl|rfl|rfl<;>decide+kernel
abbrev nB:aK:=bl (bx 6)
abbrev ui:aK:=cO (bK nB) 0
abbrev iL(dC d:ak):aA:=[(ao "cells",.fz dC),(ao "signs",.fz ju),(ao "h",.fz d)]
abbrev ri(dC h d:ak):aA:=[(ao "cells",.fz dC),(ao "h",.fz h),(ao "signs",.fz ju),(ao "k",.fz d)]
theorem Uu(c0 c1 c2:Int)(n0 n1 n2:Nat):∀h:Nat,h<4->∀k:Nat,k<3->(run aR 95).ev (dj (dj bh nB) ui) (ri (dP c0 c1 c2 n0 n1 n2) (aV h (dW h)) (aV k (dW k))) (ft (bK ui))=ac (.int (gJ (ij c1 ((9:Int)^(3*h+k))) 9) 4,ri (dP c0 c1 c2 n0 n1 n2) (aV h (dW h)) (aV k (dW k))):=by
 intro h hh k aB;have h1:=I3 hh;have h2:=Dy aB;rcases h1 with rfl|rfl|rfl|rfl<;>rcases h2 with rfl|rfl|rfl<;>left
theorem Fo(h k:Nat)(hh:h<4)(aB:k<3):(run aR 96).ev (dj (dj bh nB) ui) (ri (dP c0 c1 c2 n0 n1 n2) (aV h (dW h)) (aV k (dW k))) (bK ui)=ac (.str (gt (gv c1 (3*h+k))) (gt (gv c1 (3*h+k))).length,ri (dP c0 c1 c2 n0 n1 n2) (aV h (dW h)) (aV k (dW k))):=
 R4 (x:=ao "signs") (b:=.fz ju) (by left) (by left) (by left) ((Uu c0 c1 c2 n0 n1 n2 h hh k aB).trans (by exact af ((sM c1 (3*h+k)).2) rfl)) (QI (sM c1 (3*h+k)).1)
theorem ud(h:Nat)(hh:h<4):(run aR 98).ev (dj bh nB) (iL (dP c0 c1 c2 n0 n1 n2) (aV h (dW h))) (bK nB)=ac (.str (qP c1 h) 64,iL (dP c0 c1 c2 n0 n1 n2) (aV h (dW h))):=by
 have hc:(run aR 97).ev (dj bh nB) (iL (dP c0 c1 c2 n0 n1 n2) (aV h (dW h))) ui=ac (.list [.str (gt (gv c1 (3*h+0))) (gt (gv c1 (3*h+0))).length,.str (gt (gv c1 (3*h+1))) (gt (gv c1 (3*h+1))).length,.str (gt (gv c1 (3*h+2))) (gt (gv c1 (3*h+2))).length],iL (dP c0 c1 c2 n0 n1 n2) (aV h (dW h))):=by
  refine(@ve _ _ _ _ _ [aV 0 (dW 0),aV 1 (dW 1),aV 2 (dW 2)] (iL (dP c0 c1 c2 n0 n1 n2) (aV h (dW h))) [.str (gt (gv c1 (3*h+0))) (gt (gv c1 (3*h+0))).length,.str (gt (gv c1 (3*h+1))) (gt (gv c1 (3*h+1))).length,.str (gt (gv c1 (3*h+2))) (gt (gv c1 (3*h+2))).length] (by left) (by left) ?_).trans (by left);refine af (show ge ui=[] by left) ?_;exact gm (σ1:=ri (dP c0 c1 c2 n0 n1 n2) (aV h (dW h)) (aV 0 (dW 0))) (by left) (gD (Fo h 0 hh (by decide)) rfl) (gm (σ1:=ri (dP c0 c1 c2 n0 n1 n2) (aV h (dW h)) (aV 1 (dW 1))) (by left) (gD (Fo h 1 hh (by decide)) rfl) (gm (σ1:=ri (dP c0 c1 c2 n0 n1 n2) (aV h (dW h)) (aV 2 (dW 2))) (by left) (gD (Fo h 2 hh (by decide)) rfl) sy))
 have fq:=DN (sM c1 (3*h+0)).1;have aY:=DN (sM c1 (3*h+1)).1;have b6:=DN (sM c1 (3*h+2)).1;have hj:∀(a b c:T),a.length<=3->b.length<=3->c.length<=3->fk aR (run aR 97) (.str [] 0) (ao "join") [.list [.str a a.length,.str b b.length,.str c c.length]]=ac (.str (a++(b++c)) 64):=λa b c ha hb hc=>by
  have e:fk aR (run aR 97) (.str [] 0) (ao "join") [.list [.str a a.length,.str b b.length,.str c c.length]]=bA (iO (a++(b++c)) (eL (a.length+(b.length+(c.length+0))+0*3))) ae:=by left
  refine af e (af (show eL (a.length+(b.length+(c.length+0))+0*3)=64 from EO (by lia)) ?_);rfl
 have hj':fk aR (run aR 97) (.str [] 0) (ao "join") [.list [.str (gt (gv c1 (3*h+0))) (gt (gv c1 (3*h+0))).length,.str (gt (gv c1 (3*h+1))) (gt (gv c1 (3*h+1))).length,.str (gt (gv c1 (3*h+2))) (gt (gv c1 (3*h+2))).length]]=ac (.str (qP c1 h) 64):=by
  unfold qP tl;exact hj (gt (gv c1 (3*h+0))) (gt (gv c1 (3*h+1))) (gt (gv c1 (3*h+2))) fq aY b6
 exact jK (m:=ao "join") (o:=.str [] 0) (by left) (by left) (by left) (by left) (by refine af (show xs (bK nB)=[ui] by left) ?_;exact iV hc m9) hj'
noncomputable def ic(R:Nat)(t:Nat->T):ak:=.list ((bP R).map λh=>.str (t h) 64)
abbrev nE(dS dC:ak)(R h:Nat)(rb:Int)(g:T)(r:aA):aA:=oa dS dC R h rb ((ao "signs",.fz ju)::(ao "labels",.ow (qX g))::r)
theorem TP{R:Nat}(hR:R=3\/R=4):(run aR 99).ex bh (oa dS (dP c0 c1 c2 n0 n1 n2) R h rb [(ao "signs",.ow ju),(ao "labels",.ow (qX g))]) (bx 6)=ac (.next,nE dS (dP c0 c1 c2 n0 n1 n2) R h rb g [(ao "texts",.fz (ic R (qP c1)))]):=by
 have e:∀R:Nat,R<=4->∀k,k+R=4->True:=λO O O O=>trivial;have hc:gK (dj bh nB) (jg nB) (iy (run aR 98) (dj bh nB) (ge nB) (bK nB)) (fJ R 0) [(ao "cells",.fz (dP c0 c1 c2 n0 n1 n2)),(ao "signs",.fz ju)] []=ac ((bP R).map λh=>.str (qP c1 h) 64):=by
  refine af (show ge nB=[] by left) ?_;rcases hR with rfl|rfl
  ·exact gm (σ1:=iL (dP c0 c1 c2 n0 n1 n2) (aV 0 (dW 0))) (by left) (gD (ud 0 (by decide)) rfl) (gm (σ1:=iL (dP c0 c1 c2 n0 n1 n2) (aV 1 (dW 1))) (by left) (gD (ud 1 (by decide)) rfl) (gm (σ1:=iL (dP c0 c1 c2 n0 n1 n2) (aV 2 (dW 2))) (by left) (gD (ud 2 (by decide)) rfl) sy))
  ·exact gm (σ1:=iL (dP c0 c1 c2 n0 n1 n2) (aV 0 (dW 0))) (by left) (gD (ud 0 (by decide)) rfl) (gm (σ1:=iL (dP c0 c1 c2 n0 n1 n2) (aV 1 (dW 1))) (by left) (gD (ud 1 (by decide)) rfl) (gm (σ1:=iL (dP c0 c1 c2 n0 n1 n2) (aV 2 (dW 2))) (by left) (gD (ud 2 (by decide)) rfl) (gm (σ1:=iL (dP c0 c1 c2 n0 n1 n2) (aV 3 (dW 3))) (by left) (gD (ud 3 (by decide)) rfl) sy)))
 refine(xc (x:=ao "texts") (d:=ic R (qP c1)) (by left) (uK (l:=fJ R 0) (σ1:=oa dS (dP c0 c1 c2 n0 n1 n2) R h rb [(ao "signs",.ow ju),(ao "labels",.ow (qX g))]) (by left) (by rcases hR with rfl|rfl<;>left) hc) (by left)).trans (by left)
def qw(f:Nat):T:=(bP (f% 5)).map λk=>aN 9 32 (bt (f/5/2^k% 2) 0)
abbrev mV:aK:=bl (bx 8)
abbrev pH(d:ak):aA:=[(ao "figure",.fz d)]
theorem XC:((bP 80).map λf=>(run aR 98).ev (dj bh mV) (pH (aV f 7)) (bK mV))=(bP 80).map λf=>ac (.str (qw f) 64,pH (aV f 7)):=by left
theorem YB:((bP 80).all λf=>Qt (qw f))=ag:=by left
theorem W2{f:Nat}(h:f<80):qw f∈fe:=by
 refine aw (HP.mp (eV.mp YB f (qt.mpr h))) λx q1'=>ay q1' λhx e=>?_;clear q1';refine af (lS.mp e) ?_;exact hx
noncomputable def jl(c2:Int)(h:Nat):Nat:=(gJ (ij c2 ((80:Int)^h)) 80).toNat
theorem wv(c2:Int)(j:Nat):jl c2 j<80/\gJ (ij c2 ((80:Int)^j)) 80=(jl c2 j:Int):=by
 have zq:=(yD (ij c2 ((80:Int)^j)) 80 (by decide));refine aw zq λk q0'=>ay q0' λaB e=>?_;clear zq q0';have e:gJ (ij c2 ((80:Int)^j)) 80=(k:Int):=e;unfold jl;refine af e ?_;exact⟨aB,rfl⟩
theorem TN{R:Nat}(hR:R=3\/R=4):(run aR 99).ex bh (nE dS (dP c0 c1 c2 n0 n1 n2) R h rb g [(ao "texts",.fz (ic R t))]) (bx 7)=ac (.next,nE dS (dP c0 c1 c2 n0 n1 n2) R h rb g [(ao "texts",.fz (ic R t)),(ao "figures",.fz (.list ((bP R).map λh=>aV (jl c2 h) 7)))]):=by
 have e0:=(wv c2 0).2;have e1:=(wv c2 1).2;have e2:=(wv c2 2).2;have e3:=(wv c2 3).2;rcases hR with rfl|rfl
 ·have:(run aR 99).ex bh (nE dS (dP c0 c1 c2 n0 n1 n2) 3 h rb g [(ao "texts",.fz (ic 3 t))]) (bx 7)=ac (.next,nE dS (dP c0 c1 c2 n0 n1 n2) 3 h rb g [(ao "texts",.fz (ic 3 t)),(ao "figures",.fz (.list [.int (gJ (ij c2 ((80:Int)^0)) 80) 7,.int (gJ (ij c2 ((80:Int)^1)) 80) 7,.int (gJ (ij c2 ((80:Int)^2)) 80) 7]))]):=by left
  rw [e0,e1,e2]at this;exact this
 ·have:(run aR 99).ex bh (nE dS (dP c0 c1 c2 n0 n1 n2) 4 h rb g [(ao "texts",.fz (ic 4 t))]) (bx 7)=ac (.next,nE dS (dP c0 c1 c2 n0 n1 n2) 4 h rb g [(ao "texts",.fz (ic 4 t)),(ao "figures",.fz (.list [.int (gJ (ij c2 ((80:Int)^0)) 80) 7,.int (gJ (ij c2 ((80:Int)^1)) 80) 7,.int (gJ (ij c2 ((80:Int)^2)) 80) 7,.int (gJ (ij c2 ((80:Int)^3)) 80) 7]))]):=by left
  rw [e0,e1,e2,e3]at this;exact this
def Yx(d:ak):ak:=match d with|.int (.ofNat f) _=>.str (qw f) 64|d=>d
theorem TW{R:Nat}(hR:R=3\/R=4):(run aR 99).ex bh (nE dS (dP c0 c1 c2 n0 n1 n2) R h rb g [(ao "texts",.fz (ic R t)),(ao "figures",.fz (.list ((bP R).map λh=>aV (jl c2 h) 7)))]) (bx 8)=ac (.next,nE dS (dP c0 c1 c2 n0 n1 n2) R h rb g [(ao "texts",.fz (ic R t)),(ao "figures",.fz (.list ((bP R).map λh=>aV (jl c2 h) 7))),(ao "leads",.fz (ic R λh=>qw (jl c2 h)))]):=by
 have hc:gK (dj bh mV) (jg mV) (iy (run aR 98) (dj bh mV) (ge mV) (bK mV)) ((bP R).map λh=>aV (jl c2 h) 7) [] []=ac ([]++((bP R).map λh=>aV (jl c2 h) 7).map Yx):=by
  refine af (show ge mV=[] by left) ?_;refine ti (K:=pH) (P:=λd=>∃f,f<80/\d=aV f 7) (λd' d O=>by left) ?_ _ _ _ ?_ (λd O=>by left) (by rw [gj,oJ];refine(?_:0+R<=1048576);lia)
  ·rintro d ⟨f,hf,rfl⟩
   exact vQ.mp XC f (qt.mpr hf)
  ·intro d hd
   refine aw (jD.mp hd) λk q2'=>ay q2' λO z1=>?_;clear q2';subst z1;exact⟨_,(wv c2 k).1,rfl⟩
 rw [vR,jB]at hc;have hc:gK (dj bh mV) (jg mV) (iy (run aR 98) (dj bh mV) (ge mV) (bK mV)) ((bP R).map λh=>aV (jl c2 h) 7) [] []=ac ((bP R).map λh=>.str (qw (jl c2 h)) 64):=hc;have hq:nh aR (run aR 98) bh (nE dS (dP c0 c1 c2 n0 n1 n2) R h rb g [(ao "texts",.fz (ic R t)),(ao "figures",.fz (.list ((bP R).map λh=>aV (jl c2 h) 7)))]) (bl (bx 8))=ac (ic R λh=>qw (jl c2 h),nE dS (dP c0 c1 c2 n0 n1 n2) R h rb g [(ao "texts",.fz (ic R t)),(ao "figures",.fz (.list ((bP R).map λh=>aV (jl c2 h) 7)))]):=
  (uK (l:=(bP R).map λh=>aV (jl c2 h) 7) (r:=(bP R).map λh=>.str (qw (jl c2 h)) 64) (σ1:=nE dS (dP c0 c1 c2 n0 n1 n2) R h rb g [(ao "texts",.fz (ic R t)),(ao "figures",.fz (.list ((bP R).map λh=>aV (jl c2 h) 7)))]) (by left) (by left) hc).trans (by left)
 exact(xc (x:=ao "leads") (by left) hq (by left)).trans (by left)
set_option backward.match.sparseCases false
def jm(g:T)(h:Nat):T:=match h with|0=>g|1=>bC "a"|2=>bC "b"|_=>bC "c"
def eB(R:Nat)(g:T)(t l:Nat->T):List (T×T×T):=(bP R).map λh=>(jm g h,t h,l h)
structure ie(t l:Nat->T):Prop where
 t:∀h,∃a b c,a<9/\b<9/\c<9/\t h=tl a b c
 l:∀h,l h∈fe
def OV(s:T):Bool:=(aN (!jd s) (jd s) (oO s))&&(ig s.length 9&&s.all λc=>oq.any (bt c))
theorem SU:((bP 9).all λa=>(bP 9).all λb=>(bP 9).all λc=>OV (tl a b c))=ag:=by left
theorem Sy:(fe.all λs=>(aN (!jd s) (jd s) (oO s))&&(ig s.length 9&&s.all λc=>E8.any (bt c)))=ag:=by left
theorem Mj(h:@aN (λO=>Bool) (!b) b a=ag):a=b:=by induction a using hO<;>induction b using hO<;>first|rfl|exact bR h
theorem JT{s l:T}(h:(s.all λc=>l.any (bt c))=ag):∀c∈s,c∈l:=λc hc=>by
 refine aw (HP.mp (eV.mp h c hc)) λx q0'=>ay q0' λhx e=>?_;clear q0';refine af (f0 e) ?_;exact hx
theorem Zd{a b c:Nat}(ha:a<9)(hb:b<9)(hc:c<9):oO (tl a b c)=jd (tl a b c)/\(tl a b c).length<=9/\lJ (tl a b c):=by
 refine ay (cZ.mp (eV.mp (eV.mp (eV.mp SU a (qt.mpr ha)) b (qt.mpr hb)) c (qt.mpr hc))) λh1 h2=>?_;refine ay (cZ.mp h2) λh2 h3=>?_;exact⟨Mj h1,ll h2,JT h3⟩
theorem NE(h:s∈fe):oO s=jd s/\s.length<=9/\wp s:=by
 refine ay (cZ.mp (eV.mp Sy s h)) λh1 h2=>?_;refine ay (cZ.mp h2) λh2 h3=>?_;exact⟨Mj h1,ll h2,JT h3⟩
theorem ie.tx{t l:Nat->T}(I:ie t l)(h:Nat):oO (t h)=jd (t h)/\(t h).length<=9/\lJ (t h):=by
 refine gB (I.t h) λa b c q2'=>dH q2' λha hb hc e=>?_;clear q2';refine af e ?_;exact Zd ha hb hc
theorem Es(hg:g∈names)(h:Nat):(jm g h).length<=8:=by
 have:(names.all λg=>ig g.length 8)=ag:=by left
 have:=ll (eV.mp this g hg)
 match h with
 |0=>exact this
 |1=>exact(by decide+kernel:(bC "a").length<=8)
 |2=>exact(by decide+kernel:(bC "b").length<=8)
 |n+3=>exact(by decide+kernel:(bC "c").length<=8)
theorem ie.row{t l:Nat->T}{g:T}{R:Nat}(I:ie t l)(hg:g∈names){r:T×T×T}(hr:r∈eB R g t l):B9 r/\(d5 r).length<=80:=by
 refine aw (jD.mp hr) λh q1'=>ay q1' λO z1=>?_;clear q1';subst z1;have h1:=Es hg h;refine bu (I.tx h) λa1 a2 a3=>?_;refine bu (NE (I.l h)) λb1 b2 b3=>?_;refine⟨⟨a1,b1,bM h1 (by decide)⟩,?_⟩;have v:∀s:T,s.length<=9->(gL s).length<=20:=λs hs=>by
  unfold gL;cases jd s
  ·refine(?_:(cm [92] s++[34]).length+1<=20)
   have:=IR s;refine af gx ?_;refine(?_:(cm [92] s).length+1+1<=20);lia
  ·refine(?_:s.length<=20);exact bM hs (ik 9 11)
 have v1:=v _ a2;have v2:=v _ b2;unfold d5 eE;refine af G8 (af GT ?_);simp only [gx,kb,Ob];lia
theorem Kj:∀rs:List (T×T×T),(∀r∈rs,(d5 r).length<=80)->(fV rs).length<=82*rs.length
 |[],_=>bZ _
 |r::rs,h=>by
  have:=Kj rs λx hx=>h x (cW _ hx);have:=h r ck;refine(?_:(d5 r++fV rs).length+1+1<=82*(rs.length+1));refine af gx ?_;lia
theorem KF{R:Nat}(hR:R=3\/R=4):∃rs,eB R g t l=(g,t 0,l 0)::rs/\rs.length<=3/\∀r∈rs,r.1∈su:=by
 rcases hR with rfl|rfl
 ·refine⟨[(bC "a",t 1,l 1),(bC "b",t 2,l 2)],rfl,(by decide:2<=3),λr hr=>?_⟩
  simp only [cI,oE,or_false]at hr;rcases hr with rfl|rfl<;>simp [su]
 ·refine⟨[(bC "a",t 1,l 1),(bC "b",t 2,l 2),(bC "c",t 3,l 3)],rfl,(by decide:3<=3),λr hr=>?_⟩
  simp only [cI,oE,or_false]at hr;rcases hr with rfl|rfl|rfl<;>simp [su]
theorem ie.hdr{t l:Nat->T}{g:T}{R:Nat}(I:ie t l)(hg:g∈names)(hR:R=3\/R=4):(gQ (eB R g t l)).length<=512:=by
 refine aw (@KF g t l R hR) λrs q0'=>bu q0' λe h1 O=>?_;clear q0';have hr:∀r∈eB R g t l,(d5 r).length<=80:=λr hr=>(I.row hg hr).2;rw [e]at hr⊢;rw [LA,gx];have:=hr _ ck;have:=Kj rs λr h=>hr r (cW _ h);lia
abbrev abF(g:T):ak:=qX g
abbrev to(dS dC dF:ak)(R h:Nat)(rb:Int)(g:T)(t l:Nat->T)(r:aA):aA:=oa dS dC R h rb ((ao "signs",.fz ju)::(ao "labels",.fz (qX g))::(ao "texts",.fz (ic R t))::(ao "figures",.fz dF)::(ao "leads",.fz (ic R l))::r)
theorem OZ{R:Nat}(hR:R=3\/R=4):(run aR 99).ex bh (nE dS dC R h rb g [(ao "texts",.fz (ic R t)),(ao "figures",.fz dF),(ao "leads",.fz (ic R l))]) (bx 9)=ac (.next,to dS dC dF R h rb g t l [(ao "prices",.fz (.list ((eB R g t l).map d6)))]):=by
 rcases hR with rfl|rfl<;>left
theorem YV{R:Nat}(I:ie t l)(hg:g∈names)(hR:R=3\/R=4):jJ 94 [.list ((eB R g t l).map d6)]=ac (.str (gQ (eB R g t l)) 512):=by
 have e:(B3 [ak.list ((eB R g t l).map d6)]).map vd=eB R g t l:=by refine(?_:((eB R g t l).map d6).map vd=_);refine af jB ?_;exact Df _
 refine(?_:i9 _ (.str (gQ ((B3 [ak.list ((eB R g t l).map d6)]).map vd)) 512)=_);refine af e ?_;exact mz ⟨eB R g t l,λx hx=>(I.row hg hx).1,by unfold eB;rw [gj,oJ];lia,I.hdr hg hR,rfl⟩
theorem U2(h:Em ds d):zB ds=ac d:=by
 unfold zB;have q:∃d,Em ds d:=⟨d,h⟩;refine af (dif_pos q) ?_;refine bV q.choose_spec λr rs q2'=>mq q2' λh1 h2 h3 h4 h5=>?_;clear q2';refine bV h λr' rs' q1'=>mq q1' λk1 k2 k3 k4 k5=>?_;clear h q1';have e1:=EU h1 h2 h3;have e2:=EU k1 k2 k3;rw [<-h4]at e1;rw [<-k4]at e2;refine af h5 (af k5 ?_);exact e1.symm.trans e2
theorem VB{R:Nat}(hg:g∈names)(hR:R=3\/R=4):jJ 77 [.list [.str (gQ (eB R g t l)) 512]]=ac (.list ((eB R g t l).map o8)):=by
 refine aw (@KF g t l R hR) λrs q0'=>bu q0' λe h1 h2=>?_;clear q0';exact U2 ⟨(g,t 0,l 0),rs,hg,h2,h1,by exact af e rfl,by exact af e rfl⟩
theorem J1(h:wp s)(hl:s.length<=9):jJ 252 [.str s n]=ac (.str (gL s) 64):=mz ⟨s,n,h,by exact bM hl (ik 9 7),rfl⟩
theorem Tj{R:Nat}(I:ie t l)(hg:g∈names)(hR:R=3\/R=4):(run aR 99).ex bh (to dS dC dF R h rb g t l [(ao "prices",.fz (.list ((eB R g t l).map d6)))]) (bx 10)=ac (.next,to dS dC dF R h rb g t l [(ao "prices",.fz (.list ((eB R g t l).map d6))),(ao "header",.fz (.str (gQ (eB R g t l)) 512))]):=by
 have e:=YV I hg hR;generalize(eB R g t l).map d6=L at e⊢;exact(mu (x:=ao "header") (by left) (jn (x:=ao "join_header_words") (h:=.fn 94) (ds:=[.list L]) (by left) (by left) rfl (by left) (iJ e:(run aR 97).call 94 _=_)) (by left)).trans (by left)
set_option backward.match.sparseCases true
abbrev JZ(e:aK):Prop:=e=.BoolOp .Or [cO e 0,cO e 1] (cV e)
theorem Nf{E:bQ}(hs:JZ e)(h1:E.ts sc σ (cO e 0)=ac (am,σ1))(h2:E.ts sc σ1 (cO e 1)=ac (am,σ2)):(step C E).ts sc σ e=ac (am,σ2):=by
 unfold JZ at hs;generalize cO e 0=a at*;generalize cO e 1=b at*;generalize cV e=p at*;subst hs;refine(?_:(ob (E.ts sc σ a) λp=>aN (ac p) (ob (E.ts sc p.2 b) λp=>aN (ac p) (ac (am,p.2)) (aN (!am) am p.1)) (aN (!am) am p.1))=_);refine af h1 ?_;refine(?_:(ob (E.ts sc σ1 b) λp=>aN (ac p) (ac (am,p.2)) (aN (!am) am p.1))=_);refine af h2 ?_;rfl
abbrev jo:aK:=bl (bx 11)
abbrev sU:aK:=bK jo
abbrev sY:aK:=bK sU
abbrev BW:aK:=bK sY
abbrev lL:aK:=bK BW
abbrev gn(R:Nat)(g:T)(t l:Nat->T)(d:ak):aA:=[(ao "labels",.fz (qX g)),(ao "leads",.fz (ic R l)),(ao "texts",.fz (ic R t)),(ao "h",.fz d)]
theorem Fb{R k:Nat}{P:Nat->Nat->Prop}(hR:R=3\/R=4)(aB:k<R)(h30:P 3 0)(h31:P 3 1)(h32:P 3 2)(h40:P 4 0)(h41:P 4 1)(h42:P 4 2)(h43:P 4 3):P R k:=by
 rcases hR with rfl|rfl
 ·have:=Dy aB
  rcases this with rfl|rfl|rfl<;>assumption
 ·have:=I3 aB
  rcases this with rfl|rfl|rfl|rfl<;>assumption
abbrev bc(k:Nat):ak:=aV k (dW k)
theorem Rv{R k:Nat}(hR:R=3\/R=4)(aB:k<R):(run aR 94).ev (dj bh jo) (gn R g t l (bc k)) (bK lL)=ac (.str (jm g k) (jm g k).length,gn R g t l (bc k)):=
 Fb (P:=λR k=>(run aR 94).ev (dj bh jo) (gn R g t l (bc k)) (bK lL)=ac (.str (jm g k) (jm g k).length,gn R g t l (bc k))) hR aB (by left) (by left) (by left) (by left) (by left) (by left) (by left)
theorem RS{R k:Nat}(hR:R=3\/R=4)(aB:k<R):dQ (run aR 94) (dj bh jo) (xs (ft BW)) (gn R g t l (bc k))=ac ([.str (t k) 64],gn R g t l (bc k)):=
 Fb (P:=λR k=>dQ (run aR 94) (dj bh jo) (xs (ft BW)) (gn R g t l (bc k))=ac ([.str (t k) 64],gn R g t l (bc k))) hR aB (by left) (by left) (by left) (by left) (by left) (by left) (by left)
theorem Uh{R k:Nat}(hR:R=3\/R=4)(aB:k<R):dQ (run aR 96) (dj bh jo) (xs (ft sU)) (gn R g t l (bc k))=ac ([.str (l k) 64],gn R g t l (bc k)):=
 Fb (P:=λR k=>dQ (run aR 96) (dj bh jo) (xs (ft sU)) (gn R g t l (bc k))=ac ([.str (l k) 64],gn R g t l (bc k))) hR aB (by left) (by left) (by left) (by left) (by left) (by left) (by left)
def lF(g:T)(t l:Nat->T)(k:Nat):ak:=.str (d5 (jm g k,t k,l k)) ((jm g k).length+7+64+7+64)
theorem uU{R k:Nat}(I:ie t l)(hg:g∈names)(hR:R=3\/R=4)(aB:k<R):(run aR 98).ev (dj bh jo) (gn R g t l (bc k)) sU=ac (lF g t l k,gn R g t l (bc k)):=by
 refine bu (I.tx k) λa1 a2 a3=>?_;refine bu (NE (I.l k)) λb1 b2 b3=>?_;have h2:wp (t k):=λc hc=>cW _ (cW _ (a3 c hc));have hl:=Es hg k;have e1:(run aR 95).ev (dj bh jo) (gn R g t l (bc k)) lL=ac (.str (jm g k++bC "; Stay=") ((jm g k).length+7),gn R g t l (bc k)):=
  ki (op:=.Add) (d2:=.str (bC "; Stay=") 7) (by left) (Rv hR aB) (by left) (sO (by refine(?_:_<=1048576);lia))
 have e2:(run aR 96).ev (dj bh jo) (gn R g t l (bc k)) BW=ac (.str (jm g k++bC "; Stay="++gL (t k)) ((jm g k).length+7+64),gn R g t l (bc k)):=
  ki (op:=.Add) (d2:=.str (gL (t k)) 64) (by left) e1 (jn (x:=ao "_law_value") (h:=.fn 252) (by left) (by left) rfl (RS hR aB) (iJ (J1 h2 a2):(run aR 94).call 252 _=_)) (sO (by refine(?_:_<=1048576);lia))
 have e3:(run aR 97).ev (dj bh jo) (gn R g t l (bc k)) sY=ac (.str (jm g k++bC "; Stay="++gL (t k)++bC "; Down=") ((jm g k).length+7+64+7),gn R g t l (bc k)):=
  ki (op:=.Add) (d2:=.str (bC "; Down=") 7) (by left) e2 (by left) (sO (by refine(?_:_<=1048576);lia))
 have d9:(run aR 98).ev (dj bh jo) (gn R g t l (bc k)) sU=ac (.str (jm g k++bC "; Stay="++gL (t k)++bC "; Down="++gL (l k)) ((jm g k).length+7+64+7+64),gn R g t l (bc k)):=
  ki (op:=.Add) (d2:=.str (gL (l k)) 64) (by left) e3 (jn (x:=ao "_law_value") (h:=.fn 252) (by left) (by left) rfl (Uh hR aB) (iJ (J1 b3 b2):(run aR 96).call 252 _=_)) (sO (by refine(?_:_<=1048576);lia))
 have ee:jm g k++bC "; Stay="++gL (t k)++bC "; Down="++gL (l k)=d5 (jm g k,t k,l k):=by
  unfold d5 eE;refine af G8 (af GT (af (show bC "; Stay="=[59,32,83,116,97,121,61] by left) (af (show bC "; Down="=[59,32,68,111,119,110,61] by left) ?_)));simp only [ja,List.cons_append,vR]
 refine af d9 (af ee ?_);rfl
abbrev H2(R:Nat)(g:T)(t l:Nat->T):ak:=.list ((bP R).map (lF g t l))
abbrev qJ(dS dC dF:ak)(R h:Nat)(rb:Int)(g:T)(t l:Nat->T)(L:List ak)(H:T)(r:aA):aA:=to dS dC dF R h rb g t l ((ao "prices",.fz (.list L))::(ao "header",.fz (.str H 512))::r)
theorem X2{R:Nat}(I:ie t l)(hg:g∈names)(hR:R=3\/R=4):(run aR 99).ex bh (qJ dS dC dF R h rb g t l L H []) (bx 11)=ac (.next,qJ dS dC dF R h rb g t l L H [(ao "lists",.fz (H2 R g t l))]):=by
 have hc:gK (dj bh jo) (jg jo) (iy (run aR 98) (dj bh jo) (ge jo) (bK jo)) (fJ R 0) [(ao "labels",.fz (qX g)),(ao "leads",.fz (ic R l)),(ao "texts",.fz (ic R t))] []=ac ((bP R).map (lF g t l)):=by
  refine af (show ge jo=[] by left) ?_;rcases hR with rfl|rfl
  ·exact gm (σ1:=gn 3 g t l (bc 0)) (by left) (gD (uU I hg (.inl rfl) (by decide)) rfl) (gm (σ1:=gn 3 g t l (bc 1)) (by left) (gD (uU I hg (.inl rfl) (by decide)) rfl) (gm (σ1:=gn 3 g t l (bc 2)) (by left) (gD (uU I hg (.inl rfl) (by decide)) rfl) sy))
  ·exact gm (σ1:=gn 4 g t l (bc 0)) (by left) (gD (uU I hg (.inr rfl) (by decide)) rfl) (gm (σ1:=gn 4 g t l (bc 1)) (by left) (gD (uU I hg (.inr rfl) (by decide)) rfl) (gm (σ1:=gn 4 g t l (bc 2)) (by left) (gD (uU I hg (.inr rfl) (by decide)) rfl) (gm (σ1:=gn 4 g t l (bc 3)) (by left) (gD (uU I hg (.inr rfl) (by decide)) rfl) sy)))
 have hq:nh aR (run aR 98) bh (to dS dC dF R h rb g t l [(ao "prices",.fz (.list L)),(ao "header",.fz (.str H 512))]) jo=ac (H2 R g t l,to dS dC dF R h rb g t l [(ao "prices",.fz (.list L)),(ao "header",.fz (.str H 512))]):=
  (uK (l:=fJ R 0) (r:=(bP R).map (lF g t l)) (σ1:=to dS dC dF R h rb g t l [(ao "prices",.fz (.list L)),(ao "header",.fz (.str H 512))]) (by left) (by rcases hR with rfl|rfl<;>left) hc).trans (by left)
 exact(xc (x:=ao "lists") (by left) hq (by left)).trans (by left)
abbrev abq(R:Nat)(g:T)(t l:Nat->T):ak:=.list ((eB R g t l).map o8)
theorem Ub(e:jJ 77 [.list [.str H 512]]=ac (.list Q)):(run aR 99).ex bh (qJ dS dC dF R h rb g t l L H [(ao "lists",.fz (.list A))]) (bx 12)=ac (.next,qJ dS dC dF R h rb g t l L H [(ao "lists",.fz (.list A)),(ao "told",.fz (.list Q))]):=by
 exact(mu (x:=ao "told") (by left) (jn (x:=ao "split_header_words") (h:=.fn 77) (ds:=[.list [.str H 512]]) (by left) (by left) rfl (by left) (iJ e:(run aR 97).call 77 _=_)) (by left)).trans (by left)
theorem Nx:∀rs:List (T×T×T),jW 8 (rs.map o8) (rs.map d6)
 |[]=>.nil
 |r::rs=>.cons (.list (.cons (.tup (.cons .str (.cons .none .nil))) (.cons (.tup (.cons .str (.cons .str .nil))) (.cons (.tup (.cons .str (.cons .str .nil))) .nil)))) (Nx rs)
theorem AH{xs ys:List ak}(h:jW 8 xs ys):qc .NotEq (.list xs) (.list ys)=ac am:=by
 have e:vo xs ys=ac ag:=if_pos h;refine(?_:(ob (bA ae (bA ae (vo xs ys))) λv=>ac (!v))=_);refine af e ?_;rfl
theorem Qk(s:T):le s s=ag:=lS.mpr rfl
theorem ne_str(h:s=s'):qc .NotEq (.str s n) (.str s' m)=ac am:=by
 subst h;refine(?_:ac (!le s s)=_);rw [Qk];rfl
theorem B2{α:Type}(f:α->T)(n:α->Nat)(bk:Nat):∀l:List α,(∀a∈l,n a<=bk)->∃N,N<=bk*l.length/\iW (l.map λa=>.str (f a) (n a))=ac (l.map f,N)
 |[],_=>⟨0,eG _,rfl⟩
 |a::r,h=>by
  refine aw (B2 f n bk r λx hx=>h x (cW _ hx)) λN q2'=>ay q2' λh1 e=>?_;clear q2';have:=h a ck;refine⟨n a+N,by rw [kb,Os];lia,?_⟩;refine(?_:(ob (iW (r.map λa=>.str (f a) (n a))) λp=>ac (f a::p.1,n a+p.2))=_);refine af e ?_;rfl
theorem YR{R:Nat}(hg:g∈names):∃bk N,N<=150*R/\bk.length=R/\cy [44,32] bk=gQ (eB R g t l)/\iW ((bP R).map (lF g t l))=ac (bk,N):=by
 have zq:=(B2 (λk=>d5 (jm g k,t k,l k)) (λk=>(jm g k).length+7+64+7+64) 150 (bP R) λk O=>by have:=Es hg k;simp_all);refine aw zq λN q1'=>ay q1' λhN e=>?_;clear zq q1';refine⟨_,N,by rw [oJ]at hN;exact hN,by rw [gj,oJ],?_,e⟩;unfold gQ eB;refine af jB ?_;rfl
theorem PN{H:T}{bk:List T}{N:Nat}(aB:jW 8 Q L)(e:iW A=ac (bk,N))(eh:cy [44,32] bk=H)(hN:N<=1000)(hlen:bk.length<=10):(run aR 99).ex bh (qJ dS dC dF R h rb g t l L H [(ao "lists",.fz (.list A)),(ao "told",.fz (.list Q))]) (bx 13)=ac (.next,qJ dS dC dF R h rb g t l L H [(ao "lists",.fz (.list A)),(ao "told",.fz (.list Q))]):=by
 have hj:fk aR (run aR 95) (.str [44,32] 2) (ao "join") [.list A]=ac (.str H (eL (N+2*bk.length))):=by
  have:fk aR (run aR 95) (.str [44,32] 2) (ao "join") [.list A]=bA (ob (iW A) λp=>iO (cy [44,32] p.1) (eL (p.2+2*p.1.length))) ae:=by left
  refine af this (af e ?_);refine(?_:bA (iO (cy [44,32] bk) (eL (N+2*bk.length))) ae=_);refine af eh (af (w8 (by refine(?_:eL (N+2*bk.length)<=1048576);exact zw 16384 (by lia))) ?_);rfl
 refine hH (b:=am) (by left) (Nf (σ1:=to dS dC dF R h rb g t l [(ao "prices",.fz (.list L)),(ao "header",.fz (.str H 512)),(ao "lists",.fz (.list A)),(ao "told",.fz (.list Q))]) (by left) ?_ ?_) (by left)
 ·exact rz (op:=.NotEq) (d1:=.str H 512) (by left) (by left) (jK (m:=ao "join") (o:=.str [44,32] 2) (ds:=[.list A]) (by left) (by left) (by left) (by left) (by left) hj) (ne_str rfl)
 ·exact @rz .NotEq _ _ _ (.list Q) (.list L) _ _ _ (by left) (by left) (by left) (AH aB)
set_option backward.match.sparseCases false
noncomputable def n9(h:Nat):Nat:=match h with|0=>214|1=>221|2=>228|3=>235|_=>242
abbrev lK(dS dC dF:ak)(R h:Nat)(rb:Int)(g:T)(t l:Nat->T)(L A Q:List ak)(H:T)(r:aA):aA:=qJ dS dC dF R h rb g t l L H ((ao "lists",.fz (.list A))::(ao "told",.fz (.list Q))::(ao "writer",.fz (.hd (.fn (n9 h))))::r)
theorem Sj{h:Nat}(hh:h<5):(run aR 99).ex bh (qJ dS dC dF R h rb g t l L H [(ao "lists",.fz (.list A)),(ao "told",.fz (.list Q))]) (bx 14)=ac (.next,lK dS dC dF R h rb g t l L A Q H []):=by
 have:=GQ hh;refine(mu (x:=ao "writer") (d:=.hd (.fn (n9 h))) (by left) (@Nl _ _ _ (.list [.hd (.fn 214),.hd (.fn 221),.hd (.fn 228),.hd (.fn 235),.hd (.fn 242)]) (qJ dS dC dF R h rb g t l L H [(ao "lists",.fz (.list A)),(ao "told",.fz (.list Q))]) (aV h 3) (qJ dS dC dF R h rb g t l L H [(ao "lists",.fz (.list A)),(ao "told",.fz (.list Q))]) _ _ _ (by left) (by left) (by left) ?_) (by left)).trans (by left);rcases this with rfl|rfl|rfl|rfl|rfl<;>rfl
def xr(R:Nat)(t:Nat->T):T:=cy [] ((bP R).map t)
theorem Fy(f:Nat->T):∀s:List Nat,cy [] (s.map f)=s.flatMap f
 |[]=>rfl
 |[a]=>by rw [xM];refine(?_:f a=f a++[]);rw [ka]
 |a::b::r=>by
  have:=Fy f (b::r);refine af xM (af this.symm ?_);rfl
theorem Rw{R:Nat}(I:ie t l)(hR:R<=4):lJ (xr R t)/\(xr R t).length<=36:=by
 unfold xr;rw [Fy];refine⟨λc hc=>?_,bM (BI t 9 (bP R) λc O=>(I.tx c).2.1) (by rw [oJ];lia)⟩;refine aw (List.mem_flatMap.mp hc) λx q2'=>ay q2' λO hx=>?_;clear q2';exact(I.tx x).2.2 c hx
theorem Gx{h:Nat}(hh:h<5)(hs:lJ s)(hl:s.length<=200):jJ (n9 h) [.str s n]=ac (.str (fU h s) 4096):=by
 have:=GQ hh;rcases this with rfl|rfl|rfl|rfl|rfl<;>exact mz ⟨s,n,hs,hl,rfl⟩
theorem Wn{h:Nat}(hh:h<5):h∈[0,1,2,3,4]:=by
 have:=GQ hh;simp [this]
theorem No{h:Nat}{c:Nat}(hh:h<5)(hc:c∈oq):jJ 247 [.str [c] n,aV h m]=ac (.str (iM h c) 8):=mz ⟨c,h,n,m,hc,Wn hh,rfl⟩
abbrev BZ:aK:=bl (bx 15)
abbrev Iv:aK:=ft BZ
abbrev lP:aK:=cO Iv 0
abbrev P8(h:Nat)(d:ak):aA:=[(ao "hand",.fz (aV h 3)),(ao "sign",.fz d)]
def PV(h:Nat)(d:ak):ak:=match d with|.str [c] _=>.str (iM h c) 8|d=>d
theorem YN{R h:Nat}(I:ie t l)(hR:R=3\/R=4)(hh:h<5):(run aR 99).ex bh (lK dS dC dF R h rb g t l L A Q H []) (bx 15)=ac (.next,lK dS dC dF R h rb g t l L A Q H []):=by
 have zq:=(Rw (R:=R) I (by lia));refine ay zq λc1 c2=>?_;clear zq;have e1:(run aR 96).ev bh (lK dS dC dF R h rb g t l L A Q H []) (cO (bK BZ) 0)=ac (.str (xr R t) (64*(R+1)),lK dS dC dF R h rb g t l L A Q H []):=by rcases hR with rfl|rfl<;>left
 have e2:uw aR (run aR 95) bh (lK dS dC dF R h rb g t l L A Q H []) (jg lP) (vY lP)=ac (jU (xr R t),lK dS dC dF R h rb g t l L A Q H []):=by rcases hR with rfl|rfl<;>left
 generalize xr R t=a at c1 c2 e1 e2;have hc:gK (dj bh lP) (jg lP) (iy (run aR 95) (dj bh lP) (ge lP) (bK lP)) (jU a) [(ao "hand",.fz (aV h 3))] []=ac (([]:List ak)++(jU a).map (PV h)):=by
  rw [show ge lP=[] by left];refine ti (K:=P8 h) (P:=λd=>∃c,c∈oq/\d=.str [c] 1) (λd' d O=>by left) ?_ _ _ _ ?_ (λd O=>by left) (by rw [qu,gj];refine(?_:0+a.length<=1048576);lia)
  ·rintro d ⟨c,hc,rfl⟩
   exact jn (x:=ao "_law_reference") (h:=.fn 247) (ds:=[.str [c] 1,aV h 3]) (by left) (by left) rfl (by left) (iJ (No hh hc):(run aR 94).call 247 _=_)
  ·intro d hd
   rw [qu]at hd;refine aw (jD.mp hd) λc q1'=>ay q1' λhc z1=>?_;clear q1';subst z1;exact⟨c,c1 c hc,rfl⟩
 rw [vR,qu,jB]at hc;have hc:gK (dj bh lP) (jg lP) (iy (run aR 95) (dj bh lP) (ge lP) (bK lP)) (jU a) [(ao "hand",.fz (aV h 3))] []=ac (a.map λc=>.str (iM h c) 8):=by rw [qu];exact hc
 have e3:(run aR 96).ev bh (lK dS dC dF R h rb g t l L A Q H []) lP=ac (.list (a.map λc=>.str (iM h c) 8),lK dS dC dF R h rb g t l L A Q H []):=
  (ve (σ1:=lK dS dC dF R h rb g t l L A Q H []) (l:=jU a) (by left) e2 hc).trans (by left)
 refine aw (B2 (λc=>iM h c) (λO=>8) 8 a λO O=>bZ _) λN q0'=>ay q0' λhN d9=>?_;clear q0';have hj:fk aR (run aR 96) (.str [] 0) (ao "join") [.list (a.map λc=>.str (iM h c) 8)]=ac (.str (fU h a) (eL (N+0*(a.map λc=>iM h c).length))):=by
  have:∀X,fk aR (run aR 96) (.str [] 0) (ao "join") [.list X]=bA (ob (iW X) λp=>iO (cy [] p.1) (eL (p.2+0*p.1.length))) ae:=λX=>by left
  rw [this,d9];refine(?_:bA (iO (cy [] (a.map λc=>iM h c)) (eL (N+0*(a.map λc=>iM h c).length))) ae=_);rw [Fy,w8 (by rw [OL];refine(?_:eL (N+0)<=1048576);exact zw 16384 (by lia))];rfl
 refine hH (b:=am) (by left) (rz (op:=.NotEq) (d1:=.str (fU h a) 4096) (by left) ?_ (jK (m:=ao "join") (o:=.str [] 0) (by left) (by left) (by left) (by left) (by refine af (show xs Iv=[lP] by left) ?_;exact iV e3 m9) hj) (ne_str rfl)) (by left);exact jn (x:=ao "writer") (h:=.fn (n9 h)) (ds:=[.str a (64*(R+1))]) (by left) (by left) rfl (by refine af (show xs (bK BZ)=[cO (bK BZ) 0] by left) ?_;exact iV e1 m9) (iJ (Gx hh c1 (by exact bM c2 (ik 36 164))):(run aR 96).call (n9 h) _=_)
set_option backward.match.sparseCases true
def B4(a b:ak):Bool:=match a,b with
 |.str s _,.str t _=>le s t
 |_,_=>am
def BS(f:ak->ak->Bool)(xs:List ak):List ak->Bool:=@bW ak (λO=>List ak->Bool) (λys=>eW ys) (λx O ih ys=>match ys with|[]=>am|y::r=>f x y&&ih r) xs
def F7(k:Nat):ak->ak->Bool:=@gW (λO=>ak->ak->Bool) B4 (λO ih a b=>match a,b with|.list xs,.list ys=>BS ih xs ys|a,b=>B4 a b) k
theorem Mz(h:B4 a b=ag):rK k a b:=by
 unfold B4 at h;split at h
 ·refine af (lS.mp h) ?_;exact .str
 ·exact bR h
theorem Ey{f:ak->ak->Bool}(H:∀a b,f a b=ag->rK k a b):∀xs ys,BS f xs ys=ag->jW k xs ys
 |[],ys,h=>by refine af (Gn h) ?_;exact .nil
 |x::xs,[],h=>bR h
 |x::xs,y::ys,h=>by
  refine ay (cZ.mp h) λh1 h2=>?_;exact .cons (H x y h1) (Ey H xs ys h2)
theorem Nr:∀(k:Nat)(a b:ak),F7 k a b=ag->rK k a b
 |0,a,b,h=>Mz h
 |k+1,a,b,h=>by
  induction a using ak.casesOn<;>induction b using ak.casesOn<;>first|exact Mz h|skip
  exact .list (Ey (Nr k) _ _ h)
noncomputable def v8(g:T)(k:Nat):Nat:=@gW (λO=>Nat) g.length (λO ih=>513+ih) k
def nq(g:T)(k:Nat):ak:=.str (kZ g k) (v8 g k)
def qM(R:Nat)(g:T):List ak:=(bP R).map (nq g)
def kf(R:Nat)(g:T):List ak:=[nq g 0,.str (kZ g (R-1)++[46]) (v8 g (R-1)+1),.str (kZ g (R-1)++[46,55]) (v8 g (R-1)+2),.str (kZ g (R-1)++[46,55,48]) (v8 g (R-1)+3)]
def lg(R:Nat)(g:T):List ak:=(bP (R-1)).map (λk=>.str (46::kZ g k) (1+v8 g k))++[.str (46::(kZ g (R-2)++[46,120,55])) (1+v8 g (R-2)+3)]
abbrev xj(R:Nat)(g:T)(t l:Nat->T):List ak:=(eB R g t l).map o8
abbrev qh(dS dC dF:ak)(R h:Nat)(rb:Int)(g:T)(t l:Nat->T)(L A:List ak)(H:T)(r:aA):aA:=lK dS dC dF R h rb g t l L A (xj R g t l) H ((ao "hosts",.ow (.list (qM R g)))::(ao "h",.fz (bc (R-1)))::r)
theorem vk{P:T->Prop}(hg:g∈names)(h0:P (bC "local"))(h1:P (bC "y.net"))(h2:P (bC "y.xlocal")):P g:=by
 rcases cI.mp hg with rfl|hg
 ·exact h0
 rcases cI.mp hg with rfl|hg
 ·exact h1
 rcases cI.mp hg with rfl|hg
 ·exact h2
 ·exact nomatch hg
theorem Qu{R:Nat}(hg:g∈names)(hR:R=3\/R=4):b9 (run aR 99) bh [bx 16,bx 17,bx 18,bx 19] (lK dS dC dF R h rb g t l L A (xj R g t l) H [])=ac (.next,qh dS dC dF R h rb g t l L A H [(ao "stay",.ow (.list (kf R g))),(ao "down",.ow (.list (lg R g)))]):=by
 rcases hR with rfl|rfl
 ·exact vk (P:=λg=>b9 (run aR 99) bh [bx 16,bx 17,bx 18,bx 19] (lK dS dC dF 3 h rb g t l L A (xj 3 g t l) H [])=ac (.next,qh dS dC dF 3 h rb g t l L A H [(ao "stay",.ow (.list (kf 3 g))),(ao "down",.ow (.list (lg 3 g)))])) hg (by left) (by left) (by left)
 ·exact vk (P:=λg=>b9 (run aR 99) bh [bx 16,bx 17,bx 18,bx 19] (lK dS dC dF 4 h rb g t l L A (xj 4 g t l) H [])=ac (.next,qh dS dC dF 4 h rb g t l L A H [(ao "stay",.ow (.list (kf 4 g))),(ao "down",.ow (.list (lg 4 g)))])) hg (by left) (by left) (by left)
set_option backward.match.sparseCases false
noncomputable def U8(o:Option (ak×aA)):List ak:=match o with|some (.list xs,_)=>xs|_=>[]
abbrev BK:aK:=bl (bx 20)
def xf(R:Nat)(g:T):List ak:=U8 ((run aR 97).ev bh [(ao "hosts",.ow (.list (qM R g))),(ao "stay",.ow (.list (kf R g)))] (bK BK))
abbrev jf(dS dC dF:ak)(R h:Nat)(rb:Int)(g:T)(t l:Nat->T)(L A:List ak)(H:T)(r:aA):aA:=qh dS dC dF R h rb g t l L A H ((ao "stay",.fz (.list (kf R g)))::(ao "down",.fz (.list (lg R g)))::r)
theorem O1:([3,4].all λR=>names.all λg=>BS (F7 8) (xf R g) (kf R g++lg R g))=ag:=by left
theorem SH{R:Nat}(hg:g∈names)(hR:R=3\/R=4):(run aR 97).ev bh (qh dS dC dF R h rb g t l L A H [(ao "stay",.ow (.list (kf R g))),(ao "down",.ow (.list (lg R g)))]) (bK BK)=ac (.list (xf R g),qh dS dC dF R h rb g t l L A H [(ao "stay",.fz (.list (kf R g))),(ao "down",.ow (.list (lg R g)))]):=by
 rcases hR with rfl|rfl
 ·exact vk (P:=λg=>(run aR 97).ev bh (qh dS dC dF 3 h rb g t l L A H [(ao "stay",.ow (.list (kf 3 g))),(ao "down",.ow (.list (lg 3 g)))]) (bK BK)=ac (.list (xf 3 g),qh dS dC dF 3 h rb g t l L A H [(ao "stay",.fz (.list (kf 3 g))),(ao "down",.ow (.list (lg 3 g)))])) hg (by left) (by left) (by left)
 ·exact vk (P:=λg=>(run aR 97).ev bh (qh dS dC dF 4 h rb g t l L A H [(ao "stay",.ow (.list (kf 4 g))),(ao "down",.ow (.list (lg 4 g)))]) (bK BK)=ac (.list (xf 4 g),qh dS dC dF 4 h rb g t l L A H [(ao "stay",.fz (.list (kf 4 g))),(ao "down",.ow (.list (lg 4 g)))])) hg (by left) (by left) (by left)
theorem Fi{E:bQ}(hn:Fx e=am)(h:E.ev sc σ e=ac r):pn E sc σ e=ac r:=by
 induction e using fw<;>first|exact h|cases hn
theorem v4{E:bQ}(hs:Ba x e)(hf:E.ev sc σ (bK e)=ac (.hd (.bf .len),σ))(h1:xs e=[cO e 0])(hp:pn E sc σ (cO e 0)=ac (d1,σ1))(hb:i6 .len [d1]=ac d):(step C E).ev sc σ e=ac (d,σ1):=by
 replace hs:=yp hs;refine dH hs ?_;clear hs;intro hs h2 h3 h4;rw [h4]at hf;clear h4;rw [h1]at hs h2 h3;generalize cO e 0=a0 at*;generalize cV (bK e)=np at*;generalize cV e=p at*;clear h1;subst hs;refine(?_:aS (gh [a0]) (aS (bB 1 9) (ob (E.ev sc σ (.Name x np)) λp=>sZ p.1 λh=>@aN (λO=>Option (ak×aA)) (ob (dQ E sc [a0] p.2) λq=>ob (on C E h q.1) λd=>ac (d,q.2)) (aY [a0] λa=>ob (pn E sc p.2 a) λq=>ob (i6 .len [q.1]) λd=>ac (d,q.2)) (tH h)))=_);refine af h2 (af hf ?_);refine(?_:(ob (pn E sc σ a0) λq=>ob (i6 .len [q.1]) λd=>ac (d,q.2))=_);refine af hp ?_;refine(?_:(ob (i6 .len [d1]) λd=>ac (d,σ1))=_);refine af hb ?_;rfl
theorem Ps{R:Nat}(hg:g∈names)(hR:R=3\/R=4):(run aR 99).ex bh (qh dS dC dF R h rb g t l L A H [(ao "stay",.ow (.list (kf R g))),(ao "down",.ow (.list (lg R g)))]) (bx 20)=ac (.next,jf dS dC dF R h rb g t l L A H []):=by
 have e:BS (F7 8) (xf R g) (kf R g++lg R g)=ag:=eV.mp (eV.mp O1 R (by rcases hR with rfl|rfl<;>simp)) g hg;refine AQ (b:=am) (σ1:=jf dS dC dF R h rb g t l L A H []) (by left) (Fk (op:=.NotEq) (d1:=.list (xf R g)) (d2:=.list (kf R g++lg R g)) (by left) (SH hg hR) ?_ (AH (Ey (Nr 8) _ _ e))) (by left);rcases hR with rfl|rfl<;>left
abbrev mr:aK:=bl (bx 21)
abbrev MT:aK:=bK (bK mr)
abbrev qL:aK:=cO MT 0
abbrev nY(h:Nat)(rb:Int)(d:ak):aA:=[(ao "hand",.fz (aV h 3)),(ao "rebate",.fz (.int rb 4)),(ao "text",.fz d)]
abbrev FR(h:Nat)(d:ak):aA:=[(ao "hand",.fz (aV h 3)),(ao "sign",.fz d)]
def Jo(h:Nat)(d:ak):ak:=match d with|.str [c] _=>gc (iM h c).length|d=>d
theorem Lz{α:Type}(f:α->Nat):∀s:List α,∃N,N<=15/\l8 (s.map λc=>gc (f c))=ac (s.map λc=>(f c:Int),N)
 |[]=>⟨0,by decide,rfl⟩
 |a::r=>by
  refine aw (Lz f r) λN q2'=>ay q2' λh1 e=>?_;clear q2';refine⟨cK 15 N,tR.mpr ⟨bZ _,h1⟩,?_⟩;refine(?_:(ob (l8 (r.map λc=>gc (f c))) λp=>ac ((f a:Int)::p.1,cK 15 p.2))=_);refine af e ?_;rfl
theorem La(f:Nat->T):∀(s:T)(a:Int),lI (s.map λc=>((f c).length:Int)) a=a+((s.flatMap f).length:Int)
 |[],a=>by refine(?_:a=a+((0:Nat):Int));simp
 |c::r,a=>by
  refine(?_:lI (r.map λc=>((f c).length:Int)) (a+((f c).length:Int))=_);rw [La f r,xM,gx];lia
def oz(h:Nat)(rb:Int)(t:Nat->T)(k:Nat):Int:=((fU h (t k)).length:Int)-rb
theorem uy{h:Nat}(I:ie t l)(hh:h<5)(k:Nat):(run aR 98).ev (dj bh mr) (nY h rb (.str (t k) 64)) (bK mr)=ac (.int (oz h rb t k) 65,nY h rb (.str (t k) 64)):=by
 refine bu (I.tx k) λO a2 a3=>?_;unfold oz;generalize t k=s at a2 a3;have hc:gK (dj (dj bh mr) qL) (jg qL) (iy (run aR 95) (dj (dj bh mr) qL) (ge qL) (bK qL)) (jU s) [(ao "hand",.fz (aV h 3))] []=ac (([]:List ak)++(jU s).map (Jo h)):=by
  rw [show ge qL=[] by left];refine ti (K:=FR h) (P:=λd=>∃c,c∈oq/\d=.str [c] 1) (λd' d O=>by left) ?_ _ _ _ ?_ (λd O=>by left) (by rw [qu,gj];refine(?_:0+s.length<=1048576);lia)
  ·rintro d ⟨c,hc,rfl⟩
   have e:(run aR 94).ev (dj (dj bh mr) qL) (FR h (.str [c] 1)) (cO (bK qL) 0)=ac (.str (iM h c) 8,FR h (.str [c] 1)):=
    jn (x:=ao "_law_reference") (h:=.fn 247) (ds:=[.str [c] 1,aV h 3]) (by left) (by left) rfl (by left) (iJ (No hh hc):(run aR 93).call 247 _=_)
   exact v4 (x:=ao "len") (by left) (by left) (by left) (Fi (by left) e) rfl
  ·intro d hd
   rw [qu]at hd;refine aw (jD.mp hd) λc q1'=>ay q1' λhc z1=>?_;clear q1';subst z1;exact⟨c,a3 c hc,rfl⟩
 rw [vR]at hc;have em:(jU s).map (Jo h)=s.map λc=>gc (iM h c).length:=by rw [qu,jB];rfl
 rw [em]at hc;have e3:(run aR 96).ev (dj bh mr) (nY h rb (.str s 64)) qL=ac (.list (s.map λc=>gc (iM h c).length),nY h rb (.str s 64)):=
  (ve (σ1:=nY h rb (.str s 64)) (l:=jU s) (by left) (by left) hc).trans (by left)
 refine aw (Lz (λc=>(iM h c).length) s) λN q0'=>ay q0' λhN d9=>?_;clear q0';have hb:on aR (run aR 96) (.bf .sum) [.list (s.map λc=>gc (iM h c).length)]=ac (.int ((fU h s).length:Int) 64):=by
  refine(?_:(ob (l8 (s.map λc=>gc (iM h c).length)) λp=>ac (ak.int (lI p.1 0) (eL (p.2+p.1.length+1))))=_);rw [d9];refine(?_:ac (ak.int (lI (s.map λc=>((iM h c).length:Int)) 0) (eL (N+(s.map λc=>((iM h c).length:Int)).length+1)))=_);rw [La,gj,show eL (N+s.length+1)=64 from EO (by lia),Ab];rfl
 exact @ki .Sub _ _ _ (.int ((fU h s).length:Int) 64) (.int rb 4) _ _ _ (by left) (jn (x:=ao "sum") (h:=.bf .sum) (by left) (by left) rfl (by refine af (show xs MT=[qL] by left) ?_;exact iV e3 m9) hb) (by left) rfl
abbrev jO(R h:Nat)(rb:Int)(t:Nat->T):List ak:=(bP R).map λk=>.int (oz h rb t k) 65
theorem QS{R h:Nat}(I:ie t l)(hh:h<5)(hR:R=3\/R=4):(run aR 99).ex bh (jf dS dC dF R h rb g t l L A H []) (bx 21)=ac (.next,jf dS dC dF R h rb g t l L A H [(ao "stays",.fz (.list (jO R h rb t)))]):=by
 have hc:gK (dj bh mr) (jg mr) (iy (run aR 98) (dj bh mr) (ge mr) (bK mr)) ((bP R).map λh=>.str (t h) 64) [(ao "hand",.fz (aV h 3)),(ao "rebate",.fz (.int rb 4))] []=ac (jO R h rb t):=by
  refine af (show ge mr=[] by left) ?_;rcases hR with rfl|rfl
  ·exact gm (σ1:=nY h rb (.str (t 0) 64)) (by left) (gD (uy I hh 0) rfl) (gm (σ1:=nY h rb (.str (t 1) 64)) (by left) (gD (uy I hh 1) rfl) (gm (σ1:=nY h rb (.str (t 2) 64)) (by left) (gD (uy I hh 2) rfl) sy))
  ·exact gm (σ1:=nY h rb (.str (t 0) 64)) (by left) (gD (uy I hh 0) rfl) (gm (σ1:=nY h rb (.str (t 1) 64)) (by left) (gD (uy I hh 1) rfl) (gm (σ1:=nY h rb (.str (t 2) 64)) (by left) (gD (uy I hh 2) rfl) (gm (σ1:=nY h rb (.str (t 3) 64)) (by left) (gD (uy I hh 3) rfl) sy)))
 have hq:nh aR (run aR 98) bh (jf dS dC dF R h rb g t l L A H []) mr=ac (.list (jO R h rb t),jf dS dC dF R h rb g t l L A H []):=
  (uK (l:=(bP R).map λh=>.str (t h) 64) (r:=jO R h rb t) (σ1:=jf dS dC dF R h rb g t l L A H []) (by left) (by rcases hR with rfl|rfl<;>left) hc).trans (by left)
 exact(xc (x:=ao "stays") (by left) hq (by left)).trans (by left)
noncomputable def CA(e:aK):aK:=match e with
 |.Dict (ac k::_) _ _=>k
 |e=>e
noncomputable def pp(e:aK):aK:=match e with
 |.Dict _ (v::_) _=>v
 |e=>e
noncomputable def wf(st:bY):aK:=match st with
 |.Assign (.Subscript _ i _::_) _ _=>i
 |_=>.Constant .none 0 default
abbrev IE(e:aK):Prop:=e=.BoolOp .Or [cO e 0,cO e 1,cO e 2] (cV e)
abbrev Nd(x:aL)(st:bY):Prop:=st=.Assign [.Name x (cV (gu st))] (.Dict [ac (CA (bl st))] [pp (bl st)] (cV (bl st))) (ir st)
abbrev Sf(x:aL)(st:bY):Prop:=(st,uI (wf st))=(Dp [.Subscript (.Name x (cV (rT (gu st)))) (wf st) (cV (gu st))] (bl st) (ir st),ag)
theorem QV{C:eQ}{E:bQ}{sc:cC}{σ σ1 σ2:aA}{d:ak}{x:aL}{k:T}{n:Nat}{st:bY}(hs:Nd x st)(h1:E.ev sc σ (CA (bl st))=ac (.str k n,σ1))(h2:E.ev sc σ1 (pp (bl st))=ac (d,σ2))(hw:ke sc x=ag):(step C E).ex sc σ st=ac (.next,put x (.ow (.dict [k] [d])) σ2):=by
 unfold Nd at hs;generalize CA (bl st)=a at*;generalize pp (bl st)=v at*;generalize cV (bl st)=p1 at*;generalize cV (gu st)=p' at*;generalize ir st=p at*;subst hs;have f:nR E sc σ (.Dict [ac a] [v] p1)=ac (.dict [k] [d],σ2):=by
  refine(?_:bA ae (ob (E.ev sc σ a) λp=>fB p.1 λx O=>ob (E.ev sc p.2 v) λq=>ac (ak.dict [x] [q.1],q.2))=_);refine af h1 ?_;refine(?_:(ob (E.ev sc σ1 v) λq=>ac (ak.dict [k] [q.1],q.2))=_);refine af h2 ?_;rfl
 refine(?_:bA (bA (bA (ob (nR E sc σ (.Dict [ac a] [v] p1)) λp=>ob (iT sc p.2 x (.ow p.1)) go) _) _) _=_);refine af f ?_;refine(?_:bA (bA (bA (ob (aS (ke sc x) _) _) _) _) _=_);refine af hw ?_;rfl
theorem Tx{C:eQ}{E:bQ}{sc:cC}{σ σ1 σ2:aA}{dk dv o o':ak}{x:aL}{b0:bk}{st:bY}(hs:Sf x st)(hm:ji sc x=ag)(h1:E.ev sc σ (bl st)=ac (dv,σ1))(hl:ba x σ1=ac b0)(h2:E.ev sc σ1 (wf st)=ac (dk,σ2))(h3:ba x σ2=ac (.ow o))(h4:mB o dk dv=ac o'):(step C E).ex sc σ st=ac (.next,put x (.ow o') σ2):=by
 replace hs:=uO hs;refine ay hs ?_;clear hs;intro hs e2;generalize bl st=e at*;generalize wf st=i at*;generalize cV (rT (gu st))=p0 at*;generalize cV (gu st)=p' at*;generalize ir st=p at*;subst hs;refine(?_:bA (bA (aS (ji sc x) (aS (uI i) (ob (E.ev sc σ e) λp=>ob (ba x p.2) λO=>ob (E.ev sc p.2 i) λq=>pS q.2 x λo=>ob (mB o q.1 p.1) λo=>go (put x (.ow o) q.2)))) _) _=_);refine af hm (af e2 (af h1 ?_));refine(?_:bA (bA (ob (ba x σ1) λO=>ob (E.ev sc σ1 i) λq=>pS q.2 x λo=>ob (mB o q.1 dv) λo=>go (put x (.ow o) q.2)) _) _=_);refine af hl ?_;refine(?_:bA (bA (ob (E.ev sc σ1 i) λq=>pS q.2 x λo=>ob (mB o q.1 dv) λo=>go (put x (.ow o) q.2)) _) _=_);refine af h2 ?_;refine(?_:bA (bA (ob (ba x σ2) λb=>@bk.rec (λO=>Option (cQ×aA)) (λO=>ae) (λo=>ob (mB o dk dv) λo=>go (put x (.ow o) σ2)) b) _) _=_);refine af h3 ?_;refine(?_:bA (bA (ob (mB o dk dv) λo=>go (put x (.ow o) σ2)) _) _=_);refine af h4 ?_;rfl
theorem Zh{E:bQ}(hs:IE e)(h1:E.ts sc σ (cO e 0)=ac (am,σ1))(h2:E.ts sc σ1 (cO e 1)=ac (am,σ2))(h3:E.ts sc σ2 (cO e 2)=ac (am,σ3)):(step C E).ts sc σ e=ac (am,σ3):=by
 unfold IE at hs;generalize cO e 0=a at*;generalize cO e 1=b at*;generalize cO e 2=c at*;generalize cV e=p at*;subst hs;refine(?_:(ob (E.ts sc σ a) λp=>aN (ac p) (ob (E.ts sc p.2 b) λp=>aN (ac p) (ob (E.ts sc p.2 c) λp=>aN (ac p) (ac (am,p.2)) (aN (!am) am p.1)) (aN (!am) am p.1)) (aN (!am) am p.1))=_);refine af h1 ?_;refine(?_:(ob (E.ts sc σ1 b) λp=>aN (ac p) (ob (E.ts sc p.2 c) λp=>aN (ac p) (ac (am,p.2)) (aN (!am) am p.1)) (aN (!am) am p.1))=_);refine af h2 ?_;refine(?_:(ob (E.ts sc σ2 c) λp=>aN (ac p) (ac (am,p.2)) (aN (!am) am p.1))=_);refine af h3 ?_;rfl
theorem MP{α:Type}{f:Nat->α}{d:α}:∀(m z:Nat),d∈hY p f m z->∃y,z<=y/\y<z+m/\d=f y
 |0,z,h=>nomatch h
 |m+1,z,h=>by
  have h:d∈@aN (λO=>List α) (hY p f m (z+1)) (f z::hY p f m (z+1)) (p z):=h;have rest:d∈hY p f m (z+1)->∃y,z<=y/\y<z+(m+1)/\d=f y:=λh=>by
   refine aw (MP m (z+1) h) λy q2'=>bu q2' λh1 h2 e=>?_;clear q2';exact⟨y,by exact lW h1,by(simp only [nI,kB,tQ]at*;first|assumption|omega),e⟩
  cases q:p z with
  |false=>rw [q]at h;exact rest h
  |true=>
   rw [q]at h;rcases cI.mp h with e|h
   ·exact⟨z,bZ _,by simp,e⟩
   ·exact rest h
theorem Lp{α:Type}{p:Nat->Bool}{f:Nat->α}:∀(m z:Nat),(hY p f m z).length<=m
 |0,z=>bZ _
 |m+1,z=>by
  have:=@Lp α p f m (z+1);refine(?_:(@aN (λO=>List α) (hY p f m (z+1)) (f z::hY p f m (z+1)) (p z)).length<=m+1);cases p z
  ·refine(?_:(hY p f m (z+1)).length<=m+1);exact tO this
  ·refine(?_:(hY p f m (z+1)).length+1<=m+1);simp_all
theorem Po(hl:l∈fe)(hb:b∈fe):(qS l b).length<=5/\∀d∈qS l b,∃z,1<=z/\z<=5/\d=fK (my l) (my b) z:=by
 have h:cK (i8 l) (i8 b)<=4:=tR.mpr ⟨(lE hl).2,(lE hb).2⟩;refine⟨bM (Lp _ _) (by exact sg h),λd hd=>?_⟩;refine aw (MP _ _ hd) λy q1'=>bu q1' λh1 h2 e=>?_;clear q1';exact⟨y,h1,by lia,e⟩
theorem Ni:∀rows:List ak,(∀d∈rows,∃fa fb z,d=fK fa fb z)->jW 8 rows rows
 |[],_=>.nil
 |d::r,h=>by
  refine gB (h d ck) λfa fb z e=>?_;have hr:=Ni r λx hx=>h x (cW _ hx);refine af e ?_;exact .cons (.tup (.cons .int (.cons .int (.cons .int .nil)))) hr
def iU(d:ak):T:=match d with|.tup (.int (.ofNat z) _::_)=>fD 5 z|_=>[]
theorem KB:∀rows:List ak,(∀d∈rows,∃fa fb z,z<=5/\d=fK fa fb z)->yP rows=ac (rows.map iU)
 |[],_=>rfl
 |d::r,h=>by
  refine gB (h d ck) λfa fb z q0'=>ay q0' λhz e=>?_;clear q0';have ih:=KB r λx hx=>h x (cW _ hx);subst e;refine(?_:aS (eK z 10000) (ob (yP r) λl=>ac (fD 5 z::l))=_);refine af (show eK z 10000=ag from lw (by exact mH hz (of_decide_eq_true (id (tN ag))))) (af ih ?_);rfl
noncomputable def Bb(e:aK):aK:=match e with|.IfExp t _ _ _=>t|e=>e
noncomputable def GK(e:aK):aK:=match e with|.IfExp _ a _ _=>a|e=>e
noncomputable def DI(e:aK):aK:=match e with|.IfExp _ _ b _=>b|e=>e
abbrev Np(e:aK):Prop:=e=.IfExp (Bb e) (GK e) (DI e) (cV e)
theorem KJ{E:bQ}(hs:Np e)(h1:E.ts sc σ (Bb e)=ac (b,σ))(h2:E.ev sc σ (aN (DI e) (GK e) b)=ac (d,σ)):(step C E).ev sc σ e=ac (d,σ):=by
 unfold Np at hs;generalize Bb e=t at*;generalize GK e=a at*;generalize DI e=c at*;generalize cV e=p at*;subst hs;refine(?_:(ob (E.ts sc σ t) λp=>aN (E.ev sc p.2 c) (E.ev sc p.2 a) p.1)=_);refine af h1 ?_;induction b using hO<;>exact h2
abbrev cE(dS dC dF:ak)(R h:Nat)(rb:Int)(g:T)(t l:Nat->T)(L A:List ak)(H:T)(hv:ak)(hb:bk)(S:List ak)(KV:ak)(r:aA):aA:=lK dS dC dF R h rb g t l L A (xj R g t l) H ((ao "hosts",hb)::(ao "h",.fz hv)::(ao "stay",.fz (.list (kf R g)))::(ao "down",.fz (.list (lg R g)))::(ao "stays",.fz (.list (jO R h rb t)))::(ao "steps",.ow (.list S))::(ao "costs",.ow KV)::r)
abbrev eZ(i:Nat):bY:=cP (bF (bx 24)) i
def fu(l:Nat->T)(k:Nat):List ak:=qS (l k) (l (k-1))
theorem q4{R k:Nat}{P:Nat->Nat->Prop}(hR:R=3\/R=4)(h1:1<=k)(aB:k<R)(h31:P 3 1)(h32:P 3 2)(h41:P 4 1)(h42:P 4 2)(h43:P 4 3):P R k:=by
 rcases hR with rfl|rfl
 ·have:k=1\/k=2:=by lia
  rcases this with rfl|rfl<;>assumption
 ·have:k=1\/k=2\/k=3:=by lia
  rcases this with rfl|rfl|rfl<;>assumption
theorem EE(I:ie t l)(k:Nat):(fu l k).length<=5/\∀d∈fu l k,∃z,1<=z/\z<=5/\d=fK (my (l k)) (my (l (k-1))) z:=Po (I.l k) (I.l (k-1))
theorem VF{R k:Nat}(hR:R=3\/R=4)(h1:1<=k)(aB:k<R):dQ (run aR 96) bh (xs (bl (eZ 0))) (cE dS dC dF R h rb g t l L A H (bc k) hb S KV r)=ac ([.str (l k) 64,.str (l (k-1)) 64],cE dS dC dF R h rb g t l L A H (bc k) hb S KV r):=
 q4 (P:=λR k=>dQ (run aR 96) bh (xs (bl (eZ 0))) (cE dS dC dF R h rb g t l L A H (bc k) hb S KV r)=ac ([.str (l k) 64,.str (l (k-1)) 64],cE dS dC dF R h rb g t l L A H (bc k) hb S KV r)) hR h1 aB (by left) (by left) (by left) (by left) (by left)
theorem gG{R k:Nat}(I:ie t l)(hR:R=3\/R=4)(h1:1<=k)(aB:k<R):(run aR 98).ex bh (cE dS dC dF R h rb g t l L A H (bc k) hb S KV r) (eZ 0)=ac (.next,cE dS dC dF R h rb g t l L A H (bc k) hb S KV (put (ao "due") (.fz (.list (fu l k))) r)):=by
 have hs:jJ 264 [.str (l k) 64,.str (l (k-1)) 64]=ac (.list (fu l k)):=mz ⟨l k,l (k-1),64,64,I.l k,I.l (k-1),rfl⟩;have ha:=@VF dS dC dF h rb g t l L A H hb S KV r _ _ hR h1 aB;generalize fu l k=rows at hs;exact(mu (x:=ao "due") (by left) (jn (x:=ao "_law_witness") (h:=.fn 264) (by left) (by left) rfl ha (iJ hs:(run aR 96).call 264 _=_)) (by left)).trans (by left)
noncomputable def te(n:Nat):Int:=1+(n:Int)
theorem Fj{rows:List ak}(hl:rows.length<=5):i6 .len [.list rows]=ac (gc rows.length):=by
 refine(?_:bA (aS (bB rows.length 32767) (ac (gc rows.length))) _=_);refine af (show bB rows.length 32767=ag from lw (by exact bM hl (ik 5 32762))) ?_;rfl
theorem iu{S:List ak}{rows:List ak}(hl:rows.length<=5)(hS:bB S.length lim=ag):(run aR 98).ex bh (cE dS dC dF R h rb g t l L A H hv hb S KV ((ao "due",.fz (.list rows))::r)) (eZ 1)=ac (.next,cE dS dC dF R h rb g t l L A H hv hb (S++[.int (te rows.length) 16]) KV ((ao "due",.fz (.list rows))::r)):=
 (@uG _ _ _ _ (cE dS dC dF R h rb g t l L A H hv hb S KV ((ao "due",.fz (.list rows))::r)) (.int (te rows.length) 16) S (ao "steps") _ S (by left) (by left) (by left) (@ki .Add _ _ _ (.int 1 1) (gc rows.length) _ _ _ (by left) (by left) (v4 (x:=ao "len") (d1:=.list rows) (by left) (by left) (by left) (by left) (Fj hl)) rfl) (by left) hS).trans (by left)
theorem RO{R k:Nat}(hR:R=3\/R=4)(h1:1<=k)(aB:k<R):dQ (run aR 96) bh (xs (bl (eZ 2))) (cE dS dC dF R h rb g t l L A H (bc k) hb S KV r)=ac ([.str (l k) 512],cE dS dC dF R h rb g t l L A H (bc k) hb S KV r):=
 q4 (P:=λR k=>dQ (run aR 96) bh (xs (bl (eZ 2))) (cE dS dC dF R h rb g t l L A H (bc k) hb S KV r)=ac ([.str (l k) 512],cE dS dC dF R h rb g t l L A H (bc k) hb S KV r)) hR h1 aB (by left) (by left) (by left) (by left) (by left)
theorem Xl{R k:Nat}(hR:R=3\/R=4)(h1:1<=k)(aB:k<R):dQ (run aR 96) bh (xs (bl (eZ 3))) (cE dS dC dF R h rb g t l L A H (bc k) hb S KV r)=ac ([.str (l (k-1)) 512],cE dS dC dF R h rb g t l L A H (bc k) hb S KV r):=
 q4 (P:=λR k=>dQ (run aR 96) bh (xs (bl (eZ 3))) (cE dS dC dF R h rb g t l L A H (bc k) hb S KV r)=ac ([.str (l (k-1)) 512],cE dS dC dF R h rb g t l L A H (bc k) hb S KV r)) hR h1 aB (by left) (by left) (by left) (by left) (by left)
theorem Mc(hs:s∈fe):sX aR E [.str s n]=ac (dq s):=by
 have e:wZ [.str s n]=ac (dq s):=mz ⟨s,n,hs,rfl⟩;refine(?_:bA (wZ [.str s n]) _=_);refine af e ?_;rfl
theorem lQ{R k:Nat}(I:ie t l)(hR:R=3\/R=4)(h1:1<=k)(aB:k<R):(run aR 98).ex bh (cE dS dC dF R h rb g t l L A H (bc k) hb S KV ((ao "due",due)::r)) (eZ 2)=ac (.next,cE dS dC dF R h rb g t l L A H (bc k) hb S KV ((ao "due",due)::put (ao "nose") (.fz (dq (l k))) r)):=by
 have ha:=@RO dS dC dF h rb g t l L A H hb S KV ((ao "due",due)::r) _ _ hR h1 aB;have hn:=Mc (n:=512) (I.l k) (E:=run aR 96);generalize dq (l k)=i at hn;exact(mu (x:=ao "nose") (by left) (jn (x:=ao "Whitespace") (h:=.cls) (by left) (by left) rfl ha hn) (by left)).trans (by left)
theorem tD{R k:Nat}(I:ie t l)(hR:R=3\/R=4)(h1:1<=k)(aB:k<R):(run aR 98).ex bh (cE dS dC dF R h rb g t l L A H (bc k) hb S KV ((ao "due",due)::(ao "nose",nose)::r)) (eZ 3)=ac (.next,cE dS dC dF R h rb g t l L A H (bc k) hb S KV ((ao "due",due)::(ao "nose",nose)::put (ao "below") (.fz (dq (l (k-1)))) r)):=by
 have ha:=@Xl dS dC dF h rb g t l L A H hb S KV ((ao "due",due)::(ao "nose",nose)::r) _ _ hR h1 aB;have hn:=Mc (n:=512) (I.l (k-1)) (E:=run aR 96);generalize dq (l (k-1))=i at hn;exact(mu (x:=ao "below") (by left) (jn (x:=ao "Whitespace") (h:=.cls) (by left) (by left) rfl ha hn) (by left)).trans (by left)
theorem O9(I:ie t l):(run aR 98).ex bh (cE dS dC dF R h rb g t l L A H hv hb S KV ((ao "due",due)::(ao "nose",.fz (dq (l k)))::(ao "below",.fz (dq (l (k-1))))::r)) (eZ 4)=ac (.next,cE dS dC dF R h rb g t l L A H hv hb S KV ((ao "due",due)::(ao "nose",.fz (dq (l k)))::(ao "below",.fz (dq (l (k-1))))::put (ao "witness") (.fz (.list (fu l k))) r)):=by
 have hs:jJ 186 [dq (l k),dq (l (k-1))]=ac (.list (fu l k)):=mz ⟨l k,l (k-1),I.l k,I.l (k-1),rfl⟩;generalize fu l k=rows at hs;have hm:∀a b,fk aR (run aR 96) (dq a) (ao "not_less_witness") [dq b]=(run aR 96).call 186 [dq a,dq b]:=λa b=>by left
 exact(mu (x:=ao "witness") (by left) (jK (m:=ao "not_less_witness") (o:=dq (l k)) (ds:=[dq (l (k-1))]) (by left) (by left) (by left) (by left) (by left) ((hm _ _).trans (iJ hs))) (by left)).trans (by left)
abbrev jR(due nose below witness:bk)(r:aA):aA:=(ao "due",due)::(ao "nose",nose)::(ao "below",below)::(ao "witness",witness)::r
abbrev Gr:aK:=ft (bl (eZ 5))
abbrev qQ:aK:=cO Gr 0
abbrev Lf:aK:=ft (bK (bl (eZ 5)))
def zf(d:ak):ak:=.str (iU d) 5
theorem QX{z:Nat}(h0:1<=z)(h1:z<=5):(run aR 94).ev (dj bh qQ) [(ao "row",.fz (fK fa fb z))] (bK qQ)=ac (zf (fK fa fb z),[(ao "row",.fz (fK fa fb z))]):=by
 have:=Me h0 h1;rcases this with rfl|rfl|rfl|rfl|rfl<;>left
theorem Vy{rows:List ak}(hl:rows.length<=5)(hr:∀d∈rows,∃fa fb z,1<=z/\z<=5/\d=fK fa fb z):∃N,(run aR 98).ex bh (cE dS dC dF R h rb g t l L A H hv hb S KV (jR (.fz (.list rows)) nose below witness r)) (eZ 5)=ac (.next,cE dS dC dF R h rb g t l L A H hv hb S KV (jR (.fz (.list rows)) nose below witness (put (ao "words") (.fz (.str (kg (rows.map iU)) N)) r))):=by
 have hc:gK (dj bh qQ) (jg qQ) (iy (run aR 94) (dj bh qQ) (ge qQ) (bK qQ)) rows [] []=ac (([]:List ak)++rows.map zf):=by
  refine af (show ge qQ=[] by left) ?_;refine ti (K:=λd=>[(ao "row",.fz d)]) (P:=λd=>∃fa fb z,1<=z/\z<=5/\d=fK fa fb z) (λd' d O=>by left) ?_ _ _ _ hr (λd O=>by left) (by refine(?_:0+rows.length<=1048576);lia)
  rintro d ⟨fa,fb,z,h0,h1,rfl⟩
  exact QX h0 h1
 rw [vR]at hc;have e3:(run aR 95).ev bh (cE dS dC dF R h rb g t l L A H hv hb S KV (jR (.fz (.list rows)) nose below witness r)) qQ=ac (.list (rows.map zf),cE dS dC dF R h rb g t l L A H hv hb S KV (jR (.fz (.list rows)) nose below witness r)):=
  (ve (σ1:=cE dS dC dF R h rb g t l L A H hv hb S KV (jR (.fz (.list rows)) nose below witness r)) (l:=rows) (by left) (by left) hc).trans (by left)
 refine aw (B2 iU (λO=>5) 5 rows λO O=>bZ _) λN q0'=>ay q0' λhN d9=>?_;clear q0';have hj:fk aR (run aR 95) (.str [44,32] 2) (ao "join") [.list (rows.map zf)]=ac (.str (cy [44,32] (rows.map iU)) 64):=by
  have:∀X,fk aR (run aR 95) (.str [44,32] 2) (ao "join") [.list X]=bA (ob (iW X) λp=>iO (cy [44,32] p.1) (eL (p.2+2*p.1.length))) ae:=λX=>by left
  rw [this,show iW (rows.map zf)=ac (rows.map iU,N)from d9];refine(?_:bA (iO (cy [44,32] (rows.map iU)) (eL (N+2*(rows.map iU).length))) ae=_);rw [gj,show eL (N+2*rows.length)=64 from EO (by lia)];rfl
 have ej:(run aR 96).ev bh (cE dS dC dF R h rb g t l L A H hv hb S KV (jR (.fz (.list rows)) nose below witness r)) Gr=ac (.str (cy [44,32] (rows.map iU)) 64,cE dS dC dF R h rb g t l L A H hv hb S KV (jR (.fz (.list rows)) nose below witness r)):=
  jK (m:=ao "join") (o:=.str [44,32] 2) (by left) (by left) (by left) (by left) (by refine af (show xs Gr=[qQ] by left) ?_;exact iV e3 m9) hj
 have ht:∀j,(run aR (j+4)).ts bh (cE dS dC dF R h rb g t l L A H hv hb S KV (jR (.fz (.list rows)) nose below witness r)) (Bb Lf)=ac (jY 1 (rows.length:Int),cE dS dC dF R h rb g t l L A H hv hb S KV (jR (.fz (.list rows)) nose below witness r)):=λj=>
  @rz .Gt _ _ _ (gc rows.length) (.int 1 1) _ _ _ (by left) (v4 (x:=ao "len") (d1:=.list rows) (by left) (by left) (by left) (by left) (Fj hl)) (by left) rfl
 have hf:eK 1 (rows.map iU).length=jY 1 (rows.length:Int):=by
  rw [gj];unfold jY;by_cases q:(1:Int)<(rows.length:Int)
  ·refine af (decide_eq_true q) ?_;exact lw (by exact(λ{m n}=>OK.mp) q)
  ·refine af (decide_eq_false q) ?_
   cases z:eK 1 rows.length with
   |false=>rfl
   |true=>exact absurd (ll z) (by lia)
 have hs:∀(p:T)(n:Nat),n<=100->(∀j,(run aR (j+5)).ev bh (cE dS dC dF R h rb g t l L A H hv hb S KV (jR (.fz (.list rows)) nose below witness r)) Lf=ac (.str p n,cE dS dC dF R h rb g t l L A H hv hb S KV (jR (.fz (.list rows)) nose below witness r)))->bC "at tab size"++p++cy [44,32] (rows.map iU)=kg (rows.map iU)->∃N,(run aR 98).ex bh (cE dS dC dF R h rb g t l L A H hv hb S KV (jR (.fz (.list rows)) nose below witness r)) (eZ 5)=ac (.next,cE dS dC dF R h rb g t l L A H hv hb S KV (jR (.fz (.list rows)) nose below witness (put (ao "words") (.fz (.str (kg (rows.map iU)) N)) r))):=λp n hn e he=>by
  have e1:∀j,(run aR (j+6)).ev bh (cE dS dC dF R h rb g t l L A H hv hb S KV (jR (.fz (.list rows)) nose below witness r)) (bK (bl (eZ 5)))=ac (.str (bC "at tab size"++p) (11+n),cE dS dC dF R h rb g t l L A H hv hb S KV (jR (.fz (.list rows)) nose below witness r)):=λj=>
   ki (op:=.Add) (d1:=.str (bC "at tab size") 11) (by left) (by left) (e j) (@sO (bC "at tab size") p 11 n (by refine(?_:11+n<=1048576);lia))
  have e2:(run aR 97).ev bh (cE dS dC dF R h rb g t l L A H hv hb S KV (jR (.fz (.list rows)) nose below witness r)) (bl (eZ 5))=ac (.str (bC "at tab size"++p++cy [44,32] (rows.map iU)) (11+n+64),cE dS dC dF R h rb g t l L A H hv hb S KV (jR (.fz (.list rows)) nose below witness r)):=
   @ki .Add _ _ _ (.str (bC "at tab size"++p) (11+n)) (.str (cy [44,32] (rows.map iU)) 64) _ _ _ (by left) (e1 90) ej (@sO (bC "at tab size"++p) (cy [44,32] (rows.map iU)) (11+n) 64 (by refine(?_:11+n+64<=1048576);lia))
  rw [he]at e2;exact⟨11+n+64,(CB (x:=ao "words") (by left) (e1 91) rfl e2 (by left)).trans (by left)⟩
 have ew:bC "at tab size"=[97,116,32,116,97,98,32,115,105,122,101]:=by left
 unfold kg at hs;unfold kg;rw [hf]at hs⊢;cases q:jY 1 (rows.length:Int)with
 |true=>
  rw [q]at ht hs;exact hs [115,32] 2 (by decide) (λj=>KJ (b:=ag) (by left) (ht j) (by left)) (by rw [ew,ja];rfl)
 |false=>
  rw [q]at ht hs;exact hs [32] 1 (by decide) (λj=>KJ (b:=am) (by left) (ht j) (by left)) (by rw [ew,ja];rfl)
abbrev pg(due nose below witness words:bk)(r:aA):aA:=jR due nose below witness ((ao "words",words)::r)
theorem Vj{rows:List ak}(hl:rows.length<=5)(hr:∀d∈rows,∃fa fb z,1<=z/\z<=5/\d=fK fa fb z):jJ 200 [.list rows]=ac (.str (kg (rows.map iU)) 8192):=by
 refine(?_:aS (bB rows.length 1000) (ob (yP rows) λl=>ac (ak.str (kg l) 8192))=_);refine af (show bB rows.length 1000=ag from lw (by exact bM hl (ik 5 995))) (af (KB rows λd hd=>by refine gB (hr d hd) λfa fb z q2'=>bu q2' λO h1 e=>?_;clear q2';exact⟨fa,fb,z,h1,e⟩) ?_);rfl
theorem WT(h:jW 8 rows rows):qc .Eq (.list rows) (.list [])=ac (eW rows):=by
 refine(?_:bA ae (bA ae (vo rows []))=_);unfold vo;induction rows using dD with
 |nil=>refine af (if_pos h) ?_;rfl
 |cons d r=>refine af (if_neg (by intro q;cases q)) (af (if_pos ⟨h,rfl⟩) ?_);rfl
theorem Zs(I:ie t l):(run aR 98).ex bh (cE dS dC dF R h rb g t l L A H hv hb S KV (pg (.fz (.list (fu l k))) (.fz (dq (l k))) (.fz (dq (l (k-1)))) (.fz (.list (fu l k))) (.fz (.str (kg ((fu l k).map iU)) N)) r)) (eZ 6)=ac (.next,cE dS dC dF R h rb g t l L A H hv hb S KV (pg (.fz (.list (fu l k))) (.fz (dq (l k))) (.fz (dq (l (k-1)))) (.fz (.list (fu l k))) (.fz (.str (kg ((fu l k).map iU)) N)) r)):=by
 have hs:jJ 179 [dq (l k),dq (l (k-1))]=ac (.bool (eW (fu l k))):=mz ⟨l k,l (k-1),I.l k,I.l (k-1),rfl⟩;refine ay (EE I k) λhl hr=>?_;have aB:jW 8 (fu l k) (fu l k):=Ni _ λd hd=>by refine aw (hr d hd) λz q1'=>bu q1' λO O e=>?_;clear q1';exact⟨_,_,z,e⟩
 have hf:=Vj hl λd hd=>by refine aw (hr d hd) λz q0'=>bu q0' λh0 h1 e=>?_;clear q0';exact⟨_,_,z,h0,h1,e⟩
 generalize fu l k=rows at hs hl aB hf⊢;generalize kg (rows.map iU)=W at hf⊢;have hm:∀a b,fk aR (run aR 94) (dq a) (ao "less") [dq b]=(run aR 94).call 179 [dq a,dq b]:=λa b=>by left
 refine hH (b:=am) (by left) (Zh (σ1:=cE dS dC dF R h rb g t l L A H hv hb S KV (pg (.fz (.list rows)) (.fz (dq (l k))) (.fz (dq (l (k-1)))) (.fz (.list rows)) (.fz (.str W N)) r)) (σ2:=cE dS dC dF R h rb g t l L A H hv hb S KV (pg (.fz (.list rows)) (.fz (dq (l k))) (.fz (dq (l (k-1)))) (.fz (.list rows)) (.fz (.str W N)) r)) (by left) ?_ ?_ ?_) (by left)
 ·exact @rz .NotEq _ _ _ (.list rows) (.list rows) _ _ _ (by left) (by left) (by left) (AH aB)
 ·exact @rz .NotEq _ _ _ (.str W 8192) (.str W N) _ _ _ (by left) (jn (x:=ao "format_witnesses") (h:=.fn 200) (ds:=[.list rows]) (by left) (by left) rfl (by left) (@iJ 200 [.list rows] _ _ aR hf:(run aR 94).call 200 [.list rows]=_)) (by left) (ne_str rfl)
 ·refine @rz .IsNot _ _ _ (.bool (eW rows)) (.bool (eW rows)) _ _ _ (by left) (jK (m:=ao "less") (o:=dq (l k)) (ds:=[dq (l (k-1))]) (by left) (by left) (by left) (by left) (by left) ((hm _ _).trans (iJ hs))) (@Za .Eq _ _ _ (.list rows) (.list []) _ _ _ (by left) (by left) (by left) (WT aB)) ?_
  cases eW rows<;>rfl
set_option backward.match.sparseCases true
def m0(R:Nat)(g:T)(k:Nat):ak:=(qM R g++[ak.str [] 0]).getD (k+1) .none
abbrev iz(R:Nat)(g:T):bk:=.fz (.list (qM R g))
theorem Pg{R k:Nat}(hR:R=3\/R=4)(h1:1<=k)(aB:k<R)(hh:hb=.ow (.list (qM R g))\/hb=iz R g):(run aR 98).ex bh (cE dS dC dF R h rb g t l L A H (bc k) hb S KV (pg due nose below witness words r)) (eZ 7)=ac (.next,cE dS dC dF R h rb g t l L A H (bc k) (iz R g) S KV (pg due nose below witness words (put (ao "above") (.fz (m0 R g k)) r))):=by
 rcases hh with rfl|rfl
 ·exact q4 (P:=λR k=>(run aR 98).ex bh (cE dS dC dF R h rb g t l L A H (bc k) (.ow (.list (qM R g))) S KV (pg due nose below witness words r)) (eZ 7)=ac (.next,cE dS dC dF R h rb g t l L A H (bc k) (iz R g) S KV (pg due nose below witness words (put (ao "above") (.fz (m0 R g k)) r)))) hR h1 aB (by left) (by left) (by left) (by left) (by left)
 ·exact q4 (P:=λR k=>(run aR 98).ex bh (cE dS dC dF R h rb g t l L A H (bc k) (iz R g) S KV (pg due nose below witness words r)) (eZ 7)=ac (.next,cE dS dC dF R h rb g t l L A H (bc k) (iz R g) S KV (pg due nose below witness words (put (ao "above") (.fz (m0 R g k)) r)))) hR h1 aB (by left) (by left) (by left) (by left) (by left)
def Gv(l:Nat->T)(k:Nat):ak:=match k with|0=>.int 0 1|k+1=>.int (te (fu l (k+1)).length) 16
def sR(R:Nat)(g:T)(h:Nat)(rb:Int)(t l:Nat->T)(k:Nat):ak:=.tup [.int (oz h rb t k) 16,Gv l k,m0 R g k]
def tZ(g:T)(n:Nat):List T:=(bP n).map (kZ g)
def gf(R:Nat)(g:T)(h:Nat)(rb:Int)(t l:Nat->T)(n:Nat):ak:=.dict (tZ g n) ((bP n).map (sR R g h rb t l))
def jh(l:Nat->T)(n:Nat):List ak:=(bP n).map λj=>Gv l (j+1)
theorem Uv{R k:Nat}(hg:g∈names)(hR:R=3\/R=4)(h1:1<=k)(aB:k<R):mB (gf R g h rb t l k) (nq g k) (sR R g h rb t l k)=ac (gf R g h rb t l (k+1)):=by
 refine vk (P:=λg=>mB (gf R g h rb t l k) (nq g k) (sR R g h rb t l k)=ac (gf R g h rb t l (k+1))) hg ?_ ?_ ?_
 ·exact q4 (P:=λR k=>mB (gf R (bC "local") h rb t l k) (nq (bC "local") k) (sR R (bC "local") h rb t l k)=ac (gf R (bC "local") h rb t l (k+1))) hR h1 aB (by left) (by left) (by left) (by left) (by left)
 ·exact q4 (P:=λR k=>mB (gf R (bC "y.net") h rb t l k) (nq (bC "y.net") k) (sR R (bC "y.net") h rb t l k)=ac (gf R (bC "y.net") h rb t l (k+1))) hR h1 aB (by left) (by left) (by left) (by left) (by left)
 ·exact q4 (P:=λR k=>mB (gf R (bC "y.xlocal") h rb t l k) (nq (bC "y.xlocal") k) (sR R (bC "y.xlocal") h rb t l k)=ac (gf R (bC "y.xlocal") h rb t l (k+1))) hR h1 aB (by left) (by left) (by left) (by left) (by left)
theorem abI{h:Nat}(hh:h<5)(hs:lJ s)(hl:s.length<=9):i6 .len [.str (fU h s) 4096]=ac (gc (fU h s).length):=rfl
abbrev qf(due nose below witness words above:bk):aA:=pg due nose below witness words [(ao "above",above)]
abbrev Cd:aK:=cO (bl (eZ 8)) 0
abbrev AJ:aK:=cO (bl (eZ 8)) 1
theorem UQ{R k:Nat}(hR:R=3\/R=4)(h1:1<=k)(aB:k<R):dQ (run aR 93) bh (xs (cO (bK Cd) 0)) (cE dS dC dF R h rb g t l L A H (bc k) (iz R g) S KV r)=ac ([.str (t k) 512],cE dS dC dF R h rb g t l L A H (bc k) (iz R g) S KV r):=
 q4 (P:=λR k=>dQ (run aR 93) bh (xs (cO (bK Cd) 0)) (cE dS dC dF R h rb g t l L A H (bc k) (iz R g) S KV r)=ac ([.str (t k) 512],cE dS dC dF R h rb g t l L A H (bc k) (iz R g) S KV r)) hR h1 aB (by left) (by left) (by left) (by left) (by left)
theorem Tc{R k:Nat}(hR:R=3\/R=4)(h1:1<=k)(aB:k<R):(run aR 97).ev bh (cE dS dC dF R h rb g t l L A H (bc k) (iz R g) S KV r) (wf (eZ 8))=ac (nq g k,cE dS dC dF R h rb g t l L A H (bc k) (iz R g) S KV r):=
 q4 (P:=λR k=>(run aR 97).ev bh (cE dS dC dF R h rb g t l L A H (bc k) (iz R g) S KV r) (wf (eZ 8))=ac (nq g k,cE dS dC dF R h rb g t l L A H (bc k) (iz R g) S KV r)) hR h1 aB (by left) (by left) (by left) (by left) (by left)
theorem Qz{R h k:Nat}(I:ie t l)(hh:h<5)(hg:g∈names)(hR:R=3\/R=4)(h1:1<=k)(aB:k<R):(run aR 98).ex bh (cE dS dC dF R h rb g t l L A H (bc k) (iz R g) S (gf R g h rb t l k) (qf due nose below (.fz (.list (fu l k))) words (.fz (m0 R g k)))) (eZ 8)=ac (.next,cE dS dC dF R h rb g t l L A H (bc k) (iz R g) S (gf R g h rb t l (k+1)) (qf due nose below (.fz (.list (fu l k))) words (.fz (m0 R g k)))):=by
 refine bu (I.tx k) λO a2 a3=>?_;refine ay (EE I k) λhl O=>?_;have hsto:=@Uv _ h rb t l _ _ hg hR h1 aB;have ek:sR R g h rb t l k=.tup [.int (oz h rb t k) 16,.int (te (fu l k).length) 16,m0 R g k]:=by
  unfold sR Gv;induction k using j8 with
  |zero=>exact absurd h1 (by decide)
  |succ k=>rfl
 rw [ek]at hsto;have ha:=@UQ dS dC dF h rb g t l L A H S (gf R g h rb t l k) (qf due nose below (.fz (.list (fu l k))) words (.fz (m0 R g k))) _ _ hR h1 aB;have hkey:=@Tc dS dC dF h rb g t l L A H S (gf R g h rb t l k) (qf due nose below (.fz (.list (fu l k))) words (.fz (m0 R g k))) _ _ hR h1 aB;generalize fu l k=rows at hsto ha hkey hl⊢;generalize m0 R g k=ab at hsto ha hkey⊢;generalize gf R g h rb t l k=KV at hsto ha hkey⊢;generalize gf R g h rb t l (k+1)=KV' at hsto⊢;have e0:(run aR 96).ev bh (cE dS dC dF R h rb g t l L A H (bc k) (iz R g) S KV (qf due nose below (.fz (.list rows)) words (.fz ab))) Cd=ac (.int (oz h rb t k) 16,cE dS dC dF R h rb g t l L A H (bc k) (iz R g) S KV (qf due nose below (.fz (.list rows)) words (.fz ab))):=
  @ki .Sub _ _ _ (gc (fU h (t k)).length) (.int rb 4) _ _ _ (by left) (v4 (x:=ao "len") (d1:=.str (fU h (t k)) 4096) (by left) (by left) (by left) (Fi (by left) (jn (x:=ao "writer") (h:=.fn (n9 h)) (ds:=[.str (t k) 512]) (by left) (by left) rfl ha (@iJ (n9 h) [.str (t k) 512] _ _ aR (Gx hh a3 (by exact bM a2 (ik 9 191))):(run aR 93).call (n9 h) [.str (t k) 512]=_))) rfl) (by left) rfl
 have e1:(run aR 96).ev bh (cE dS dC dF R h rb g t l L A H (bc k) (iz R g) S KV (qf due nose below (.fz (.list rows)) words (.fz ab))) AJ=ac (.int (te rows.length) 16,cE dS dC dF R h rb g t l L A H (bc k) (iz R g) S KV (qf due nose below (.fz (.list rows)) words (.fz ab))):=
  @ki .Add _ _ _ (.int 1 1) (gc rows.length) _ _ _ (by left) (by left) (v4 (x:=ao "len") (d1:=.list rows) (by left) (by left) (by left) (by left) (Fj hl)) rfl
 refine(Tx (x:=ao "costs") (b0:=.ow KV) (dv:=.tup [.int (oz h rb t k) 16,.int (te rows.length) 16,ab]) (σ1:=cE dS dC dF R h rb g t l L A H (bc k) (iz R g) S KV (qf due nose below (.fz (.list rows)) words (.fz ab))) (by left) (by left) (A0 (by left) ?_) (by left) hkey (by left) hsto).trans (by left);refine af (show xs (bl (eZ 8))=[Cd,AJ,cO (bl (eZ 8)) 2] by left) ?_;exact iV e0 (iV e1 (iV (by left) m9))
structure EV(r r1 r2 r3 r4 r5:aA):Prop where
 a:∀d,put (ao "due") (.fz d) r=(ao "due",.fz d)::r1
 b:∀d,put (ao "nose") (.fz d) r1=(ao "nose",.fz d)::r2
 c:∀d,put (ao "below") (.fz d) r2=(ao "below",.fz d)::r3
 d:∀d,put (ao "witness") (.fz d) r3=(ao "witness",.fz d)::r4
 e:∀d,put (ao "words") (.fz d) r4=(ao "words",.fz d)::r5
 f:∀d,put (ao "above") (.fz d) r5=[(ao "above",.fz d)]
theorem FJ{R h k:Nat}(I:ie t l)(hh:h<5)(hg:g∈names)(hR:R=3\/R=4)(h1:1<=k)(aB:k<R)(hb':hb=.ow (.list (qM R g))\/hb=iz R g)(Z:EV r r1 r2 r3 r4 r5):∃a b c d e f,b9 (run aR 98) bh (bF (bx 24)) (cE dS dC dF R h rb g t l L A H (bc k) hb (jh l (k-1)) (gf R g h rb t l k) r)=ac (.next,cE dS dC dF R h rb g t l L A H (bc k) (iz R g) (jh l k) (gf R g h rb t l (k+1)) (qf (.fz a) (.fz b) (.fz c) (.fz d) (.fz e) (.fz f))):=by
 have hbd:bF (bx 24)=[eZ 0,eZ 1,eZ 2,eZ 3,eZ 4,eZ 5,eZ 6,eZ 7,eZ 8]:=by left
 refine ay (EE I k) λhl hr=>?_;have hS:jh l (k-1)++[.int (te (fu l k).length) 16]=jh l k:=by
  induction k using j8 with
  |zero=>exact absurd h1 (by decide)
  |succ k=>unfold jh;rw [Oj,aa5,xF];rfl
 have hSl:bB (jh l (k-1)).length lim=ag:=lw (by unfold jh;rw [gj,oJ];refine(?_:k-1<=1048576);lia);have x0:=@gG t l dS dC dF h rb g L A H hb (jh l (k-1)) (gf R g h rb t l k) r _ _ I hR h1 aB;rw [Z.a]at x0;have x1:=@iu dS dC dF R h rb g t l L A H (bc k) hb (gf R g h rb t l k) r1 (jh l (k-1)) _ hl hSl;rw [hS]at x1;have x2:=@lQ t l dS dC dF h rb g L A H hb (jh l k) (gf R g h rb t l k) (.fz (.list (fu l k))) r1 _ _ I hR h1 aB;rw [Z.b]at x2;have x3:=@tD t l dS dC dF h rb g L A H hb (jh l k) (gf R g h rb t l k) (.fz (.list (fu l k))) (.fz (dq (l k))) r2 _ _ I hR h1 aB;rw [Z.c]at x3;have x4:=@O9 _ _ dS dC dF R h rb g L A H (bc k) hb (jh l k) (gf R g h rb t l k) (.fz (.list (fu l k))) k r3 I;rw [Z.d]at x4;have zq:=(@Vy dS dC dF R h rb g t l L A H (bc k) hb (jh l k) (gf R g h rb t l k) (.fz (dq (l k))) (.fz (dq (l (k-1)))) (.fz (.list (fu l k))) r4 _ hl λd hd=>by refine aw (hr d hd) λz q1'=>bu q1' λh0 h1 e=>?_;clear q1';exact⟨_,_,z,h0,h1,e⟩);refine aw zq λN x5=>?_;clear zq;rw [Z.e]at x5;have x6:=@Zs _ _ dS dC dF R h rb g L A H (bc k) hb (jh l k) (gf R g h rb t l k) k N r5 I;have x7:=@Pg _ _ dS dC dF h rb t l L A H (jh l k) (gf R g h rb t l k) (.fz (.list (fu l k))) (.fz (dq (l k))) (.fz (dq (l (k-1)))) (.fz (.list (fu l k))) (.fz (.str (kg ((fu l k).map iU)) N)) r5 _ _ hR h1 aB hb';rw [Z.f]at x7;have x8:=@Qz _ _ _ dS dC dF rb L A H (jh l k) (.fz (.list (fu l k))) (.fz (dq (l k))) (.fz (dq (l (k-1)))) (.fz (.str (kg ((fu l k).map iU)) N)) _ h _ I hh hg hR h1 aB;refine af hbd ?_;exact⟨_,_,_,_,_,_,cf x0 (cf x1 (cf x2 (cf x3 (cf x4 (cf x5 (cf x6 (cf x7 (cf x8 js))))))))⟩
theorem Pz:(run aR 99).ex bh (jf dS dC dF R h rb g t l L A H [(ao "stays",.fz (.list (jO R h rb t)))]) (bx 22)=ac (.next,jf dS dC dF R h rb g t l L A H [(ao "stays",.fz (.list (jO R h rb t))),(ao "steps",.ow (.list []))]):=by left
abbrev pE:aK:=cO (pp (bl (bx 23))) 0
theorem PP{R:Nat}(hR:R=3\/R=4):dQ (run aR 94) bh (xs (cO (bK pE) 0)) (jf dS dC dF R h rb g t l L A H [(ao "stays",.fz (.list (jO R h rb t))),(ao "steps",.ow (.list []))])=ac ([.str (t 0) 512],jf dS dC dF R h rb g t l L A H [(ao "stays",.fz (.list (jO R h rb t))),(ao "steps",.ow (.list []))]):=by
 rcases hR with rfl|rfl<;>left
theorem SM{R:Nat}(hR:R=3\/R=4):dQ (run aR 97) bh [cO (pp (bl (bx 23))) 1,cO (pp (bl (bx 23))) 2] (jf dS dC dF R h rb g t l L A H [(ao "stays",.fz (.list (jO R h rb t))),(ao "steps",.ow (.list []))])=ac ([.int 0 1,m0 R g 0],jf dS dC dF R h rb g t l L A H [(ao "stays",.fz (.list (jO R h rb t))),(ao "steps",.ow (.list []))]):=by
 rcases hR with rfl|rfl<;>left
theorem Xi{R:Nat}(hR:R=3\/R=4):(run aR 98).ev bh (jf dS dC dF R h rb g t l L A H [(ao "stays",.fz (.list (jO R h rb t))),(ao "steps",.ow (.list []))]) (CA (bl (bx 23)))=ac (nq g 0,jf dS dC dF R h rb g t l L A H [(ao "stays",.fz (.list (jO R h rb t))),(ao "steps",.ow (.list []))]):=by
 rcases hR with rfl|rfl<;>left
theorem XE{R h:Nat}(I:ie t l)(hh:h<5)(hR:R=3\/R=4):(run aR 99).ex bh (jf dS dC dF R h rb g t l L A H [(ao "stays",.fz (.list (jO R h rb t))),(ao "steps",.ow (.list []))]) (bx 23)=ac (.next,cE dS dC dF R h rb g t l L A H (bc (R-1)) (.ow (.list (qM R g))) (jh l 0) (gf R g h rb t l 1) []):=by
 refine bu (I.tx 0) λO a2 a3=>?_;have ha:=@PP dS dC dF h rb g t l L A H _ hR;have aB:=@Xi dS dC dF h rb g t l L A H _ hR;have hv:=@SM dS dC dF h rb g t l L A H _ hR;have e0:(run aR 97).ev bh (jf dS dC dF R h rb g t l L A H [(ao "stays",.fz (.list (jO R h rb t))),(ao "steps",.ow (.list []))]) pE=ac (.int (oz h rb t 0) 16,jf dS dC dF R h rb g t l L A H [(ao "stays",.fz (.list (jO R h rb t))),(ao "steps",.ow (.list []))]):=
  @ki .Sub _ _ _ (gc (fU h (t 0)).length) (.int rb 4) _ _ _ (by left) (v4 (x:=ao "len") (d1:=.str (fU h (t 0)) 4096) (by left) (by left) (by left) (Fi (by left) (jn (x:=ao "writer") (h:=.fn (n9 h)) (ds:=[.str (t 0) 512]) (by left) (by left) rfl ha (@iJ (n9 h) [.str (t 0) 512] _ _ aR (Gx hh a3 (by exact bM a2 (ik 9 191))):(run aR 94).call (n9 h) [.str (t 0) 512]=_))) rfl) (by left) rfl
 have e1:(run aR 98).ev bh (jf dS dC dF R h rb g t l L A H [(ao "stays",.fz (.list (jO R h rb t))),(ao "steps",.ow (.list []))]) (pp (bl (bx 23)))=ac (.tup [.int (oz h rb t 0) 16,.int 0 1,m0 R g 0],jf dS dC dF R h rb g t l L A H [(ao "stays",.fz (.list (jO R h rb t))),(ao "steps",.ow (.list []))]):=by
  refine A0 (by left) ?_;refine af (show xs (pp (bl (bx 23)))=[pE,cO (pp (bl (bx 23))) 1,cO (pp (bl (bx 23))) 2] by left) ?_;exact iV e0 hv
 exact(QV (x:=ao "costs") (by left) aB e1 (by left)).trans (by left)
abbrev IT(dS dC dF:ak)(R h:Nat)(rb:Int)(g:T)(t l:Nat->T)(L A:List ak)(H:T)(a b c d e f:ak)(r:aA):aA:=cE dS dC dF R h rb g t l L A H (bc (R-1)) (iz R g) (jh l (R-1)) (gf R g h rb t l R) ((ao "due",.fz a)::(ao "nose",.fz b)::(ao "below",.fz c)::(ao "witness",.fz d)::(ao "words",.fz e)::(ao "above",.fz f)::r)
theorem SQ:EV [] [] [] [] [] []:=⟨λd=>rfl,λd=>rfl,λd=>rfl,λd=>rfl,λd=>rfl,λd=>rfl⟩
theorem JV:EV (qf a b c d e f) [(ao "nose",b),(ao "below",c),(ao "witness",d),(ao "words",e),(ao "above",f)] [(ao "below",c),(ao "witness",d),(ao "words",e),(ao "above",f)] [(ao "witness",d),(ao "words",e),(ao "above",f)] [(ao "words",e),(ao "above",f)] [(ao "above",f)]:=
 ⟨λd=>by left,λd=>by left,λd=>by left,λd=>by left,λd=>by left,λd=>by left⟩
theorem xU:i7 bh (cE dS dC dF R h rb g t l L A H hv hb S KV r) (gu (bx 24)) (bc k)=ac (cE dS dC dF R h rb g t l L A H (bc k) hb S KV r):=by left
theorem QC{R:Nat}(hR:R=3\/R=4):∃ls,(run aR 98).ev bh (cE dS dC dF R h rb g t l L A H hv hb S KV r) (bl (bx 24))=ac (.list ls,cE dS dC dF R h rb g t l L A H hv hb S KV r)/\ls=(bP (R-1)).map λj=>bc (j+1):=by
 rcases hR with rfl|rfl
 ·exact⟨[bc 1,bc 2],by left,rfl⟩
 ·exact⟨[bc 1,bc 2,bc 3],by left,rfl⟩
theorem X9{R h:Nat}(I:ie t l)(hh:h<5)(hg:g∈names)(hR:R=3\/R=4):∃a b c d e f,(run aR 99).ex bh (cE dS dC dF R h rb g t l L A H (bc (R-1)) (.ow (.list (qM R g))) (jh l 0) (gf R g h rb t l 1) []) (bx 24)=ac (.next,IT dS dC dF R h rb g t l L A H a b c d e f []):=by
 refine aw (@QC dS dC dF h rb g t l L A H (bc (R-1)) (.ow (.list (qM R g))) (jh l 0) (gf R g h rb t l 1) [] _ hR) λls q2'=>ay q2' λi1 i2=>?_;clear q2';have zq:=(@FJ _ _ _ _ _ _ _ _ _ _ dS dC dF rb L A H _ _ 1 I hh hg hR (bZ 1) (by lia) (.inl rfl) SQ);refine d4 zq λa1 b1 AJ d1 q1'=>bV q1' λe1 f1 t1=>?_;clear zq q1';have zq:=(@FJ _ _ _ _ _ _ _ _ _ _ dS dC dF rb L A H _ _ 2 I hh hg hR (by decide) (by omega) (.inr rfl) (@JV (.fz a1) (.fz b1) (.fz AJ) (.fz d1) (.fz e1) (.fz f1)));refine d4 zq λa2 b2 c2 d2 q0'=>bV q0' λe2 f2 t2=>?_;clear zq q0';rcases hR with rfl|rfl
 ·refine⟨a2,b2,c2,d2,e2,f2,nG (l:=ls) (by left) i1 (by left) ?_⟩
  subst i2;exact eX xU t1 (eX xU t2 qO)
 ·have zq:=(@FJ _ _ _ _ _ _ _ _ _ _ dS dC dF rb L A H _ _ 3 I hh hg (.inr rfl) (by decide) (by decide) (.inr rfl) (@JV (.fz a2) (.fz b2) (.fz c2) (.fz d2) (.fz e2) (.fz f2)));refine d4 zq λa3 b3 c3 d3 q2'=>bV q2' λe3 f3 t3=>?_;clear zq q2'
  refine⟨a3,b3,c3,d3,e3,f3,nG (l:=ls) (by left) i1 (by left) ?_⟩;subst i2;exact eX xU t1 (eX xU t2 (eX xU t3 qO))
noncomputable def aT(s lam:Nat->Int)(i:Nat):Nat->Int:=@gW (λO=>Nat->Int) (λj=>match j with|0=>1|_+1=>0) (λO ih j=>match j with|0=>ih 0*s 0+ih 1*lam 1|j+1=>ih j+ih (j+1)*s (j+1)+ih (j+2)*lam (j+2)) i
def yk(f:Nat->Int)(ns:List Nat):Nat->List ak:=@bW Nat (λO=>Nat->List ak) (λO=>[]) (λn O ih k=>.int (f k) n::ih (k+1)) ns
def uL(g:T)(f:Nat->Int)(ns:List Nat):ak:=.dict (tZ g ns.length) (yk f ns 0)
noncomputable def P0(lam:Nat->Int)(k:Nat):ak:=match k with|0=>.int 0 1|k+1=>.int (lam (k+1)) 16
def nA(R:Nat)(g:T)(s lam:Nat->Int):ak:=.dict (tZ g R) ((bP R).map λk=>.tup [.int (s k) 16,P0 lam k,m0 R g k])
theorem ou:∀(i j:Nat),i<j->aT s lam i j=0
 |0,0,h=>absurd h (by decide)
 |0,j+1,_=>rfl
 |i+1,0,h=>absurd h (by simp_all)
 |i+1,j+1,h=>by
  refine(?_:aT s lam i j+aT s lam i (j+1)*s (j+1)+aT s lam i (j+2)*lam (j+2)=0);refine af (ou i j (by exact Nat.le_of_succ_le_succ h)) (af (ou i (j+1) (by exact lW h)) (af (ou i (j+2) (by lia)) ?_));lia
def Yy(R:Nat):List (List Nat):=aN [[1],[17,1],[34,18,1],[51,36,19,1],[68,54,38,20],[85,72,56,39],[102,90,74,57],[119,108,92,75]] [[1],[17,1],[34,18,1],[51,36,19],[68,54,37],[85,72,55],[102,90,73],[119,108,91]] (bt R 3)
def oh(R i:Nat):List Nat:=(Yy R).getD i []
def mj(R i:Nat):Nat:=aN R (i+1) (eK i R)
theorem EL{R i:Nat}:mj R i=i+1/\i<R\/mj R i=R/\R<=i:=by
 unfold mj;cases q:eK i R with
 |true=>exact .inl ⟨rfl,ll q⟩
 |false=>exact .inr ⟨rfl,sq λh=>by rw [show eK i R=ag from lw h]at q;exact bR q.symm⟩
def IO(m:Nat)(s lam a:Nat->Int)(j:Nat):Int:=@gW (λO=>Int) (aN (a 0*s 0) (a 0*s 0+a 1*lam 1) (eK 1 m)) (λk O=>aN (a k) (aN (a k+a (k+1)*s (k+1)) (a k+a (k+1)*s (k+1)+a (k+2)*lam (k+2)) (eK (k+2) m)) (eK (k+1) m)) j
theorem Fm(h:eK a b=am):b<=a:=sq λq=>by rw [show eK a b=ag from lw q]at h;exact bR h.symm
theorem Tt{m m':Nat}(h1:∀j,m<=j->j<=m'->aT s lam i j*lam j=0)(h2:∀j,m<=j->j<m'->aT s lam i j=0):∀j,j<m'->IO m s lam (aT s lam i) j=aT s lam (i+1) j
 |0,hj=>by
  refine(?_:aN (aT s lam i 0*s 0) (aT s lam i 0*s 0+aT s lam i 1*lam 1) (eK 1 m)=aT s lam i 0*s 0+aT s lam i 1*lam 1);cases q:eK 1 m with
  |true=>rfl
  |false=>exact af (h1 1 (Fm q) hj) (l7 _).symm
 |k+1,hj=>by
  refine(?_:aN (aT s lam i k) (aN (aT s lam i k+aT s lam i (k+1)*s (k+1)) (aT s lam i k+aT s lam i (k+1)*s (k+1)+aT s lam i (k+2)*lam (k+2)) (eK (k+2) m)) (eK (k+1) m)=aT s lam i k+aT s lam i (k+1)*s (k+1)+aT s lam i (k+2)*lam (k+2));cases q:eK (k+1) m with
  |false=>
   have q:=Fm q;rw [h1 (k+2) (tO q) hj,h2 (k+1) q hj,lA,l7];exact(l7 _).symm
  |true=>
   cases q2:eK (k+2) m with
   |true=>rfl
   |false=>exact af (h1 (k+2) (Fm q2) hj) (l7 _).symm
theorem Wt{f f':Nat->Int}(ns:List Nat):∀k,(∀j,k<=j->j<k+ns.length->f j=f' j)->yk f ns k=yk f' ns k:=by
 induction ns with
 |nil=>exact λO O=>rfl
 |cons n ns ih=>
  intro k h;refine(?_:ak.int (f k) n::yk f ns (k+1)=ak.int (f' k) n::yk f' ns (k+1));rw [h k (bZ k) (by show k<k+(ns.length+1);simp),ih (k+1) λj a b=>h j (by exact lW a) (by show j<k+(ns.length+1);(simp only [nI,kB,tQ]at*;first|assumption|omega))]
theorem jZ{α β:Type}{F F':α->β}{l:List α}(h:l.map F=l.map F'){x:α}(hx:x∈l):F x=F' x:=vQ.mp h x hx
theorem wA{R:Nat}(hR:R=3\/R=4):R∈[3,4]:=by rcases hR with rfl|rfl<;>decide
def Ke(R i:Nat)(g:T)(s lam a:Nat->Int):Option ak:=(run aR 96).call 271 [uL g a (oh R i),nA R g s lam]
def UP(R i:Nat)(g:T)(s lam a:Nat->Int):Option ak:=ac (uL g (IO (mj R i) s lam a) (oh R (i+1)))
theorem R0:([3,4].map λR=>(bP 7).map λi=>names.map (Ke R i))=[3,4].map λR=>(bP 7).map λi=>names.map (UP R i):=by left
theorem O0:([3,4].map λR=>(bP 7).map λi=>(oh R (i+1)).length)=[3,4].map λR=>(bP 7).map λi=>mj R (i+1):=by left
theorem QD{R i:Nat}(hR:R=3\/R=4)(hi:i<7):(oh R (i+1)).length=mj R (i+1):=jZ (jZ O0 (wA hR)) (qt.mpr hi)
theorem V1{lam:Nat->Int}{R i:Nat}(hR:R=3\/R=4)(hi:i<7)(hg:g∈names)(hl:lam R=0):(run aR 96).call 271 [uL g (aT s lam i) (oh R i),nA R g s lam]=ac (uL g (aT s lam (i+1)) (oh R (i+1))):=by
 refine(congrFun (congrFun (congrFun (jZ (jZ (jZ R0 (wA hR)) (qt.mpr hi)) hg) s) lam) _:Ke R i g s lam (aT s lam i)=_).trans (congrArg ac (congrArg (ak.dict _) (Wt _ 0 λj O hj=>?_)));rw [iA,QD hR hi]at hj;have p:=@EL R i;have p':=@EL R (i+1);refine Tt (m':=mj R (i+1)) (λj a b=>?_) (λj a b=>?_) j hj
 ·by_cases q:j=R
  ·exact af q (af hl (tT _))
  ·exact af (ou i j (by lia)) (lA _)
 ·exact ou i j (by lia)
abbrev sv(v:Nat->bk)(R:Nat)(g:T)(hv dv:bk)(ss:List ak)(sb cb:bk)(r:aA):aA:=(ao "script",v 0)::(ao "cells",v 1)::(ao "rungs",.fz (sN R))::(ao "hand",v 2)::(ao "rebate",v 3)::(ao "signs",v 4)::(ao "labels",v 5)::(ao "texts",v 6)::(ao "figures",v 7)::(ao "leads",v 8)::(ao "prices",v 9)::(ao "header",v 10)::(ao "lists",v 11)::(ao "told",v 12)::(ao "writer",v 13)::(ao "hosts",iz R g)::(ao "h",hv)::(ao "stay",v 15)::(ao "down",v 16)::(ao "stays",.fz (.list ss))::(ao "steps",sb)::(ao "costs",cb)::(ao "due",dv)::(ao "nose",v 18)::(ao "below",v 19)::(ao "witness",v 20)::(ao "words",v 21)::(ao "above",v 22)::r
abbrev kL(R:Nat)(g:T)(s lam:Nat->Int)(n:Nat):List ak:=(bP n).map λi=>uL g (aT s lam i) (oh R i)
abbrev m7(v:Nat->bk)(R:Nat)(g:T)(hv dv:bk)(ss:List ak)(sb cb:bk)(Ts:List ak)(tv:bk):aA:=sv v R g hv dv ss sb cb [(ao "tables",.ow (.list Ts)),(ao "turn",tv)]
theorem Wi{g:T}{s lam:Nat->Int}{v:Nat->bk}{R:Nat}{hv dv sb cb:bk}{ss:List ak}(hR:R=3\/R=4):(run aR 99).ex bh (sv v R g hv dv ss sb cb []) (bx 25)=ac (.next,sv v R g hv dv ss sb cb [(ao "tables",.ow (.list (kL R g s lam 1)))]):=by
 rcases hR with rfl|rfl<;>left
abbrev DD:bY:=cP (bF (bx 26)) 0
theorem Pu{g:T}{v:Nat->bk}{R:Nat}{hv dv sb cb tv:bk}{ss:List ak}{K:ak}{Ts:List ak}{T0 T':ak}(ha:dQ (run aR 96) bh (xs (cO (bl DD) 0)) (m7 v R g hv dv ss sb cb Ts tv)=ac ([T0,K],m7 v R g hv dv ss sb (.fz K) Ts tv))(hl:bB Ts.length lim=ag)(h:(run aR 96).call 271 [T0,K]=ac T'):
  b9 (run aR 98) bh (bF (bx 26)) (m7 v R g hv dv ss sb cb Ts tv)=ac (.next,m7 v R g hv dv ss sb (.fz K) (Ts++[T']) tv):=
 af (show bF (bx 26)=[DD] by left) (cf (@uG _ _ _ _ (m7 v R g hv dv ss sb (.fz K) Ts tv) T' Ts (ao "tables") _ Ts (by left) (by left) (by left) (J0 (x:=ao "_law_step") (h:=.fn 271) (ds:=[T0,K]) (by left) (by left) rfl ha h) (by left) hl) (by left))
def NB(c:Bool)(i:Nat)(v:Nat->bk)(R:Nat)(g:T)(s lam:Nat->Int)(hv dv:bk)(ss:List ak)(sb:bk)(K:ak)(tv:bk):Option (List ak×aA):=dQ (run aR 96) bh (xs (cO (bl DD) 0)) (m7 v R g hv dv ss sb (aN (.ow K) (.fz K) c) (kL R g s lam (i+1)) tv)
def K8(c:Bool)(i:Nat)(v:Nat->bk)(R:Nat)(g:T)(s lam:Nat->Int)(hv dv:bk)(ss:List ak)(sb:bk)(K:ak)(tv:bk):Option (List ak×aA):=ac ([uL g (aT s lam i) (oh R i),K],m7 v R g hv dv ss sb (.fz K) (kL R g s lam (i+1)) tv)
theorem PC:([am,ag].map λc=>(bP 7).map (NB c))=[am,ag].map λc=>(bP 7).map (K8 c):=by left
theorem QU(n:Nat):kL R g s lam n++[uL g (aT s lam n) (oh R n)]=kL R g s lam (n+1):=by unfold kL;rw [aa5,xF];rfl
theorem ue{g:T}{s lam:Nat->Int}{v:Nat->bk}{R i:Nat}{hv dv sb tv:bk}{ss:List ak}(c:Bool)(hR:R=3\/R=4)(hi:i<7)(hg:g∈names)(hl:lam R=0):b9 (run aR 98) bh (bF (bx 26)) (m7 v R g hv dv ss sb (aN (.ow (nA R g s lam)) (.fz (nA R g s lam)) c) (kL R g s lam (i+1)) tv)=ac (.next,m7 v R g hv dv ss sb (.fz (nA R g s lam)) (kL R g s lam (i+2)) tv):=by
 have e:NB c i v R g s lam hv dv ss sb (nA R g s lam) tv=K8 c i v R g s lam hv dv ss sb (nA R g s lam) tv:=by rw [jZ (jZ PC (by cases c<;>decide)) (qt.mpr hi)]
 exact(Pu e (lw (by unfold kL;rw [gj,oJ];unfold lim;exact bM hi (ik 7 1048569))) (V1 (s:=s) hR hi hg hl)).trans (by rw [QU])
theorem Yk{g:T}{s lam:Nat->Int}{v:Nat->bk}{R:Nat}{hv dv sb:bk}{ss:List ak}(hR:R=3\/R=4)(hg:g∈names)(hl:lam R=0):(run aR 99).ex bh (sv v R g hv dv ss sb (.ow (nA R g s lam)) [(ao "tables",.ow (.list (kL R g s lam 1)))]) (bx 26)=ac (.next,m7 v R g hv dv ss sb (.fz (nA R g s lam)) (kL R g s lam 8) (.fz (bc 6))):=
 nG (d:=.rng 0 7) (l:=[bc 0,bc 1,bc 2,bc 3,bc 4,bc 5,bc 6]) (σ1:=sv v R g hv dv ss sb (.ow (nA R g s lam)) [(ao "tables",.ow (.list (kL R g s lam 1)))]) (by left) (by left) (by left)
  (eX (by left) (ue am (tv:=.fz (bc 0)) (s:=s) (v:=v) (hv:=hv) (dv:=dv) (ss:=ss) (sb:=sb) hR (i:=0) (by decide) hg hl) (eX (by left) (ue ag (tv:=.fz (bc 1)) (s:=s) (v:=v) (hv:=hv) (dv:=dv) (ss:=ss) (sb:=sb) hR (i:=1) (by decide) hg hl) (eX (by left) (ue ag (tv:=.fz (bc 2)) (s:=s) (v:=v) (hv:=hv) (dv:=dv) (ss:=ss) (sb:=sb) hR (i:=2) (by decide) hg hl) (eX (by left) (ue ag (tv:=.fz (bc 3)) (s:=s) (v:=v) (hv:=hv) (dv:=dv) (ss:=ss) (sb:=sb) hR (i:=3) (by decide) hg hl) (eX (by left) (ue ag (tv:=.fz (bc 4)) (s:=s) (v:=v) (hv:=hv) (dv:=dv) (ss:=ss) (sb:=sb) hR (i:=4) (by decide) hg hl) (eX (by left) (ue ag (tv:=.fz (bc 5)) (s:=s) (v:=v) (hv:=hv) (dv:=dv) (ss:=ss) (sb:=sb) hR (i:=5) (by decide) hg hl) (eX (by left) (ue ag (tv:=.fz (bc 6)) (s:=s) (v:=v) (hv:=hv) (dv:=dv) (ss:=ss) (sb:=sb) hR (i:=6) (by decide) hg hl) (qO))))))))
theorem Jz(g:T):∀l:List Nat,jW 7 (re (l.map (kZ g))) (l.map (nq g))
 |[]=>.nil
 |k::l=>.cons .str (Jz g l)
theorem MF(g:T):∀ns:List Nat,jW 8 (ns.map λn=>.list (re (tZ g n))) (ns.map λn=>.list ((bP n).map (nq g)))
 |[]=>.nil
 |n::ns=>.cons (.list (Jz g _)) (MF g ns)
noncomputable def cN(lam:Nat->Int)(j:Nat):Int:=@gW (λO=>Int) 1 (λj ih=>ih*lam (j+1)) j
noncomputable abbrev n6(R:Nat)(lam:Nat->Int):List ak:=(bP (R-1)).map λj=>.int (lam (j+1)) 16
abbrev nF(v:Nat->bk)(R:Nat)(g:T)(s lam:Nat->Int)(hv dv:bk)(ss:List ak)(sb cb tv:bk)(r:aA):aA:=sv v R g hv dv ss sb cb ((ao "tables",.fz (.list (kL R g s lam 8)))::(ao "turn",tv)::r)
theorem QE{g:T}{s lam:Nat->Int}{v:Nat->bk}{R:Nat}{hv dv sb cb tv:bk}{ss:List ak}(h1:(run aR 97).ev bh (m7 v R g hv dv ss sb cb (kL R g s lam 8) tv) (bK (bl (bx 27)))=ac (.list (((bP 8).map (mj R)).map λn=>.list (re (tZ g n))),nF v R g s lam hv dv ss sb cb tv []))(h2:(run aR 97).ev bh (nF v R g s lam hv dv ss sb cb tv []) (ft (bl (bx 27)))=ac (.list (((bP 8).map (mj R)).map λn=>.list ((bP n).map (nq g))),nF v R g s lam hv dv ss sb cb tv [])):
  (run aR 99).ex bh (m7 v R g hv dv ss sb cb (kL R g s lam 8) tv) (bx 27)=ac (.next,nF v R g s lam hv dv ss sb cb tv []):=
 AQ (b:=am) (σ1:=nF v R g s lam hv dv ss sb cb tv []) (by left) (Fk (op:=.NotEq) (by left) h1 h2 (AH (MF g _))) (by left)
theorem Yi{g:T}{s lam:Nat->Int}{v:Nat->bk}{R:Nat}{hv dv sb cb tv:bk}{ss:List ak}(hR:R=3\/R=4):(run aR 99).ex bh (m7 v R g hv dv ss sb cb (kL R g s lam 8) tv) (bx 27)=ac (.next,nF v R g s lam hv dv ss sb cb tv []):=by
 rcases hR with rfl|rfl<;>exact QE (by left) (by left)
abbrev y6(R:Nat)(s lam:Nat->Int):List ak:=(bP 8).map λi=>.int (aT s lam i 0) ((oh R i).getD 0 0)
theorem Y8{g:T}{s lam:Nat->Int}{v:Nat->bk}{R:Nat}{hv dv sb cb tv:bk}{ss:List ak}(hR:R=3\/R=4)(hg:g∈names):(run aR 99).ex bh (nF v R g s lam hv dv ss sb cb tv []) (bx 28)=ac (.next,nF v R g s lam hv dv ss sb cb tv [(ao "walks",.fz (.list (y6 R s lam)))]):=by
 refine vk (P:=λg=>(run aR 99).ex bh (nF v R g s lam hv dv ss sb cb tv []) (bx 28)=ac (.next,nF v R g s lam hv dv ss sb cb tv [(ao "walks",.fz (.list (y6 R s lam)))])) hg ?_ ?_ ?_<;>rcases hR with rfl|rfl<;>left
abbrev jP(R:Nat)(g:T)(lam:Nat->Int):ak:=.dict (tZ g R) ((bP R).map λj=>.int (cN lam j) (1+16*j))
abbrev kz(v:Nat->bk)(R:Nat)(g:T)(s lam:Nat->Int)(hv dv:bk)(ss:List ak)(sb cb tv ab:bk)(r:aA):aA:=nF v R g s lam hv dv ss sb cb tv ((ao "walks",.fz (.list (y6 R s lam)))::(ao "ahead",ab)::r)
theorem Sm{g:T}{s lam:Nat->Int}{v:Nat->bk}{R:Nat}{hv dv cb tv:bk}{ss:List ak}(hR:R=3\/R=4)(hg:g∈names):b9 (run aR 99) bh [bx 29,bx 30] (nF v R g s lam hv dv ss (.ow (.list (n6 R lam))) cb tv [(ao "walks",.fz (.list (y6 R s lam)))])=ac (.next,kz v R g s lam (.fz (bc (R-1))) dv ss (.ow (.list (n6 R lam))) cb tv (.ow (jP R g lam)) []):=by
 refine vk (P:=λg=>b9 (run aR 99) bh [bx 29,bx 30] (nF v R g s lam hv dv ss (.ow (.list (n6 R lam))) cb tv [(ao "walks",.fz (.list (y6 R s lam)))])=ac (.next,kz v R g s lam (.fz (bc (R-1))) dv ss (.ow (.list (n6 R lam))) cb tv (.ow (jP R g lam)) [])) hg ?_ ?_ ?_<;>rcases hR with rfl|rfl<;>left
set_option linter.unusedSimpArgs false
def jV(s lam:Nat->Int)(i k:Nat)(m:Nat):Int:=@gW (λO=>Int) 0 (λj ih=>ih+aT s lam i j*aT s lam k j*cN lam j) m
theorem Lv{s lam:Nat->Int}(i k:Nat):∀n:Nat,jV s lam (i+1) k (n+1)-jV s lam i (k+1) (n+1)=(aT s lam i (n+1)*aT s lam k n-aT s lam i n*aT s lam k (n+1))*cN lam (n+1)
 |0=>by
  refine(?_:(0+(aT s lam i 0*s 0+aT s lam i 1*lam 1)*aT s lam k 0*1)-(0+aT s lam i 0*(aT s lam k 0*s 0+aT s lam k 1*lam 1)*1)=(aT s lam i 1*aT s lam k 0-aT s lam i 0*aT s lam k 1)*(1*lam 1));grind
 |n+1=>by
  have ih:=@Lv s lam i k n;refine(?_:(jV s lam (i+1) k (n+1)+(aT s lam i n+aT s lam i (n+1)*s (n+1)+aT s lam i (n+2)*lam (n+2))*aT s lam k (n+1)*cN lam (n+1))-(jV s lam i (k+1) (n+1)+aT s lam i (n+1)*(aT s lam k n+aT s lam k (n+1)*s (n+1)+aT s lam k (n+2)*lam (n+2))*cN lam (n+1))=(aT s lam i (n+2)*aT s lam k (n+1)-aT s lam i (n+1)*aT s lam k (n+2))*(cN lam (n+1)*lam (n+2)));generalize jV s lam (i+1) k (n+1)=x at*;generalize jV s lam i (k+1) (n+1)=y at*;generalize aT s lam i (n+2)=a2;generalize aT s lam i (n+1)=a1 at*;generalize aT s lam i n=a0 at*;generalize aT s lam k (n+2)=b2;generalize aT s lam k (n+1)=b1 at*;generalize aT s lam k n=b0 at*;generalize cN lam (n+1)=d at*;generalize lam (n+2)=l;generalize s (n+1)=t;have:x=y+(a1*b0-a0*b1)*d:=by exact(λ{b a c}=>Int.sub_eq_iff_eq_add'.mp) ih
  subst this;grind
theorem IS{n:Nat}(h:cN lam (n+1)=0):∀i k:Nat,jV s lam i k (n+1)=jV s lam 0 (i+k) (n+1)
 |0,k=>by rw [iA]
 |i+1,k=>by
  have:=@Lv s lam i k n;rw [h,tT]at this;refine af (show i+1+k=i+(k+1) by exact Dh i k) (af (IS h i (k+1)).symm ?_);exact Int.eq_of_sub_eq_zero this
theorem Li(m:Nat):∀n:Nat,jV s lam 0 m (n+1)=aT s lam m 0
 |0=>by refine(?_:0+1*aT s lam m 0*1=_);simp
 |n+1=>by
  refine(?_:jV s lam 0 m (n+1)+0*aT s lam m (n+1)*cN lam (n+1)=_);rw [Li m n,lA,lA,l7]
theorem Nz{i m:Nat}(h:i<m):∀x:Nat,jV s lam i k (m+x)=jV s lam i k m
 |0=>rfl
 |x+1=>by
  refine(?_:jV s lam i k (m+x)+aT s lam i (m+x)*aT s lam k (m+x)*cN lam (m+x)=_);rw [Nz h x,ou i (m+x) (by exact Nat.lt_add_right x h),lA,lA,l7]
theorem HV{n:Nat}(h:cN lam (n+1)=0)(i k:Nat):jV s lam i k (n+1)=aT s lam (i+k) 0:=(IS h i k).trans (Li _ n)
noncomputable def Sh(rows:List (List Int))(k:Nat):List (List Int):=(rows.drop 1).map λr=>r.take k++r.drop (k+1)
def eY(n:Nat):List (List Int)->Int:=@gW (λO=>List (List Int)->Int) (λrows=>(rows.getD 0 []).getD 0 0) (λn ih rows=>lI ((bP (n+2)).map λk=>(-1)^k*(rows.getD 0 []).getD k 0*ih (Sh rows k)) 0) n
theorem CW(a b c d:Int):eY 1 [[a,b],[c,d]]=a*d-b*c:=by
 refine(?_:0+(-1)^0*a*d+(-1)^1*b*c=_);grind
theorem zC(a b c d e f g h i:Int):eY 2 [[a,b,c],[d,e,f],[g,h,i]]=a*(e*i-f*h)-b*(d*i-f*g)+c*(d*h-e*g):=by
 refine(?_:0+(-1)^0*a*eY 1 [[e,f],[h,i]]+(-1)^1*b*eY 1 [[d,f],[g,i]]+(-1)^2*c*eY 1 [[d,e],[g,h]]=_);rw [CW,CW,CW];grind
theorem Tq(a b c d e f g h i j k l m n o p:Int):eY 3 [[a,b,c,d],[e,f,g,h],[i,j,k,l],[m,n,o,p]]=a*eY 2 [[f,g,h],[j,k,l],[n,o,p]]-b*eY 2 [[e,g,h],[i,k,l],[m,o,p]]+c*eY 2 [[e,f,h],[i,j,l],[m,n,p]]-d*eY 2 [[e,f,g],[i,j,k],[m,n,o]]:=by
 refine(?_:0+(-1)^0*a*eY 2 [[f,g,h],[j,k,l],[n,o,p]]+(-1)^1*b*eY 2 [[e,g,h],[i,k,l],[m,o,p]]+(-1)^2*c*eY 2 [[e,f,h],[i,j,l],[m,n,p]]+(-1)^3*d*eY 2 [[e,f,g],[i,j,k],[m,n,o]]=_);generalize eY 2 [[f,g,h],[j,k,l],[n,o,p]]=x;generalize eY 2 [[e,g,h],[i,k,l],[m,o,p]]=y;generalize eY 2 [[e,f,h],[i,j,l],[m,n,p]]=z;generalize eY 2 [[e,f,g],[i,j,k],[m,n,o]]=w;grind
theorem Vq(p d1 gG iu:Int):eY 1 [[1,gG],[p,p*gG+iu*d1]]=d1*iu:=by
 rw [CW];grind
theorem VY(p q r d1 d2 gG iu lQ:Int):eY 2 [[1,p,gG],[p,p*p+d1,p*gG+iu*d1],[q,q*p+r*d1,q*gG+r*iu*d1+lQ*d2]]=d1*d2*lQ:=by
 rw [zC];grind
theorem RI(p q r x y z d1 d2 d3 gG iu lQ tD:Int):eY 3 [[1,p,q,gG],[p,p*p+d1,p*q+r*d1,p*gG+iu*d1],[q,q*p+r*d1,q*q+r*r*d1+d2,q*gG+r*iu*d1+lQ*d2],[x,x*p+y*d1,x*q+y*r*d1+z*d2,x*gG+y*iu*d1+z*lQ*d2+tD*d3]]=d1*d2*d3*tD:=by
 rw [Tq,zC,zC,zC,zC];grind
theorem yg:∀i:Nat,aT s lam i i=1
 |0=>rfl
 |i+1=>by
  refine(?_:aT s lam i i+aT s lam i (i+1)*s (i+1)+aT s lam i (i+2)*lam (i+2)=1);rw [yg i,ou i (i+1) (by exact bZ _),ou i (i+2) (by simp),lA,lA];rfl
noncomputable def mn(s:Nat->Int)(n:Nat):Int:=@gW (λO=>Int) 0 (λj ih=>ih+s j) n
theorem xX:∀i:Nat,aT s lam (i+1) i=mn s (i+1)
 |0=>by refine(?_:1*s 0+0*lam 1=0+s 0);simp
 |i+1=>by
  refine(?_:aT s lam (i+1) i+aT s lam (i+1) (i+1)*s (i+1)+aT s lam (i+1) (i+2)*lam (i+2)=mn s (i+1)+s (i+1));rw [xX i,yg,ou (i+1) (i+2) (by simp),lA,xN,l7]
theorem d9(h:cN lam 4=0)(i k:Nat):aT s lam (i+k) 0=aT s lam i 0*aT s lam k 0+aT s lam i 1*aT s lam k 1*cN lam 1+aT s lam i 2*aT s lam k 2*cN lam 2+aT s lam i 3*aT s lam k 3*cN lam 3:=by
 rw [<-HV (n:=3) h i k];refine(?_:0+aT s lam i 0*aT s lam k 0*1+aT s lam i 1*aT s lam k 1*cN lam 1+aT s lam i 2*aT s lam k 2*cN lam 2+aT s lam i 3*aT s lam k 3*cN lam 3=_);rw [Ab,tM]
theorem EF:aT s lam 0 1=0:=rfl
theorem DQ:aT s lam 0 2=0:=rfl
theorem FD:aT s lam 0 3=0:=rfl
theorem yo:aT s lam 1 2=0:=ou 1 2 (by decide)
theorem A1:aT s lam 1 3=0:=ou 1 3 (by decide)
theorem BB:aT s lam 2 3=0:=ou 2 3 (by decide)
theorem rk:aT s lam 0 0=1:=rfl
theorem ub:aT s lam 1 1=1:=yg 1
theorem xe:aT s lam 2 2=1:=yg 2
theorem AC:aT s lam 3 3=1:=yg 3
abbrev de(s lam:Nat->Int)(m:Nat):Int:=aT s lam m 0
theorem Ku{p d1 gG iu m00 m01 m10 m11:Int}(h00:m00=1)(h01:m01=gG)(h10:m10=p)(h11:m11=p*gG+iu*d1):eY 1 [[m00,m01],[m10,m11]]=d1*iu:=by
 refine af h00 (af h01 (af h10 (af h11 ?_)));exact Vq p d1 gG iu
theorem M6{p q r d1 d2 gG iu lQ m00 m01 m02 m10 m11 m12 m20 m21 m22:Int}(h00:m00=1)(h01:m01=p)(h02:m02=gG)(h10:m10=p)(h11:m11=p*p+d1)(h12:m12=p*gG+iu*d1)(h20:m20=q)(h21:m21=q*p+r*d1)(h22:m22=q*gG+r*iu*d1+lQ*d2):eY 2 [[m00,m01,m02],[m10,m11,m12],[m20,m21,m22]]=d1*d2*lQ:=by
 refine af h00 (af h01 (af h02 (af h10 (af h11 (af h12 (af h20 (af h21 (af h22 ?_))))))));exact VY p q r d1 d2 gG iu lQ
theorem Jy{p q r x y z d1 d2 d3 gG iu lQ tD m00 m01 m02 m03 m10 m11 m12 m13 m20 m21 m22 m23 m30 m31 m32 m33:Int}(h00:m00=1)(h01:m01=p)(h02:m02=q)(h03:m03=gG)(h10:m10=p)(h11:m11=p*p+d1)(h12:m12=p*q+r*d1)(h13:m13=p*gG+iu*d1)(h20:m20=q)(h21:m21=q*p+r*d1)(h22:m22=q*q+r*r*d1+d2)(h23:m23=q*gG+r*iu*d1+lQ*d2)(h30:m30=x)(h31:m31=x*p+y*d1)(h32:m32=x*q+y*r*d1+z*d2)(h33:m33=x*gG+y*iu*d1+z*lQ*d2+tD*d3):eY 3 [[m00,m01,m02,m03],[m10,m11,m12,m13],[m20,m21,m22,m23],[m30,m31,m32,m33]]=d1*d2*d3*tD:=by
 refine af h00 (af h01 (af h02 (af h03 (af h10 (af h11 (af h12 (af h13 (af h20 (af h21 (af h22 (af h23 (af h30 (af h31 (af h32 (af h33 ?_)))))))))))))));exact RI p q r x y z d1 d2 d3 gG iu lQ tD
theorem eI(h:cN lam 4=0)(k:Nat):aT s lam (1+k) 0=aT s lam 1 0*aT s lam k 0+aT s lam k 1*cN lam 1:=(d9 h 1 k).trans (by simp only [EF,DQ,FD,yo,A1,BB,rk,ub,xe,AC,lA,tT,xN,tM,l7,Ab])
theorem eU(h:cN lam 4=0)(k:Nat):aT s lam (2+k) 0=aT s lam 2 0*aT s lam k 0+aT s lam 2 1*aT s lam k 1*cN lam 1+aT s lam k 2*cN lam 2:=(d9 h 2 k).trans (by simp only [EF,DQ,FD,yo,A1,BB,rk,ub,xe,AC,lA,tT,xN,tM,l7,Ab])
theorem gC(h:cN lam 4=0)(k:Nat):aT s lam (3+k) 0=aT s lam 3 0*aT s lam k 0+aT s lam 3 1*aT s lam k 1*cN lam 1+aT s lam 3 2*aT s lam k 2*cN lam 2+aT s lam k 3*cN lam 3:=(d9 h 3 k).trans (by simp only [EF,DQ,FD,yo,A1,BB,rk,ub,xe,AC,lA,tT,xN,tM,l7,Ab])
theorem AU(h:cN lam 4=0):aT s lam 2 0=aT s lam 1 0*aT s lam 1 0+cN lam 1:=(eI h 1).trans (by rw [ub,xN])
theorem B1(h:cN lam 4=0):aT s lam 3 0=aT s lam 2 0*aT s lam 1 0+aT s lam 2 1*cN lam 1:=(eU h 1).trans (by rw [ub,yo,tM,lA,l7])
theorem J3(h:cN lam 4=0):aT s lam 4 0=aT s lam 2 0*aT s lam 2 0+aT s lam 2 1*aT s lam 2 1*cN lam 1+cN lam 2:=(eU h 2).trans (by rw [xe,xN])
theorem Nm(h:cN lam 4=0):aT s lam 4 0=aT s lam 3 0*aT s lam 1 0+aT s lam 3 1*cN lam 1:=(gC h 1).trans (by rw [ub,yo,A1,tT,tM,lA,lA,l7,l7])
theorem IQ(h:cN lam 4=0):aT s lam 5 0=aT s lam 3 0*aT s lam 2 0+aT s lam 3 1*aT s lam 2 1*cN lam 1+aT s lam 3 2*cN lam 2:=(gC h 2).trans (by rw [xe,BB,tM,lA,l7])
theorem MA:eY 0 [[de s lam 0]]=1:=rfl
theorem KH:eY 0 [[de s lam 1]]=1*mn s 1:=by rw [xN];exact xX 0
theorem JE(h:cN lam 4=0):eY 1 [[de s lam 0,de s lam 1],[de s lam 1,de s lam 2]]=1*lam 1^1:=by
 have e:=@Ku (aT s lam 1 0) (cN lam 1) (aT s lam 1 0) (aT s lam 1 1) _ _ _ _ (@rk s lam) rfl rfl (eI h 1);refine e.trans ?_;refine af ub ?_;refine(?_:1*lam 1*_=_);grind
theorem M4(h:cN lam 4=0):eY 1 [[de s lam 0,de s lam 2],[de s lam 1,de s lam 3]]=1*lam 1^1*mn s 2:=by
 have e:=@Ku (aT s lam 1 0) (cN lam 1) (aT s lam 2 0) (aT s lam 2 1) _ _ _ _ (@rk s lam) rfl rfl (eI h 2);refine e.trans ?_;refine af (xX 1) ?_;generalize mn s 2=z;refine(?_:1*lam 1*_=_);grind
theorem JM(h:cN lam 4=0):eY 2 [[de s lam 0,de s lam 1,de s lam 2],[de s lam 1,de s lam 2,de s lam 3],[de s lam 2,de s lam 3,de s lam 4]]=1*lam 1^2*lam 2^1:=by
 have e:=@M6 (aT s lam 1 0) (aT s lam 2 0) (aT s lam 2 1) (cN lam 1) (cN lam 2) (aT s lam 2 0) (aT s lam 2 1) (aT s lam 2 2) _ _ _ _ _ _ _ _ _ (@rk s lam) rfl rfl rfl (AU h) (eI h 2) rfl (B1 h) (eU h 2);refine e.trans ?_;refine af xe ?_;refine(?_:1*lam 1*(1*lam 1*lam 2)*_=_);grind
theorem HY(h:cN lam 4=0):eY 2 [[de s lam 0,de s lam 1,de s lam 3],[de s lam 1,de s lam 2,de s lam 4],[de s lam 2,de s lam 3,de s lam 5]]=1*lam 1^2*lam 2^1*mn s 3:=by
 have e:=@M6 (aT s lam 1 0) (aT s lam 2 0) (aT s lam 2 1) (cN lam 1) (cN lam 2) (aT s lam 3 0) (aT s lam 3 1) (aT s lam 3 2) _ _ _ _ _ _ _ _ _ (@rk s lam) rfl rfl rfl (AU h) (eI h 3) rfl (B1 h) (eU h 3);refine e.trans ?_;refine af (xX 2) ?_;generalize mn s 3=z;refine(?_:1*lam 1*(1*lam 1*lam 2)*_=_);grind
theorem Mp(h:cN lam 4=0):eY 3 [[de s lam 0,de s lam 1,de s lam 2,de s lam 3],[de s lam 1,de s lam 2,de s lam 3,de s lam 4],[de s lam 2,de s lam 3,de s lam 4,de s lam 5],[de s lam 3,de s lam 4,de s lam 5,de s lam 6]]=1*lam 1^3*lam 2^2*lam 3^1:=by
 have e:=@Jy (aT s lam 1 0) (aT s lam 2 0) (aT s lam 2 1) (aT s lam 3 0) (aT s lam 3 1) (aT s lam 3 2) (cN lam 1) (cN lam 2) (cN lam 3) (aT s lam 3 0) (aT s lam 3 1) (aT s lam 3 2) (aT s lam 3 3) _ _ _ _ _ _ _ _ _ _ _ _ _ _ _ _ (@rk s lam) rfl rfl rfl rfl (AU h) (eI h 2) (eI h 3) rfl (B1 h) (J3 h) (eU h 3) rfl (Nm h) (IQ h) (gC h 3);refine e.trans ?_;refine af AC ?_;refine(?_:1*lam 1*(1*lam 1*lam 2)*(1*lam 1*lam 2*lam 3)*_=_);grind
theorem MM(h:cN lam 4=0):eY 3 [[de s lam 0,de s lam 1,de s lam 2,de s lam 4],[de s lam 1,de s lam 2,de s lam 3,de s lam 5],[de s lam 2,de s lam 3,de s lam 4,de s lam 6],[de s lam 3,de s lam 4,de s lam 5,de s lam 7]]=1*lam 1^3*lam 2^2*lam 3^1*mn s 4:=by
 have e:=@Jy (aT s lam 1 0) (aT s lam 2 0) (aT s lam 2 1) (aT s lam 3 0) (aT s lam 3 1) (aT s lam 3 2) (cN lam 1) (cN lam 2) (cN lam 3) (aT s lam 4 0) (aT s lam 4 1) (aT s lam 4 2) (aT s lam 4 3) _ _ _ _ _ _ _ _ _ _ _ _ _ _ _ _ (@rk s lam) rfl rfl rfl rfl (AU h) (eI h 2) (eI h 4) rfl (B1 h) (J3 h) (eU h 4) rfl (Nm h) (IQ h) (gC h 4);refine e.trans ?_;refine af (xX 3) ?_;generalize mn s 4=z;refine(?_:1*lam 1*(1*lam 1*lam 2)*(1*lam 1*lam 2*lam 3)*_=_);grind
abbrev ww:bY:=cP (bF (bx 31)) 0
abbrev Dv:bY:=cP (bF ww) 0
abbrev DY:bY:=cP (bF ww) 1
theorem Mg(i:Int):kq i i=ag:=decide_eq_true rfl
def kr(R:Nat)(g:T)(s lam:Nat->Int)(i k:Nat):bk:=.fz (.dict (tZ g (mj R i)) ((bP (mj R i)).map λj=>.int (aT s lam i j*aT s lam k j*cN lam j) ((oh R i).getD j 0+(oh R k).getD j 0+(1+16*j))))
theorem XW{R:Nat}(hR:0<R)(h:cN lam R=0):jV s lam i k (mj R i)=aT s lam (i+k) 0:=by
 have e:jV s lam i k R=aT s lam (i+k) 0:=by
  cases R with
  |zero=>exact absurd hR (by decide)
  |succ n=>exact HV h i k
 rcases@EL R i with⟨p,q⟩|⟨p,q⟩
 ·have x:=@Nz s lam k _ _ (mP i) (R-(i+1))
  rw [Nat.add_sub_cancel' q]at x;exact af p (x.symm.trans e)
 ·exact af p e
theorem RE:bF ww=[Dv,DY]:=by left
theorem VW{R:Nat}(hR:0<R)(h:cN lam R=0)(ha:(run aR 97).ex bh σ Dv=ac (.next,σ1))(ht:(run aR 96).ts bh σ1 (bl DY)=ac (!kq (jV s lam i k (mj R i)) (aT s lam (i+k) 0),σ1)):b9 (run aR 97) bh (bF ww) σ=ac (.next,σ1):=by
 rw [XW hR h,Mg]at ht;exact af RE (cf ha (cf (hH (b:=am) (by left) ht (by left)) js))
theorem TG{R:Nat}(hR:R=3\/R=4):0<R:=by lia
noncomputable abbrev yn:List (Nat×Nat):=[(1,1),(1,2),(1,3),(1,4),(1,5),(1,6),(2,2),(2,3),(2,4),(2,5),(3,3),(3,4)]
def KC(c:Bool)(v:Nat->bk)(R:Nat)(g:T)(s lam:Nat->Int)(hv dv:bk)(ss:List ak)(sb cb tv:bk)(p:Nat×Nat)(cv:bk):aA:=kz v R g s lam hv dv ss sb cb tv (aN (.ow (jP R g lam)) (.fz (jP R g lam)) c) ((ao "i",.fz (bc p.1))::(ao "k",.fz (bc p.2))::aN [] [(ao "cut",cv)] c)
abbrev Cl(v:Nat->bk)(R:Nat)(g:T)(s lam:Nat->Int)(hv dv:bk)(ss:List ak)(sb cb tv:bk)(p:Nat×Nat):aA:=kz v R g s lam hv dv ss sb cb tv (.fz (jP R g lam)) [(ao "i",.fz (bc p.1)),(ao "k",.fz (bc p.2)),(ao "cut",kr R g s lam p.1 p.2)]
def Kv(c:Bool)(p:Nat×Nat)(R:Nat)(g:T)(v:Nat->bk)(s lam:Nat->Int)(hv dv:bk)(ss:List ak)(sb cb tv cv:bk):Option (cQ×aA):=(run aR 97).ex bh (KC c v R g s lam hv dv ss sb cb tv p cv) Dv
def NA(c:Bool)(p:Nat×Nat)(R:Nat)(g:T)(v:Nat->bk)(s lam:Nat->Int)(hv dv:bk)(ss:List ak)(sb cb tv cv:bk):Option (cQ×aA):=ac (.next,Cl v R g s lam hv dv ss sb cb tv p)
theorem We:([am,ag].map λc=>yn.map λp=>[3,4].map λR=>names.map (Kv c p R))=[am,ag].map λc=>yn.map λp=>[3,4].map λR=>names.map (NA c p R):=by left
def Nu(p:Nat×Nat)(R:Nat)(g:T)(v:Nat->bk)(s lam:Nat->Int)(hv dv:bk)(ss:List ak)(sb cb tv:bk):Option (Bool×aA):=(run aR 96).ts bh (Cl v R g s lam hv dv ss sb cb tv p) (bl DY)
def JW(p:Nat×Nat)(R:Nat)(g:T)(v:Nat->bk)(s lam:Nat->Int)(hv dv:bk)(ss:List ak)(sb cb tv:bk):Option (Bool×aA):=ac (!kq (jV s lam p.1 p.2 (mj R p.1)) (aT s lam (p.1+p.2) 0),Cl v R g s lam hv dv ss sb cb tv p)
theorem VZ:(yn.map λp=>[3,4].map (Nu p))=yn.map λp=>[3,4].map (JW p):=by left
theorem nV{R:Nat}(c:Bool)(hR:R=3\/R=4)(hg:g∈names)(h:cN lam R=0)(hp:p∈yn) (v hv dv sb cb tv ss):b9 (run aR 97) bh (bF ww) (KC c v R g s lam hv dv ss sb cb tv p cv)=ac (.next,Cl v R g s lam hv dv ss sb cb tv p):=by
 refine @VW _ _ _ s p.1 p.2 _ (by exact TG hR) h (?_:Kv c p R g v s lam hv dv ss sb cb tv cv=NA c p R g v s lam hv dv ss sb cb tv cv) (?_:Nu p R g v s lam hv dv ss sb cb tv=JW p R g v s lam hv dv ss sb cb tv)
 ·rw [jZ (jZ (jZ (jZ We (by cases c<;>decide)) hp) (wA hR)) hg]
 ·rw [jZ (jZ VZ hp) (wA hR)]
theorem Ef:bF (bx 31)=[ww]:=by left
theorem TB{g:T}{s lam:Nat->Int}{v:Nat->bk}{R:Nat}{hv dv sb cb tv:bk}{ss:List ak}(hR:R=3\/R=4)(hg:g∈names)(h:cN lam R=0):b9 (run aR 98) bh (bF (bx 31)) (kz v R g s lam hv dv ss sb cb tv (.ow (jP R g lam)) [(ao "i",.fz (bc 1))])=ac (.next,kz v R g s lam hv dv ss sb cb tv (.fz (jP R g lam)) [(ao "i",.fz (bc 1)),(ao "k",.fz (bc 6)),(ao "cut",kr R g s lam 1 6)]):=
 af Ef (cf (nG (d:=.rng 1 7) (l:=[bc 1,bc 2,bc 3,bc 4,bc 5,bc 6]) (σ1:=kz v R g s lam hv dv ss sb cb tv (.ow (jP R g lam)) [(ao "i",.fz (bc 1))]) (by left) (by left) (by left) (eX (by left) (nV am (s:=s) (p:=(1,1)) (cv:=hv) hR hg h (by decide) v hv dv sb cb tv ss) (eX (by left) (nV ag (s:=s) (p:=(1,2)) (cv:=kr R g s lam 1 1) hR hg h (by decide) v hv dv sb cb tv ss) (eX (by left) (nV ag (s:=s) (p:=(1,3)) (cv:=kr R g s lam 1 2) hR hg h (by decide) v hv dv sb cb tv ss) (eX (by left) (nV ag (s:=s) (p:=(1,4)) (cv:=kr R g s lam 1 3) hR hg h (by decide) v hv dv sb cb tv ss) (eX (by left) (nV ag (s:=s) (p:=(1,5)) (cv:=kr R g s lam 1 4) hR hg h (by decide) v hv dv sb cb tv ss) (eX (by left) (nV ag (s:=s) (p:=(1,6)) (cv:=kr R g s lam 1 5) hR hg h (by decide) v hv dv sb cb tv ss) (qO)))))))) js)
theorem SL{g:T}{s lam:Nat->Int}{v:Nat->bk}{R:Nat}{hv dv sb cb tv iv cv:bk}{ss:List ak}(hR:R=3\/R=4)(hg:g∈names)(h:cN lam R=0):b9 (run aR 98) bh (bF (bx 31)) (kz v R g s lam hv dv ss sb cb tv (.fz (jP R g lam)) [(ao "i",.fz (bc 2)),(ao "k",iv),(ao "cut",cv)])=ac (.next,kz v R g s lam hv dv ss sb cb tv (.fz (jP R g lam)) [(ao "i",.fz (bc 2)),(ao "k",.fz (bc 5)),(ao "cut",kr R g s lam 2 5)]):=
 af Ef (cf (nG (d:=.rng 2 6) (l:=[bc 2,bc 3,bc 4,bc 5]) (σ1:=kz v R g s lam hv dv ss sb cb tv (.fz (jP R g lam)) [(ao "i",.fz (bc 2)),(ao "k",iv),(ao "cut",cv)]) (by left) (by left) (by left) (eX (by left) (nV ag (s:=s) (p:=(2,2)) (cv:=cv) hR hg h (by decide) v hv dv sb cb tv ss) (eX (by left) (nV ag (s:=s) (p:=(2,3)) (cv:=kr R g s lam 2 2) hR hg h (by decide) v hv dv sb cb tv ss) (eX (by left) (nV ag (s:=s) (p:=(2,4)) (cv:=kr R g s lam 2 3) hR hg h (by decide) v hv dv sb cb tv ss) (eX (by left) (nV ag (s:=s) (p:=(2,5)) (cv:=kr R g s lam 2 4) hR hg h (by decide) v hv dv sb cb tv ss) (qO)))))) js)
theorem Qg{g:T}{s lam:Nat->Int}{v:Nat->bk}{R:Nat}{hv dv sb cb tv iv cv:bk}{ss:List ak}(hR:R=3\/R=4)(hg:g∈names)(h:cN lam R=0):b9 (run aR 98) bh (bF (bx 31)) (kz v R g s lam hv dv ss sb cb tv (.fz (jP R g lam)) [(ao "i",.fz (bc 3)),(ao "k",iv),(ao "cut",cv)])=ac (.next,kz v R g s lam hv dv ss sb cb tv (.fz (jP R g lam)) [(ao "i",.fz (bc 3)),(ao "k",.fz (bc 4)),(ao "cut",kr R g s lam 3 4)]):=
 af Ef (cf (nG (d:=.rng 3 5) (l:=[bc 3,bc 4]) (σ1:=kz v R g s lam hv dv ss sb cb tv (.fz (jP R g lam)) [(ao "i",.fz (bc 3)),(ao "k",iv),(ao "cut",cv)]) (by left) (by left) (by left) (eX (by left) (nV ag (s:=s) (p:=(3,3)) (cv:=cv) hR hg h (by decide) v hv dv sb cb tv ss) (eX (by left) (nV ag (s:=s) (p:=(3,4)) (cv:=kr R g s lam 3 3) hR hg h (by decide) v hv dv sb cb tv ss) (qO)))) js)
theorem Zr{g:T}{s lam:Nat->Int}{v:Nat->bk}{R:Nat}{hv dv sb cb tv:bk}{ss:List ak}(hR:R=3\/R=4)(hg:g∈names)(h:cN lam R=0):(run aR 99).ex bh (kz v R g s lam hv dv ss sb cb tv (.ow (jP R g lam)) []) (bx 31)=ac (.next,kz v R g s lam hv dv ss sb cb tv (.fz (jP R g lam)) [(ao "i",.fz (bc 3)),(ao "k",.fz (bc 4)),(ao "cut",kr R g s lam 3 4)]):=
 nG (d:=.rng 1 4) (l:=[bc 1,bc 2,bc 3]) (σ1:=kz v R g s lam hv dv ss sb cb tv (.ow (jP R g lam)) []) (by left) (by left) (by left) (eX (by left) (@TB _ s _ v _ hv dv sb cb tv ss hR hg h) (eX (by left) (@SL _ s _ v _ hv dv sb cb tv (.fz (bc 6)) (kr R g s lam 1 6) ss hR hg h) (eX (by left) (@Qg _ s _ v _ hv dv sb cb tv (.fz (bc 5)) (kr R g s lam 2 5) ss hR hg h) qO)))
abbrev kQ(i:Nat):bY:=cP (bF (bx 32)) i
noncomputable abbrev Eg(R:Nat)(s:Nat->Int):List ak:=(bP R).map λk=>.int (s k) 65
def Mi(s lam:Nat->Int)(m:Nat):ak:=.int (aT s lam m 0) (cK 1 (17*m))
def Br(s lam:Nat->Int)(n:Nat):bk:=.fz (.list ((bP n).map λi=>.list ((bP n).map λk=>Mi s lam (i+k))))
def BA(s lam:Nat->Int)(n:Nat):bk:=.fz (.list ((bP n).map λi=>.list ((bP n).map λk=>Mi s lam (i+k+aN 0 1 (bt (k+1) n)))))
abbrev AA(R:Nat)(v:Nat->bk)(g:T)(s lam:Nat->Int)(hv dv sb cb tv iv kv cv:bk)(r:aA):aA:=kz v R g s lam hv dv (Eg R s) sb cb tv (.fz (jP R g lam)) ((ao "i",iv)::(ao "k",kv)::(ao "cut",cv)::r)
def JU(q m:bk):aA:=[(ao "square",q),(ao "moved",m)]
theorem wT{lam:Nat->Int}(h:lam 3=0):cN lam 4=0:=by
 refine(?_:1*lam 1*lam 2*lam 3*lam 4=0);rw [h,tT,lA]
theorem Xh{lam:Nat->Int}(h:lam 3=0):cN lam 3=0:=by
 refine(?_:1*lam 1*lam 2*lam 3=0);rw [h,tT]
theorem ut{lam:Nat->Int}(h:lam 4=0):cN lam 4=0:=by
 refine(?_:cN lam 3*lam 4=0);rw [h,tT]
theorem I6(h:e=ac (!kq X Y,σ))(q:X=Y):e=ac (am,σ):=by rw [h,q,Mg];rfl
theorem rP{E:bQ}{sc:cC}{q:Option (cQ×aA)}{σ1:aA}{b6:List bY}:∀(aY:List bY)(σ:aA),b9 E sc aY σ=ac (.next,σ1)->b9 E sc b6 σ1=q->b9 E sc (aY++b6) σ=q
 |[],σ,h,k=>by cases h;exact k
 |a::l,σ,h,k=>by
  have h:(ob (E.ex sc σ a) λp=>aN (ac p) (b9 E sc l p.2) (oj p.1))=ac (.next,σ1):=h;refine(?_:(ob (E.ex sc σ a) λp=>aN (ac p) (b9 E sc (l++b6) p.2) (oj p.1))=q);refine aX h λp h1 h=>?_;refine af h1 (?_:(aN (ac p) (b9 E sc (l++b6) p.2) (oj p.1):Option (cQ×aA))=q);cases e:oj p.1 with
  |false=>rw [e]at h;cases h;cases e
  |true=>rw [e]at h;exact rP l p.2 h k
theorem Qy:bF (bx 32)=[kQ 0,kQ 1,kQ 2,kQ 3]++[kQ 4]:=by left
theorem QK{σ σ1:aA}{X Y X' Y':Int}(da:b9 (run aR 98) bh [kQ 0,kQ 1,kQ 2,kQ 3] σ=ac (.next,σ1))(db:(run aR 96).ts bh σ1 (cO (bl (kQ 4)) 0)=ac (!kq X Y,σ1))(dc:(run aR 96).ts bh σ1 (cO (bl (kQ 4)) 1)=ac (!kq X' Y',σ1))(q:X=Y)(q':X'=Y'):
  b9 (run aR 98) bh (bF (bx 32)) σ=ac (.next,σ1):=
 af Qy (rP _ _ da (cf (hH (b:=am) (by left) (Nf (by left) (I6 db q) (I6 dc q')) (by left)) js))
def W8(R:Nat)(lam:Nat->Int):Int:=aN (lam 3) 0 (bt R 3)
def qH(R n:Nat)(lam:Nat->Int):Int:=match n with|1=>1|2=>1*lam 1^1|3=>1*lam 1^2*lam 2^1|_=>1*lam 1^3*lam 2^2*W8 R lam^1
def Cu(R n:Nat):Nat:=match n with|1=>1|2=>18|3=>51|_=>aN 100 85 (bt R 3)
def FW(s lam:Nat->Int)(n:Nat):List (List Int):=(bP n).map λi=>(bP n).map λk=>de s lam (i+k)
def EB(s lam:Nat->Int)(n:Nat):List (List Int):=(bP n).map λi=>(bP n).map λk=>de s lam (i+k+aN 0 1 (bt (k+1) n))
def NF(n R:Nat)(v:Nat->bk)(g:T)(s lam:Nat->Int)(hv dv cb tv iv kv cv q m:bk):aA:=AA R v g s lam hv dv (aN (.fz (.list (n6 R lam))) (.ow (.list (n6 R lam))) (eK n 3)) cb tv iv kv cv ((ao "size",.fz (bc n))::aN (JU q m) [] (bt n 1))
def zm(n R:Nat)(v:Nat->bk)(g:T)(s lam:Nat->Int)(hv cb tv iv kv cv:bk):aA:=AA R v g s lam (aN (.fz (bc (n-1))) hv (bt n 1)) (.fz (.int (qH R n lam) (Cu R n))) (aN (.fz (.list (n6 R lam))) (.ow (.list (n6 R lam))) (bt n 1)) cb tv iv kv cv ((ao "size",.fz (bc n))::JU (Br s lam n) (BA s lam n))
def MU(n R:Nat)(v:Nat->bk)(g:T)(s lam:Nat->Int)(hv dv cb tv iv kv cv q m:bk):Option (cQ×aA):=b9 (run aR 98) bh [kQ 0,kQ 1,kQ 2,kQ 3] (NF n R v g s lam hv dv cb tv iv kv cv q m)
def L8(n R:Nat)(v:Nat->bk)(g:T)(s lam:Nat->Int)(hv dv cb tv iv kv cv q m:bk):Option (cQ×aA):=ac (.next,zm n R v g s lam hv cb tv iv kv cv)
def dS(j n R:Nat)(v:Nat->bk)(g:T)(s lam:Nat->Int)(hv cb tv iv kv cv:bk):Option (Bool×aA):=(run aR 96).ts bh (zm n R v g s lam hv cb tv iv kv cv) (cO (bl (kQ 4)) j)
def KR(j n R:Nat)(v:Nat->bk)(g:T)(s lam:Nat->Int)(hv cb tv iv kv cv:bk):Option (Bool×aA):=ac (!kq (eY (n-1) (gW (FW s lam n) (λO O=>EB s lam n) j)) (gW (qH R n lam) (λO O=>qH R n lam*mn s (aN R n (ig n R))) j),zm n R v g s lam hv cb tv iv kv cv)
theorem XU:([1,2,3,4].map λn=>[3,4].map (MU n))=[1,2,3,4].map λn=>[3,4].map (L8 n):=by left
theorem Rq:([0,1].map λj=>[1,2,3,4].map λn=>[3,4].map (dS j n))=[0,1].map λj=>[1,2,3,4].map λn=>[3,4].map (KR j n):=by left
theorem V9{n:Nat}{P:Nat->Prop}(h1:P 1)(h2:P 2)(h3:P 3)(h4:P 4)(hn:n∈[1,2,3,4]):P n:=by
 simp only [cI,oE,or_false]at hn;rcases hn with rfl|rfl|rfl|rfl<;>assumption
theorem QG{lam:Nat->Int}{R n:Nat}(hR:R=3\/R=4)(h:lam R=0)(hn:n∈[1,2,3,4]):eY (n-1) (FW s lam n)=qH R n lam/\eY (n-1) (EB s lam n)=qH R n lam*mn s (aN R n (ig n R)):=by
 rcases hR with rfl|rfl<;>refine V9 (P:=λn=>eY (n-1) (FW s lam n)=qH _ n lam/\eY (n-1) (EB s lam n)=qH _ n lam*mn s (aN _ n (ig n _))) ?_ ?_ ?_ ?_ hn
 ·exact⟨MA,KH⟩
 ·exact⟨JE (wT h),M4 (wT h)⟩
 ·exact⟨JM (wT h),HY (wT h)⟩
 ·exact⟨(Mp (wT h)).trans (show 1*lam 1^3*lam 2^2*lam 3^1=1*lam 1^3*lam 2^2*0^1 by rw [h]),(MM (wT h)).trans (show 1*lam 1^3*lam 2^2*lam 3^1*mn s 4=1*lam 1^3*lam 2^2*0^1*mn s 3 by rw [h];simp)⟩
 ·exact⟨MA,KH⟩
 ·exact⟨JE (ut h),M4 (ut h)⟩
 ·exact⟨JM (ut h),HY (ut h)⟩
 ·exact⟨Mp (ut h),MM (ut h)⟩
theorem AS{lam:Nat->Int}{R n:Nat}(hR:R=3\/R=4)(h:lam R=0)(hn:n∈[1,2,3,4])(hv dv q m:bk):b9 (run aR 98) bh (bF (bx 32)) (NF n R v g s lam hv dv cb tv iv kv cv q m)=ac (.next,zm n R v g s lam hv cb tv iv kv cv):=by
 have a:MU n R v g s lam hv dv cb tv iv kv cv q m=L8 n R v g s lam hv dv cb tv iv kv cv q m:=by rw [jZ (jZ XU hn) (wA hR)]
 have b:∀j,j∈[0,1]->dS j n R v g s lam hv cb tv iv kv cv=KR j n R v g s lam hv cb tv iv kv cv:=λj hj=>by rw [jZ (jZ (jZ Rq hj) hn) (wA hR)]
 have c:=QG (s:=s) hR h hn;exact QK a (b 0 (by decide)) (b 1 (by decide)) c.1 c.2
theorem VD{lam:Nat->Int}{R:Nat}(hR:R=3\/R=4)(h:lam R=0):∃σ',(run aR 99).ex bh (AA R v g s lam hv dv (.ow (.list (n6 R lam))) cb tv iv kv cv []) (bx 32)=ac (.next,σ')/\(run aR 99).ex bh σ' (bx 33)=ac (.ret (.bool ag),σ'):=
 ⟨zm 4 R v g s lam (.fz (bc 2)) cb tv iv kv cv,@nG _ _ _ _ (AA R v g s lam hv dv (.ow (.list (n6 R lam))) cb tv iv kv cv []) _ _ (.rng 1 5) [bc 1,bc 2,bc 3,bc 4] (by left) (by left) (by left) (eX (by left) (AS (v:=v) (g:=g) (s:=s) (cb:=cb) (tv:=tv) (iv:=iv) (kv:=kv) (cv:=cv) hR h (n:=1) (by decide) hv dv hv hv) (eX (by left) (AS (v:=v) (g:=g) (s:=s) (cb:=cb) (tv:=tv) (iv:=iv) (kv:=kv) (cv:=cv) hR h (n:=2) (by decide) hv (.fz (.int (qH R 1 lam) (Cu R 1))) (Br s lam 1) (BA s lam 1)) (eX (by left) (AS (v:=v) (g:=g) (s:=s) (cb:=cb) (tv:=tv) (iv:=iv) (kv:=kv) (cv:=cv) hR h (n:=3) (by decide) (.fz (bc 1)) (.fz (.int (qH R 2 lam) (Cu R 2))) (Br s lam 2) (BA s lam 2)) (eX (by left) (AS (v:=v) (g:=g) (s:=s) (cb:=cb) (tv:=tv) (iv:=iv) (kv:=kv) (cv:=cv) hR h (n:=4) (by decide) (.fz (bc 2)) (.fz (.int (qH R 3 lam) (Cu R 3))) (Br s lam 3) (BA s lam 3)) qO)))),by left⟩
def AN(R:Nat)(l:Nat->T)(k:Nat):Int:=aN 0 (te (fu l k).length) (eK k R)
def LP(dS dC dF:ak)(R h:Nat)(rb:Int)(g:T)(t l:Nat->T)(L A:List ak)(H:T)(b c d e f:ak)(i:Nat):bk:=match i with
 |0=>.fz dS
 |1=>.fz dC
 |2=>.fz (aV h 3)
 |3=>.fz (.int rb 4)
 |4=>.fz ju
 |5=>.fz (qX g)
 |6=>.fz (ic R t)
 |7=>.fz dF
 |8=>.fz (ic R l)
 |9=>.fz (.list L)
 |10=>.fz (.str H 512)
 |11=>.fz (.list A)
 |12=>.fz (.list (xj R g t l))
 |13=>.fz (.hd (.fn (n9 h)))
 |15=>.fz (.list (kf R g))
 |16=>.fz (.list (lg R g))
 |18=>.fz b
 |19=>.fz c
 |20=>.fz d
 |21=>.fz e
 |_=>.fz f
theorem UY{t l:Nat->T}{g:T}{R h:Nat}{rb:Int}{dS dC dF:ak}{L A:List ak}{H:T}(hR:R=3\/R=4){a b c d e f:ak}:IT dS dC dF R h rb g t l L A H a b c d e f []=sv (LP dS dC dF R h rb g t l L A H b c d e f) R g (.fz (bc (R-1))) (.fz a) (Eg R (oz h rb t)) (.ow (.list (n6 R (AN R l)))) (.ow (nA R g (oz h rb t) (AN R l))) []:=by
 rcases hR with rfl|rfl<;>left
abbrev Dx:List bY:=(cw "law").body.drop 25
theorem OY{R:Nat}(hg:g∈names)(hR:R=3\/R=4){lam:Nat->Int}(hl:lam R=0):∃σ',b9 (run aR 99) bh Dx (sv v R g hv dv (Eg R s) (.ow (.list (n6 R lam))) (.ow (nA R g s lam)) [])=ac (.ret (.bool ag),σ'):=by
 refine af (show Dx=[bx 25,bx 26,bx 27,bx 28]++([bx 29,bx 30]++[bx 31,bx 32,bx 33]) by left) ?_;have hd:cN lam R=0:=by
  rcases hR with rfl|rfl
  ·exact Xh hl
  ·exact ut hl
 refine aw (@VD v g s (.fz (bc (R-1))) dv (.fz (nA R g s lam)) (.fz (bc 6)) (.fz (bc 3)) (.fz (bc 4)) (kr R g s lam 3 4) _ _ hR hl) λσ' q=>ay q λd9 e5=>?_;exact⟨σ',rP _ _ (cf (Wi hR) (cf (Yk hR hg hl) (cf (Yi hR) (cf (Y8 hR hg) js)))) (rP _ _ (Sm hR hg) (cf (Zr hR hg hd) (cf d9 (mh e5))))⟩
theorem YE(R:Nat)(l:Nat->T):AN R l R=0:=by
 unfold AN;cases q:eK R R with
 |false=>rfl
 |true=>exact absurd (ll q) (by exact Nat.not_succ_le_self R)
theorem Tw(hi:B5 ds)(hl:bB ds.length lim=ag):(run aR 100).call 281 [.list ds]=ac (.bool ag):=by
 have hb:(cw "law").body=[bx 0,bx 1]++([bx 2,bx 3,bx 4]++([bx 5,bx 6,bx 7,bx 8,bx 9,bx 10,bx 11,bx 12,bx 13,bx 14,bx 15]++([bx 16,bx 17,bx 18,bx 19]++([bx 20,bx 21,bx 22,bx 23,bx 24]++Dx)))):=by left
 suffices∃σ',b9 (run aR 99) bh (cw "law").body [(ao "script",.fz (.list ds))]=ac (.ret (.bool ag),σ') by
  refine aw this λσ' e=>?_;clear this;exact sB (f:=cw "law") (σ:=[(ao "script",.fz (.list ds))]) rfl (by left) (by left) e rfl
 refine d4 (YM hi hl) λc0 c1 c2 n0 q2'=>bV q2' λn1 n2 x0=>?_;clear q2';refine aw (@X0 (.list ds) c0 c1 c2 n0 n1 n2) λR q1'=>ay q1' λhR x1=>?_;clear q1';refine bV (@TX (.list ds) c0 c1 c2 n0 n1 n2 R) λh rb q0'=>ay q0' λhh x2=>?_;clear q0';refine aw (@SZ (.list ds) c0 c1 c2 n0 n1 n2 R h rb) λg q2'=>ay q2' λhg x5=>?_;clear q2';have x6:=@TP (.list ds) c0 c1 c2 n0 n1 n2 h rb g _ hR;have I:ie (qP c1) (λh=>qw (jl c2 h)):=⟨λh=>⟨_,_,_,(sM c1 (3*h+0)).1,(sM c1 (3*h+1)).1,(sM c1 (3*h+2)).1,rfl⟩,λh=>W2 (wv c2 h).1⟩;have x7:=TN (c0:=c0) (c1:=c1) (c2:=c2) (n0:=n0) (n1:=n1) (n2:=n2) (dS:=.list ds) (h:=h) (rb:=rb) (g:=g) hR (t:=qP c1);have x8:=TW (c0:=c0) (c1:=c1) (c2:=c2) (n0:=n0) (n1:=n1) (n2:=n2) (dS:=.list ds) (h:=h) (rb:=rb) (g:=g) hR (t:=qP c1);generalize qP c1=t at x6 x7 x8 I;generalize(λh=>qw (jl c2 h))=l at x8 I;generalize(ak.list ((bP R).map λh=>aV (jl c2 h) 7))=dF at x7 x8;generalize dP c0 c1 c2 n0 n1 n2=dC at x0 x1 x2 x5 x6 x7 x8;have x9:=@OZ (.list ds) dC h rb g t dF l _ hR;have x10:=@Tj _ _ _ (.list ds) dC dF h rb _ I hg hR;have x11:=@X2 _ _ _ (.list ds) dC dF h rb ((eB R g t l).map d6) (gQ (eB R g t l)) _ I hg hR;have x12:=@Ub _ _ (.list ds) dC dF R h rb g t l ((eB R g t l).map d6) ((bP R).map (lF g t l)) (@VB _ t l _ hg hR);refine bV (@YR _ t l R hg) λBs N q1'=>dH q1' λhN hlen hB hs=>?_;clear q1';have x13:=@PN _ _ _ (.list ds) dC dF R h rb g t l _ _ _ (Nx (eB R g t l)) hs hB (by lia) (by lia);have x14:=@Sj (.list ds) dC dF R rb g t l ((eB R g t l).map d6) (gQ (eB R g t l)) ((bP R).map (lF g t l)) ((eB R g t l).map o8) _ hh;have x15:=@YN _ _ (.list ds) dC dF rb g ((eB R g t l).map d6) ((bP R).map (lF g t l)) ((eB R g t l).map o8) (gQ (eB R g t l)) _ _ I hR hh;have x16:=@Qu _ (.list ds) dC dF h rb t l ((eB R g t l).map d6) ((bP R).map (lF g t l)) (gQ (eB R g t l)) _ hg hR;have x20:=@Ps _ (.list ds) dC dF h rb t l ((eB R g t l).map d6) ((bP R).map (lF g t l)) (gQ (eB R g t l)) _ hg hR;have x21:=@QS _ _ (.list ds) dC dF rb g ((eB R g t l).map d6) ((bP R).map (lF g t l)) (gQ (eB R g t l)) _ _ I hh hR;have x22:=@Pz (.list ds) dC dF R h rb g t l ((eB R g t l).map d6) ((bP R).map (lF g t l)) (gQ (eB R g t l));have x23:=@XE _ _ (.list ds) dC dF rb g ((eB R g t l).map d6) ((bP R).map (lF g t l)) (gQ (eB R g t l)) _ _ I hh hR;refine d4 (@X9 _ _ _ (.list ds) dC dF rb ((eB R g t l).map d6) ((bP R).map (lF g t l)) (gQ (eB R g t l)) _ _ I hh hg hR) λa b c d q0'=>bV q0' λe f x24=>?_;clear q0';rw [UY hR]at x24;refine aw (OY (v:=LP (.list ds) dC dF R h rb g t l ((eB R g t l).map d6) ((bP R).map (lF g t l)) (gQ (eB R g t l)) b c d e f) (hv:=.fz (bc (R-1))) (dv:=.fz a) (s:=oz h rb t) hg hR (YE R l)) λσ' y=>?_;refine af hb ?_;exact⟨σ',rP _ _ (cf x0 (cf x1 js)) (rP _ _ x2 (rP _ _ (cf x5 (cf x6 (cf x7 (cf x8 (cf x9 (cf x10 (cf x11 (cf x12 (cf x13 (cf x14 (cf x15 js))))))))))) (rP _ _ x16 (rP _ _ (cf x20 (cf x21 (cf x22 (cf x23 (cf x24 js))))) y))))⟩
section
open Builtin Builtin.Re
theorem wN{m:fY}(h:m.outcome.isSome=ag):∀n,lj n m=m
 |0=>rfl
 |n+1=>by refine(?_:(if m.outcome.isSome then m else _)=m);exact af (if_pos h) rfl
theorem FQ{m:fY}(h:m.outcome.isSome=am)(n:Nat):lj (n+1) m=lj n m.step:=by
 refine(?_:(if m.outcome.isSome then m else _)=_);rw [if_neg (by rw [h];decide)]
theorem xl:∀(a b:Nat)(m:fY),lj (a+b) m=lj b (lj a m)
 |0,b,m=>by rw [iA];rfl
 |a+1,b,m=>by
  cases h:m.outcome.isSome with
  |true=>rw [wN h,wN h,wN h]
  |false=>rw [show a+1+b=(a+b)+1 by exact aax a 1 b,FQ h,FQ h,xl a b]
def bp(m m':fY)(k:Nat):Prop:=∃j,j<=k/\lj j m=m'
theorem bp.rfl:bp m m 0:=⟨0,bZ _,tN _⟩
theorem bp.trans(h:bp a b k)(g:bp b c l):bp a c (k+l):=by
 refine aw h λi q0'=>ay q0' λhi e=>?_;clear h q0';refine aw g λj q2'=>ay q2' λhj f=>?_;clear q2';exact⟨i+j,by exact xx hi hj,by rw [xl,e,f]⟩
theorem bp.one{m:fY}(h:m.outcome.isSome=am)(e:m.step=m'):bp m m' 1:=⟨1,bZ _,by rw [FQ h,e];exact tN _⟩
theorem bp.le{l:Nat}(h:bp a b k)(hl:k<=l):bp a b l:=by
 refine aw h λi q1'=>ay q1' λhi e=>?_;clear h q1';exact⟨i,by exact bM hi hl,e⟩
theorem L7{Q:fY->aC->Prop}:∀(t N:Nat)(m:fY),lj N m=e->e.outcome.isSome=ag->N<reTurnSteps*t->Q e s->aG M A (reDrive t m) Q E s
 |0,N,m,h,ho,hN,q=>absurd hN (by rw [aa6];exact Ol N)
 |t+1,N,m,h,ho,hN,q=>by
  unfold reDrive;cases h4:(lj reTurnSteps m).outcome.isSome with
  |true=>
   have:lj reTurnSteps m=e:=by
    by_cases c:N<=reTurnSteps
    ·have:=xl N (reTurnSteps-N) m
     rw [show N+(reTurnSteps-N)=reTurnSteps by exact Dq c,h,wN ho]at this;exact this
    ·have:=xl reTurnSteps (N-reTurnSteps) m
     rw [show reTurnSteps+(N-reTurnSteps)=N by lia,h,wN h4]at this;exact this.symm
   dsimp only;refine af this (af (if_pos ho) ?_);exact cq q
  |false=>
   dsimp only;refine af h4 (af (if_neg (by decide)) ?_);have hn:¬N<=reTurnSteps:=λc=>by
    have:=xl N (reTurnSteps-N) m;rw [Dq c,h,wN ho]at this;rw [this,ho]at h4;cases h4
   refine bv (wpAny_rule (L7 t (N-reTurnSteps) _ ?_ ho ?_ q))
   ·rw [<-xl,Dq (aa7 hn)];exact h
   ·exact Nat.sub_lt_right_of_lt_add (aa7 hn) hN
theorem xS{Q:Option fY->aC->Prop}(h:bp m e N)(hN:N<2^65)(he:(e.outcome=ac .matched/\o=ac e)\/(e.outcome=ac .failed/\o=ae))(q:Q o s):aG M A (reRunToEnd m) Q E s:=by
 refine aw h λj q0'=>ay q0' λhj r=>?_;clear h q0';have ho:e.outcome.isSome=ag:=by rcases he with⟨h,_⟩|⟨h,_⟩<;>refine af h ?_<;>rfl
 unfold reRunToEnd;refine bv (L7 (2^64) j m r ho (by refine(?_:j<4*2^64);lia) ?_);refine bv (wpAny_forIn_list _ (λO O s'=>s'=s) _ ?_ ?_ _ _ rfl)
 ·rintro x rest b s' rfl
  by_cases c:e.seen.has x=ag
  ·refine af (if_pos c) ?_
   repeat (any_goals (first|rfl|wp_step))
  ·refine af (if_neg c) ?_
   repeat (any_goals (first|rfl|wp_step))
 ·rintro b s' rfl
  rcases he with⟨h,rfl⟩|⟨h,rfl⟩
  ·refine af h ?_;exact cq q
  ·refine af h ?_;exact cq q
theorem JN:qs table "re.Pattern.search"=ac fO.«re.Pattern.search»:=si (by left)
theorem I5:qs table "re.Pattern.fullmatch"=ac fO.«re.Pattern.fullmatch»:=si (by left)
theorem E7{M:lq}{A:cH}{E:aF->aC->Prop}{s:aC}{id f:String}{Q:ReTarget->aC->Prop}{a ta:bw}{o ot:aJ}{vs:Array aF}{cs:List Int}{n:Nat}{x:T}{t:fh}{gr kd:Nat}(ho:s.heap.get? a=ac o)(hd:o.data=.fields vs)(h5:vs.getD 5 .none=.ref ta)(h2:vs.getD 2 .none=bO gr)(h6:vs.getD 6 .none=bO 0)(hot:s.heap.get? ta=ac ot)(hdt:ot.data=.seq (cs.map bO).toArray n)(hx:x.length<=lim)(q:Q ⟨.ref a,.str (toS x) t,(cs.map dM).toArray,(toS x).cps,0,gr,0,(toS x).cps.size⟩ s):aG M A (reTarget id f ⟨[.ref a,.str (toS x) t],[]⟩) Q E s:=by
 unfold reTarget
 repeat (any_goals (first|assumption|wp_step))
 rw [hd]
 repeat (any_goals (first|assumption|wp_step))
 rw [h6,if_neg (by decide)]
 repeat (any_goals (first|assumption|wp_step))
 rw [h5]
 repeat (any_goals (first|assumption|wp_step))
 rw [hdt];refine cq (cq (cq ?_));have e1:sk (λx:Int=>x.toNat) (sk reRawOf ((ac (cs.map bO).toArray).getD #[]))=(cs.map dM).toArray:=by
  refine(?_:sk (λx:Int=>x.toNat) (sk reRawOf (cs.map bO).toArray)=_);rw [Dl,Dl,jB,jB];rfl
 refine af e1 (af h2 ?_);have e2:(λi:Int=>OM i.toNat (toS x).cps.size) (2^63-1)=(toS x).cps.size:=by
  refine(?_:OM ((2:Int)^63-1).toNat (toS x).cps.size=_);have:(toS x).cps.size=x.length:=by simp [toS]
  refine af this ?_;exact zL (bM hx (by decide))
 have e3:(λi:Int=>OM i.toNat (toS x).cps.size) 0=0:=Nat.zero_min _;refine af e2 (af e3 ?_);exact q
set_option backward.match.sparseCases false
noncomputable def fP:List Nat:=[14,4,0,1,4294967295,6,0,24,9,0,4294967295,13,4,8,12,0,1,17,0,24,19,1,4294967295,13,14,21,9,0,671092736,0,0,0,0,0,0,8,12,0,1,17,1,1]
noncomputable def cz:List Nat:=[14,4,0,3,4294967295,6,0,24,9,0,4294967295,13,4,8,12,0,1,16,61,24,9,0,4294967295,13,4,8,12,0,1,16,34,17,0,24,12,0,4294967295,13,7,21,16,34,16,92,0,1,23,19,0,4294967295,16,92,2,24,12,0,4294967295,13,7,21,16,34,16,92,0,1,18,17,1,16,34,1]
noncomputable def gz:List Nat:=[14,4,0,1,4294967295,6,0,24,9,0,4294967295,13,4,8,12,0,1,16,61,24,9,0,4294967295,13,4,8,12,0,1,17,0,24,14,0,4294967295,13,9,21,8,12,16,59,16,44,0,1,17,1,1]
noncomputable def mW:List Nat:=[14,8,1,2,2,1,1,92,0,16,92,17,0,2,17,1,1]
noncomputable def rm:List Nat:=[14,4,0,1,4294967295,24,16,1,4294967295,13,11,9,0,67071226,3355443198,1476395007,0,0,0,0,0,1,1]
noncomputable def i5:List Nat:=[14,9,4,1,1,16,34,16,92,0,17,0,13,6,16,34,16,92,0,17,1,1]
noncomputable def jt:List Nat:=[14,4,0,0,4294967295,6,0,24,13,0,4294967295,13,8,16,61,8,12,16,59,0,1,1]
def qN(p:fM):List Nat:=@fM.rec (λO=>List Nat) fP cz gz mW rm i5 jt tj p
def q5(p:fM):Nat:=@fM.rec (λO=>Nat) 1 1 1 1 0 1 0 0 p
def wo(p:fM):Nat:=rQ p-1
noncomputable def Ha(o:aJ):Option (aF×aF×aF):=match o.data with|.fields vs=>ac (vs.getD 2 .none,vs.getD 5 .none,vs.getD 6 .none)|_=>ae
theorem JP(P:aM)(p:fM):((dJ P).lookup (rQ p)).map (λo=>(o.cls,o.dict,Ha o))=ac (.type "re.Pattern",ae,ac (bO (q5 p),.ref (wo p),bO 0)):=by induction p using fM.casesOn<;>left
theorem Vk(P:aM)(p:fM):((dJ P).lookup (wo p)).map (λo=>o.data)=ac (.seq (((qN p).map λn:Nat=>(n:Int)).map bO).toArray 0):=by induction p using fM.casesOn<;>left
set_option backward.match.sparseCases true
noncomputable abbrev mk(c:List Nat)(x:T)(wt:Bool)(last:Nat)(must:Bool)(start pc pos handed:Nat)(ob:Bool)(marks:Array (Option Nat))(lm li:Int)(loops:Array lD)(inner:Option Nat)(fr:List iB)(w:Nat)(ans:Option Bool)(sn:eP):fY:=
 {code:=c.toArray,text:=x.toArray,lim:=x.length,start,lastStart:=last,wholeText:=wt,mustAdvance:=must,pc,pos,handed,outermost:=ob,marks,lastmark:=lm,lastindex:=li,loops,inner,frames:=fr,weight:=w,answer:=ans,seen:=sn,outcome:=ae}
noncomputable abbrev bH(pc s:Nat)(ob:Bool):iB:={wait:=.nextStart,pc,pos:=s,outermost:=ob}
structure s8(c:List Nat):Prop where
 c0:c.toArray.getD 0 0=14
 c2:(c.toArray.getD 2 0==4)=am
 c5:c.toArray.getD 5 0=6
 c6:c.toArray.getD 6 0=0
 n:5<c.toArray.size
theorem sx{c:List Nat}{x:T}{wt must ob:Bool}{last start pc pos handed w:Nat}{marks:Array (Option Nat)}{lm li:Int}{loops:Array lD}{inner:Option Nat}{sn:eP}:bp (mk c x wt last must start pc pos handed ob marks lm li loops inner [] w (ac am) sn) {mk c x wt last must start pc pos handed ob marks lm li loops inner [] w (ac am) sn with outcome:=ac .failed} 1:=bp.one rfl rfl
theorem Bl{c:List Nat}{x:T}{wt must ob:Bool}{last start pc pos handed w:Nat}{marks:Array (Option Nat)}{lm li:Int}{loops:Array lD}{inner:Option Nat}{sn:eP}:bp (mk c x wt last must start pc pos handed ob marks lm li loops inner [] w (ac ag) sn) {mk c x wt last must start pc pos handed ob marks lm li loops inner [] w (ac ag) sn with outcome:=ac .matched} 1:=bp.one rfl rfl
theorem WF(h:s8 c){m:fY}(e:m.code=c.toArray):m.hasFirstSet=am:=by
 unfold Sre.M.hasFirstSet;rw [e,h.c2,OD]
theorem Lq{c:List Nat}{x:T}{wt must ob:Bool}{last start handed w:Nat}{marks:Array (Option Nat)}{lm li:Int}{loops:Array lD}{inner:Option Nat}{fr:List iB}{sn:eP}(h:s8 c){s:Nat}:∃sn',(mk c x wt last must start 5 (s+1) handed ob marks lm li loops inner fr w ae sn).step=mk c x wt last must start 5 (s+1) handed ob marks lm li loops inner fr w (ac am) sn':=by
 refine⟨(sn.add 6).add 43,?_⟩;unfold tU;dsimp only;refine af (if_neg (by decide)) (af (if_pos h.n) ?_);unfold xO tV;dsimp only;refine af (show c.toArray.getD (5+0) 0=6 from h.c5) (af (show c.toArray.getD (5+1) 0=0 from h.c6) ?_);left
theorem VP{c:List Nat}{x:T}{wt must ob:Bool}{last start pc pos handed:Nat}{marks:Array (Option Nat)}{lm li:Int}{loops:Array lD}{inner:Option Nat}{sn:eP}(h:s8 c){s:Nat}(hs:s<last):(mk c x wt last must start pc pos handed ob marks lm li loops inner [bH 5 s k'] 1 (ac am) sn).step=mk c x wt last am (s+1) 5 (s+1) (s+1) am marks (-1) (-1) loops inner [bH 5 (s+1) am] 1 ae sn:=by
 have e:(mk c x wt last must start pc pos handed ob marks lm li loops inner [bH 5 s k'] 1 (ac am) sn).step=if s<last then(mk c x wt last am start 5 s handed k' marks lm li loops inner [] 0 ae sn).attemptFrom (s+1) am else(mk c x wt last must start 5 s handed k' marks lm li loops inner [] 0 ae sn).say am:=by left
 refine af e (af (if_pos hs) ?_);unfold Sre.M.attemptFrom;refine af (WF h (by rfl)) ?_;left
theorem Xb{c:List Nat}{x:T}{wt must ob:Bool}{last start pc pos handed:Nat}{marks:Array (Option Nat)}{lm li:Int}{loops:Array lD}{inner:Option Nat}{sn:eP}{s:Nat}(hs:¬s<last):(mk c x wt last must start pc pos handed ob marks lm li loops inner [bH 5 s k'] 1 (ac am) sn).step=mk c x wt last must start 5 s handed k' marks lm li loops inner [] 0 (ac am) sn:=by
 have e:(mk c x wt last must start pc pos handed ob marks lm li loops inner [bH 5 s k'] 1 (ac am) sn).step=if s<last then(mk c x wt last am start 5 s handed k' marks lm li loops inner [] 0 ae sn).attemptFrom (s+1) am else(mk c x wt last must start 5 s handed k' marks lm li loops inner [] 0 ae sn).say am:=by left
 refine af e (af (if_neg hs) ?_);rfl
theorem wO{c:List Nat}{x:T}{wt:Bool}{last:Nat}{marks:Array (Option Nat)}{loops:Array lD}{inner:Option Nat}(h:s8 c):∀(d s:Nat)(must:Bool)(start pc pos handed:Nat)(ob:Bool)(lm li:Int)(k':Bool)(sn:eP),s+d=last\/(last<s/\d=0)->∃e,bp (mk c x wt last must start pc pos handed ob marks lm li loops inner [bH 5 s k'] 1 (ac am) sn) e (2*d+2)/\e.outcome=ac .failed
 |0,s,must,start,pc,pos,handed,ob,lm,li,k',sn,hd=>⟨_,(bp.one rfl (Xb (hd.elim (λe=>e▸vt _) λh=>Nat.not_lt_of_gt h.1))).trans sx,rfl⟩
 |d+1,s,must,start,pc,pos,handed,ob,lm,li,k',sn,hd=>by
  have a:=bp.one (m:=mk c x wt last must start pc pos handed ob marks lm li loops inner [bH 5 s k'] 1 (ac am) sn) rfl (VP h (hd.elim (λe=>e▸aa8 (oF _)) λh=>nomatch h.2));refine aw (Lq (c:=c) (x:=x) (wt:=wt) (last:=last) (must:=am) (start:=s+1) (handed:=s+1) (ob:=am) (marks:=marks) (lm:=-1) (li:=-1) (loops:=loops) (inner:=inner) (fr:=[bH 5 (s+1) am]) (w:=1) (sn:=sn) (s:=s) h) λsn' b=>?_;have zq:=(@wO c x wt last marks loops inner h d (s+1) am (s+1) 5 (s+1) (s+1) am (-1) (-1) am sn' (hd.elim (λe=>.inl (by rw [<-e,nI,kB 1])) λh=>nomatch h.2));refine aw zq λe q1'=>ay q1' λf g=>?_;clear zq q1';exact⟨e,((a.trans (bp.one rfl b)).trans f).le (by lia),g⟩
noncomputable def uu(c:List Nat)(i ch:Nat)(sn:eP):eP:=match oK c.toArray i ch sn with|.ok p=>p.2|.error _=>sn
def Acc(c:List Nat)(i:Nat)(P:Nat->Bool):Prop:=∀sn,(bP 128).map (λch=>oK c.toArray i ch sn)=(bP 128).map λch=>.ok (P ch,uu c i ch sn)
theorem Acc.at(h:Acc c i P){ch:Nat}(hc:ch<128)(sn:eP):oK c.toArray i ch sn=.ok (P ch,uu c i ch sn):=vQ.mp (h sn) ch (qt.mpr hc)
theorem J4(h:Acc c i P):∀(suf pre:T)(f:Nat)(sn:eP),b8 suf->∃sn',HQ c.toArray (pre++suf).toArray i suf.length pre.length f sn=.ok (f+bE P suf,sn')
 |[],pre,f,sn,_=>⟨sn,rfl⟩
 |a::r,pre,f,sn,hs=>by
  have e:(pre++a::r).toArray.getD pre.length 0=a:=by rw [q9,l6,List.getElem?_append_right (bZ _),Nat.sub_self];rfl
  refine(?_:∃sn',(oK c.toArray i ((pre++a::r).toArray.getD pre.length 0) sn).bind (λp=>if p.1 then HQ c.toArray (pre++a::r).toArray i r.length (pre.length+1) (f+1) p.2 else pure (f,p.2))=.ok (f+ @aN (λO=>Nat) 0 (bE P r+1) (P a),sn'));rw [e,h.at (hs a ck)];refine(?_:∃sn',(if P a then HQ c.toArray (pre++a::r).toArray i r.length (pre.length+1) (f+1) (uu c i a sn)else pure (f,uu c i a sn))=.ok (f+ @aN (λO=>Nat) 0 (bE P r+1) (P a),sn'));cases P a with
  |false=>exact⟨_,rfl⟩
  |true=>
   refine aw (J4 h r (pre++[a]) (f+1) (uu c i a sn) λd hd=>hs d (cW _ hd)) λsn' q=>?_;rw [ja,gx]at q;exact⟨sn',q.trans (by refine(?_:_=r7 (f+(bE P r+1),sn'));exact af (show f+1+bE P r=f+(bE P r+1) by exact Dh f (bE P r)) rfl)⟩
theorem FZ{p:Nat}(h:Acc c i P)(hx:b8 x)(hp:p<=x.length)(sn:eP):∃sn',HQ c.toArray x.toArray i (x.length-p) p 0 sn=.ok (bE P (x.drop p),sn'):=by
 refine aw (J4 h (x.drop p) (x.take p) 0 sn λd hd=>hx d (xC hd)) λsn' q=>?_;rw [List.take_append_drop,jA,Hp,NR hp,iA]at q;exact⟨sn',q⟩
theorem om(P:Nat->Bool):∀l:T,bE P l<=l.length
 |[]=>bZ _
 |a::r=>by
  have:=om P r;refine(?_:@aN (λO=>Nat) 0 (bE P r+1) (P a)<=r.length+1);cases P a
  ·exact eG _
  ·refine(?_:bE P r+1<=r.length+1);exact sg this
structure mw(c:List Nat)(pc skip least it:Nat)(P:Nat->Bool):Prop where
 c0:c.toArray.getD pc 0=24
 c1:c.toArray.getD (pc+1) 0=skip
 c2:c.toArray.getD (pc+2) 0=least
 c3:c.toArray.getD (pc+3) 0=4294967295
 n:pc<c.toArray.size
 a:Acc c (pc+4) P
noncomputable abbrev cu(pc pos:Nat)(ob:Bool)(n:Nat)(kp:HR):iB:={wait:=.giveBack,pc,pos,outermost:=ob,count:=(n:Int),kept:=kp}
theorem Nh{l n p k:Nat}(h1:l<=k)(h2:k<=n-p)(hp:p<=n):¬(l:Int)>(n:Int)-(p:Int):=by omega
theorem lH{c:List Nat}{x:T}{wt must ob:Bool}{last start pc pos handed w:Nat}{marks:Array (Option Nat)}{lm li:Int}{loops:Array lD}{inner:Option Nat}{fr:List iB}{sn:eP}{skip least it:Nat}{P:Nat->Bool}(h:mw c pc skip least it P)(hx:b8 x)(hl:x.length<=lim)(hp:pos<=x.length)(hn:least<=bE P (x.drop pos))(hw:w+1<=16777216)(hi:inner=ae):∃sn',(mk c x wt last must start pc pos handed ob marks lm li loops inner fr w ae sn).step=mk c x wt last must start (pc+1+skip) (pos+bE P (x.drop pos)) (pos+bE P (x.drop pos)) ob marks lm li loops inner (cu pc (pos+bE P (x.drop pos)) ob (bE P (x.drop pos)) {lastmark:=lm,lastindex:=li}::fr) (w+1) ae sn':=by
 subst hi;refine aw (FZ h.a hx hp ((sn.add 24).add (c.toArray.getD (pc+4) 0))) λsn' q=>?_;have hle:=om P (x.drop pos);rw [jA]at hle;refine⟨sn',?_⟩;unfold tU;dsimp only;refine af (if_neg (by decide)) (af (if_pos h.n) ?_);unfold xO tV;dsimp only;refine af (show c.toArray.getD (pc+0) 0=24 from h.c0) (af (show vS[24]? =ac .REPEAT_ONE from rfl) ?_);dsimp only;refine af h.c2 (af h.c3 (af (if_neg (Nh hn hle hp)) ?_));have em:min 4294967295 ((x.length:Int)-(pos:Int)).toNat=x.length-pos:=by
  have:((x.length:Int)-(pos:Int)).toNat=x.length-pos:=by exact ON (fF x) pos
  refine af this ?_;exact zL (bM (oG _ _) (bM hl (by decide)))
 refine af (if_neg (by decide)) (af em (af q ?_));dsimp only;refine af (if_neg (by simp_all)) ?_;unfold aa9 aba tV;dsimp only;refine af h.c1 ?_;have ew:¬w+1+0>16777216:=by exact(λ{a b}=>vL.mpr) hw
 exact(if_neg ew)
noncomputable abbrev dR:eP:=({}:eP).add 14
theorem PZ:s8 fP:=⟨by left,by left,by left,by left,by decide+kernel⟩
theorem Is:s8 cz:=⟨by left,by left,by left,by left,by decide+kernel⟩
theorem TS:s8 gz:=⟨by left,by left,by left,by left,by decide+kernel⟩
theorem Ii:s8 jt:=⟨by left,by left,by left,by left,by decide+kernel⟩
theorem Jq:mw fP 7 9 0 0 cG:=⟨by left,by left,by left,by left,by decide+kernel,λsn=>by left⟩
theorem Ia:mw fP 19 19 1 0 sK:=⟨by left,by left,by left,by left,by decide+kernel,λsn=>by left⟩
theorem tA{x:T}{c:List Nat}{least:Nat}(e:eM c.toArray x.toArray gr 0 x.length am=if(az (0>x.length)||decide (x.length-0<least))=ag then mk c x am 0 am 0 5 0 0 ag (cX (2*gr) ae) (-1) (-1) #[] ae [] 0 (ac am) dR else mk c x am last am 0 5 0 0 ag (cX (2*gr) ae) (-1) (-1) #[] ae [bH 5 0 ag] 1 ae dR)(h:least<=x.length):eM c.toArray x.toArray gr 0 x.length am=mk c x am last am 0 5 0 0 ag (cX (2*gr) ae) (-1) (-1) #[] ae [bH 5 0 ag] 1 ae dR:=by
 rw [e,if_neg (by rw [vM,decide_eq_true_iff,decide_eq_true_iff];simp_all)]
theorem CT{x:T}{c:List Nat}{least:Nat}(e:eM c.toArray x.toArray gr 0 x.length am=if(az (0>x.length)||decide (x.length-0<least))=ag then mk c x am 0 am 0 5 0 0 ag (cX (2*gr) ae) (-1) (-1) #[] ae [] 0 (ac am) dR else mk c x am last am 0 5 0 0 ag (cX (2*gr) ae) (-1) (-1) #[] ae [bH 5 0 ag] 1 ae dR)(h:x.length<least):∃e,bp (eM c.toArray x.toArray gr 0 x.length am) e 1/\e.outcome=ac .failed:=by
 rw [e,if_pos (by rw [vM,decide_eq_true_iff,decide_eq_true_iff];exact Or.inr h)];exact⟨_,sx,rfl⟩
theorem Gi{x:T}:eM fP.toArray x.toArray 1 0 x.length am=if(az (0>x.length)||decide (x.length-0<1))=ag then mk fP x am 0 am 0 5 0 0 ag (cX (2*1) ae) (-1) (-1) #[] ae [] 0 (ac am) dR else mk fP x am x.length am 0 5 0 0 ag (cX (2*1) ae) (-1) (-1) #[] ae [bH 5 0 ag] 1 ae dR:=by left
structure xW(e:fY)(q:Nat)(marks:Array (Option Nat))(lm li:Int):Prop where
 o:e.outcome=ac .matched
 s:e.start=0
 h:e.handed=q
 m:e.marks=marks
 lm:e.lastmark=lm
 li:e.lastindex=li
theorem P5(hx:b8 x)(hl:x.length<=lim){k j:Nat}(aB:bE cG x=k)(hj:bE sK (x.drop k)=j+1):∃e,bp (eM fP.toArray x.toArray 1 0 x.length am) e 20/\xW e (k+(j+1)) #[ac k,ac (k+(j+1))] 1 1:=by
 have kx:k<=x.length:=aB▸om _ _;have jx:=om sK (x.drop k);rw [hj,jA]at jx;refine af (tA Gi (by lia)) ?_;have a1:(mk fP x am x.length am 0 5 0 0 ag (cX (2*1) ae) (-1) (-1) #[] ae [bH 5 0 ag] 1 ae dR).step=mk fP x am x.length am 0 7 0 0 ag (cX (2*1) ae) (-1) (-1) #[] ae [bH 5 0 ag] 1 ae ((dR.add 6).add 43):=by left
 have zq:=(@lH fP x am am ag x.length 0 7 0 0 1 (cX (2*1) ae) (-1) (-1) (#[]) ae [bH 5 0 ag] ((dR.add 6).add 43) _ _ _ _ Jq hx hl (eG _) (eG _) (by decide) rfl);refine aw zq λs2 a2=>?_;clear zq;rw [nQ,aB,iA]at a2;have a3:(mk fP x am x.length am 0 (7+1+9) k k ag (cX (2*1) ae) (-1) (-1) #[] ae (cu 7 k ag k {lastmark:=-1,lastindex:=-1}::[bH 5 0 ag]) (1+1) ae s2).step=mk fP x am x.length am 0 19 k k ag #[ac k,ae] 0 (-1) #[] ae (cu 7 k ag k {lastmark:=-1,lastindex:=-1}::[bH 5 0 ag]) 2 ae (s2.add 17):=by left
 have zq:=(@lH fP x am am ag x.length 0 19 k k 2 (#[ac k,ae]) 0 (-1) (#[]) ae (cu 7 k ag k {lastmark:=-1,lastindex:=-1}::[bH 5 0 ag]) (s2.add 17) _ _ _ _ Ia hx hl kx (by refine af hj ?_;exact oF _) (by decide) rfl);refine aw zq λs4 a4=>?_;clear zq;rw [hj]at a4;have a5:(mk fP x am x.length am 0 (19+1+19) (k+(j+1)) (k+(j+1)) ag #[ac k,ae] 0 (-1) #[] ae (cu 19 (k+(j+1)) ag (j+1) {lastmark:=0,lastindex:=-1}::cu 7 k ag k {lastmark:=-1,lastindex:=-1}::[bH 5 0 ag]) (2+1) ae s4).step=mk fP x am x.length am 0 41 (k+(j+1)) (k+(j+1)) ag #[ac k,ac (k+(j+1))] 1 1 #[] ae (cu 19 (k+(j+1)) ag (j+1) {lastmark:=0,lastindex:=-1}::cu 7 k ag k {lastmark:=-1,lastindex:=-1}::[bH 5 0 ag]) 3 ae (s4.add 17):=by left
 have a6:(mk fP x am x.length am 0 41 (k+(j+1)) (k+(j+1)) ag #[ac k,ac (k+(j+1))] 1 1 #[] ae (cu 19 (k+(j+1)) ag (j+1) {lastmark:=0,lastindex:=-1}::cu 7 k ag k {lastmark:=-1,lastindex:=-1}::[bH 5 0 ag]) 3 ae (s4.add 17)).step=mk fP x am x.length am 0 41 (k+(j+1)) (k+(j+1)) ag #[ac k,ac (k+(j+1))] 1 1 #[] ae (cu 19 (k+(j+1)) ag (j+1) {lastmark:=0,lastindex:=-1}::cu 7 k ag k {lastmark:=-1,lastindex:=-1}::[bH 5 0 ag]) 3 (ac ag) ((s4.add 17).add 1):=by left
 have a7:(mk fP x am x.length am 0 41 (k+(j+1)) (k+(j+1)) ag #[ac k,ac (k+(j+1))] 1 1 #[] ae (cu 19 (k+(j+1)) ag (j+1) {lastmark:=0,lastindex:=-1}::cu 7 k ag k {lastmark:=-1,lastindex:=-1}::[bH 5 0 ag]) 3 (ac ag) ((s4.add 17).add 1)).step=mk fP x am x.length am 0 19 (k+(j+1)) (k+(j+1)) ag #[ac k,ac (k+(j+1))] 1 1 #[] ae (cu 7 k ag k {lastmark:=-1,lastindex:=-1}::[bH 5 0 ag]) 2 (ac ag) ((s4.add 17).add 1):=by left
 have a8:(mk fP x am x.length am 0 19 (k+(j+1)) (k+(j+1)) ag #[ac k,ac (k+(j+1))] 1 1 #[] ae (cu 7 k ag k {lastmark:=-1,lastindex:=-1}::[bH 5 0 ag]) 2 (ac ag) ((s4.add 17).add 1)).step=mk fP x am x.length am 0 7 k (k+(j+1)) ag #[ac k,ac (k+(j+1))] 1 1 #[] ae [bH 5 0 ag] 1 (ac ag) ((s4.add 17).add 1):=by left
 have a9:(mk fP x am x.length am 0 7 k (k+(j+1)) ag #[ac k,ac (k+(j+1))] 1 1 #[] ae [bH 5 0 ag] 1 (ac ag) ((s4.add 17).add 1)).step=mk fP x am x.length am 0 5 0 (k+(j+1)) ag #[ac k,ac (k+(j+1))] 1 1 #[] ae [] 0 (ac ag) ((s4.add 17).add 1):=by left
 exact⟨_,((bp.one rfl a1).trans ((bp.one rfl a2).trans ((bp.one rfl a3).trans ((bp.one rfl a4).trans ((bp.one rfl a5).trans ((bp.one rfl a6).trans ((bp.one rfl a7).trans ((bp.one rfl a8).trans ((bp.one rfl a9).trans Bl))))))))).le (by decide),⟨rfl,rfl,rfl,rfl,rfl,rfl⟩⟩
theorem Ny{c:List Nat}{x:T}{wt must ob:Bool}{last start pc pos handed w:Nat}{marks:Array (Option Nat)}{lm li:Int}{loops:Array lD}{inner:Option Nat}{fr:List iB}{sn:eP}{skip least it:Nat}{P:Nat->Bool}(h:mw c pc skip least it P)(hx:b8 x)(hl:x.length<=lim)(hp:pos<=x.length)(hn:bE P (x.drop pos)<least):∃sn',(mk c x wt last must start pc pos handed ob marks lm li loops inner fr w ae sn).step=mk c x wt last must start pc pos handed ob marks lm li loops inner fr w (ac am) sn':=by
 refine aw (FZ h.a hx hp ((sn.add 24).add (c.toArray.getD (pc+4) 0))) λsn' q=>?_;have em:min 4294967295 ((x.length:Int)-(pos:Int)).toNat=x.length-pos:=by
  have:((x.length:Int)-(pos:Int)).toNat=x.length-pos:=by exact ON (fF x) pos
  refine af this ?_;exact zL (bM (oG _ _) (bM hl (by decide)))
 by_cases hr:(least:Int)>(x.length:Int)-(pos:Int)
 ·refine⟨sn.add 24,?_⟩
  unfold tU;dsimp only;refine af (if_neg (by decide)) (af (if_pos h.n) ?_);unfold xO tV;dsimp only;refine af (show c.toArray.getD (pc+0) 0=24 from h.c0) (af (show vS[24]? =ac .REPEAT_ONE from rfl) ?_);dsimp only;refine af h.c2 (af (if_pos hr) ?_);rfl
 ·refine⟨sn',?_⟩
  unfold tU;dsimp only;refine af (if_neg (by decide)) (af (if_pos h.n) ?_);unfold xO tV;dsimp only;refine af (show c.toArray.getD (pc+0) 0=24 from h.c0) (af (show vS[24]? =ac .REPEAT_ONE from rfl) ?_);dsimp only;refine af h.c2 (af h.c3 (af (if_neg hr) (af (if_neg (by decide)) (af em (af q ?_)))));dsimp only;refine af (if_pos hn) ?_;rfl
structure sG(c:List Nat)(pc ch:Nat):Prop where
 c0:c.toArray.getD pc 0=16
 c1:c.toArray.getD (pc+1) 0=ch
 n:pc<c.toArray.size
theorem uY{c:List Nat}{x:T}{wt must ob:Bool}{last start pc pos handed w:Nat}{marks:Array (Option Nat)}{lm li:Int}{loops:Array lD}{inner:Option Nat}{fr:List iB}{sn:eP}{ch:Nat}(h:sG c pc ch)(hc:x[pos]? =ac ch):∃sn',(mk c x wt last must start pc pos handed ob marks lm li loops inner fr w ae sn).step=mk c x wt last must start (pc+2) (pos+1) handed ob marks lm li loops inner fr w ae sn':=by
 have hp:¬pos>=x.length:=λq=>by rw [vT q]at hc;exact aW hc
 refine⟨sn.add 16,?_⟩;unfold tU;dsimp only;refine af (if_neg (by decide)) (af (if_pos h.n) ?_);unfold xO tV;dsimp only;refine af (show c.toArray.getD (pc+0) 0=16 from h.c0) (af (show vS[16]? =ac .LITERAL from rfl) ?_);dsimp only;refine af (if_neg hp) ?_;have ea:oK c.toArray pc (x.toArray.getD pos 0) (sn.add 16)=.ok (ag,sn.add 16):=by
  unfold oK;refine af h.c0 (af h.c1 (af (show vS[16]? =ac .LITERAL from rfl) (af (q9) (af (l6) (af hc ?_)))));refine(?_:r7 (ch==ch,sn.add 16)=_);rw [beq_self_eq_true]
 refine af ea ?_;dsimp only;have ei:abb c.toArray pc=2:=by
  unfold abb;refine af h.c0 ?_;rfl
 exact af ei rfl
theorem vZ{c:List Nat}{x:T}{wt must ob:Bool}{last start pc pos handed w:Nat}{marks:Array (Option Nat)}{lm li:Int}{loops:Array lD}{inner:Option Nat}{fr:List iB}{sn:eP}{ch:Nat}(h:sG c pc ch)(hc:x[pos]?≠ac ch):∃sn',(mk c x wt last must start pc pos handed ob marks lm li loops inner fr w ae sn).step=mk c x wt last must start pc pos handed ob marks lm li loops inner fr w (ac am) sn':=by
 refine⟨sn.add 16,?_⟩;unfold tU;dsimp only;refine af (if_neg (by decide)) (af (if_pos h.n) ?_);unfold xO tV;dsimp only;refine af (show c.toArray.getD (pc+0) 0=16 from h.c0) (af (show vS[16]? =ac .LITERAL from rfl) ?_);dsimp only;by_cases hp:pos>=x.length
 ·refine af (if_pos hp) ?_;rfl
 ·rw [if_neg hp]
  have ea:oK c.toArray pc (x.toArray.getD pos 0) (sn.add 16)=.ok (am,sn.add 16):=by
   unfold oK;refine af h.c0 (af h.c1 (af (show vS[16]? =ac .LITERAL from rfl) (af (q9) (af (l6) ?_))));cases q:x[pos]? with
   |none=>exact absurd (List.getElem?_eq_none_iff.mp q) hp
   |some a=>
    refine(?_:r7 (a==ch,sn.add 16)=_);rw [beq_eq_false_iff_ne.mpr (λe=>hc (by rw [q,e]))]
  refine af ea ?_;rfl
theorem zo{c:List Nat}{x:T}{wt must ob:Bool}{last start pc pos handed w:Nat}{marks:Array (Option Nat)}{lm li:Int}{loops:Array lD}{inner:Option Nat}{fr:List iB}{sn:eP}{pc' pos':Nat}{ob':Bool}{lm' li':Int}(h2:c.toArray.getD (pc'+2) 0=0):(mk c x wt last must start pc pos handed ob marks lm li loops inner (cu pc' pos' ob' 0 {lastmark:=lm',lastindex:=li'}::fr) (w+1) (ac am) sn).step=mk c x wt last must start pc' pos' handed ob' marks lm' li' loops inner fr w (ac am) sn:=by
 have e:(mk c x wt last must start pc pos handed ob marks lm li loops inner (cu pc' pos' ob' 0 {lastmark:=lm',lastindex:=li'}::fr) (w+1) (ac am) sn).step=if((0:Nat):Int)-1<(c.toArray.getD (pc'+2) 0:Int)then mk c x wt last must start pc' pos' handed ob' marks lm' li' loops inner fr w (ac am) sn else({(mk c x wt last must start pc' pos' handed ob' marks lm' li' loops inner fr w ae sn)with pos:=pos'-1}).afterRun .giveBack (((0:Nat):Int)-1) {lastmark:=lm',lastindex:=li'}:=by left
 refine af e (af h2 ?_);rfl
theorem zb{c:List Nat}{x:T}{wt must ob:Bool}{last start pc pos handed w:Nat}{marks:Array (Option Nat)}{lm li:Int}{loops:Array lD}{inner:Option Nat}{fr:List iB}{sn:eP}{pc' pos' n:Nat}{ob':Bool}{kp:HR}(aB:kp.marks.size=0):(mk c x wt last must start pc pos handed ob marks lm li loops inner (cu pc' pos' ob' n kp::fr) (w+1) (ac ag) sn).step=mk c x wt last must start pc' pos' handed ob' marks lm li loops inner fr w (ac ag) sn:=by
 have e:(mk c x wt last must start pc pos handed ob marks lm li loops inner (cu pc' pos' ob' n kp::fr) (w+1) (ac ag) sn).step=mk c x wt last must start pc' pos' handed ob' marks lm li loops inner fr (w+1-(1+kp.marks.size)) (ac ag) sn:=by left
 refine af e (af aB ?_);rfl
theorem Lw{c:List Nat}{x:T}{wt must ob:Bool}{last start pc pos handed:Nat}{marks:Array (Option Nat)}{lm li:Int}{loops:Array lD}{inner:Option Nat}{sn:eP}{pc' pos':Nat}{ob':Bool}:(mk c x wt last must start pc pos handed ob marks lm li loops inner [bH pc' pos' ob'] 1 (ac ag) sn).step=mk c x wt last must start pc' pos' handed ob' marks lm li loops inner [] 0 (ac ag) sn:=by left
theorem Wy{x:T}(hx:b8 x)(hl:x.length<=lim)(aB:bE cG x=0)(hj:bE sK x=0):∃e,bp (eM fP.toArray x.toArray 1 0 x.length am) e (2*x.length+30)/\e.outcome=ac .failed:=by
 by_cases h0:x.length<1
 ·refine aw (CT Gi h0) λe q0'=>ay q0' λg f=>?_;clear q0'
  exact⟨e,g.le (by simp),f⟩
 refine af (tA Gi (by exact sq h0)) ?_;have a1:(mk fP x am x.length am 0 5 0 0 ag (cX (2*1) ae) (-1) (-1) #[] ae [bH 5 0 ag] 1 ae dR).step=(mk fP x am x.length am 0 7 0 0 ag (cX (2*1) ae) (-1) (-1) #[] ae [bH 5 0 ag] 1 ae ((dR.add 6).add 43)):=by left
 have zq:=(@lH fP x am am ag x.length 0 7 0 0 1 (cX (2*1) ae) (-1) (-1) (#[]) ae [bH 5 0 ag] ((dR.add 6).add 43) _ _ _ _ Jq hx hl (eG _) (eG _) (by decide) rfl);refine aw zq λs2 a2=>?_;clear zq;rw [nQ,aB,iA]at a2;have a3:(mk fP x am x.length am 0 (7+1+9) 0 0 ag (cX (2*1) ae) (-1) (-1) #[] ae (cu 7 0 ag 0 {lastmark:=-1,lastindex:=-1}::[bH 5 0 ag]) (1+1) ae s2).step=(mk fP x am x.length am 0 19 0 0 ag #[ac 0,ae] 0 (-1) #[] ae (cu 7 0 ag 0 {lastmark:=-1,lastindex:=-1}::[bH 5 0 ag]) 2 ae (s2.add 17)):=by left
 have zq:=(@Ny fP x am am ag x.length 0 19 0 0 2 (#[ac 0,ae]) 0 (-1) (#[]) ae (cu 7 0 ag 0 {lastmark:=-1,lastindex:=-1}::[bH 5 0 ag]) (s2.add 17) _ _ _ _ Ia hx hl (eG _) (by refine af nQ (af hj ?_);decide));refine aw zq λs4 a4=>?_;clear zq;refine aw (@wO fP x am x.length (#[ac 0,ae]) (#[]) ae PZ x.length 0 am 0 7 0 0 ag (-1) (-1) ag s4 (.inl (iA _))) λe q2'=>ay q2' λg f=>?_;clear q2';exact⟨e,((bp.one rfl a1).trans ((bp.one rfl a2).trans ((bp.one rfl a3).trans ((bp.one rfl a4).trans ((bp.one rfl (zo (by left))).trans g))))).le (by lia),f⟩
theorem Fg{x:T}:eM gz.toArray x.toArray 1 0 x.length am=if(az (0>x.length)||decide (x.length-0<1))=ag then mk gz x am 0 am 0 5 0 0 ag (cX (2*1) ae) (-1) (-1) #[] ae [] 0 (ac am) dR else mk gz x am x.length am 0 5 0 0 ag (cX (2*1) ae) (-1) (-1) #[] ae [bH 5 0 ag] 1 ae dR:=by left
theorem xV{x:T}:eM cz.toArray x.toArray 1 0 x.length am=if(az (0>x.length)||decide (x.length-0<3))=ag then mk cz x am 0 am 0 5 0 0 ag (cX (2*1) ae) (-1) (-1) #[] ae [] 0 (ac am) dR else mk cz x am (max 0 (x.length-(3-1))) am 0 5 0 0 ag (cX (2*1) ae) (-1) (-1) #[] ae [bH 5 0 ag] 1 ae dR:=by left
theorem Rs{x:T}:eM jt.toArray x.toArray 0 0 x.length am=if(az (0>x.length)||decide (x.length-0<0))=ag then mk jt x am 0 am 0 5 0 0 ag (cX (2*0) ae) (-1) (-1) #[] ae [] 0 (ac am) dR else mk jt x am x.length am 0 5 0 0 ag (cX (2*0) ae) (-1) (-1) #[] ae [bH 5 0 ag] 1 ae dR:=by left
noncomputable def e9(c:Nat):Bool:= !(bt c 34||Nat.beq c 92)
theorem Kw:mw gz 7 9 0 0 cG:=⟨by left,by left,by left,by left,by decide+kernel,λsn=>by left⟩
theorem WR:mw gz 19 9 0 0 cG:=⟨by left,by left,by left,by left,by decide+kernel,λsn=>by left⟩
theorem Wh:mw gz 31 14 0 0 mZ:=⟨by left,by left,by left,by left,by decide+kernel,λsn=>by left⟩
theorem D6:mw cz 7 9 0 0 cG:=⟨by left,by left,by left,by left,by decide+kernel,λsn=>by left⟩
theorem Jm:mw cz 19 9 0 0 cG:=⟨by left,by left,by left,by left,by decide+kernel,λsn=>by left⟩
theorem Rp:mw cz 33 12 0 0 e9:=⟨by left,by left,by left,by left,by decide+kernel,λsn=>by left⟩
theorem TH:mw cz 53 12 0 0 e9:=⟨by left,by left,by left,by left,by decide+kernel,λsn=>by left⟩
theorem YY:mw jt 7 13 0 0 sw:=⟨by left,by left,by left,by left,by decide+kernel,λsn=>by left⟩
theorem Mr:sG gz 17 61:=⟨by left,by left,by decide+kernel⟩
theorem EP:sG cz 17 61:=⟨by left,by left,by decide+kernel⟩
theorem Jp:sG cz 29 34:=⟨by left,by left,by decide+kernel⟩
theorem LJ:sG cz 50 92:=⟨by left,by left,by decide+kernel⟩
theorem UR:sG cz 69 34:=⟨by left,by left,by decide+kernel⟩
theorem IM(hx:b8 x)(hl:x.length<=lim)(aB:bE cG x=0)(h0:x[0]?≠ac 61):∃e,bp (eM gz.toArray x.toArray 1 0 x.length am) e (2*x.length+30)/\e.outcome=ac .failed:=by
 by_cases hn:x.length<1
 ·refine aw (CT Fg hn) λe q1'=>ay q1' λg f=>?_;clear q1'
  exact⟨e,g.le (by simp),f⟩
 refine af (tA Fg (by exact sq hn)) ?_;have a1:(mk gz x am x.length am 0 5 0 0 ag (cX (2*1) ae) (-1) (-1) #[] ae [bH 5 0 ag] 1 ae dR).step=(mk gz x am x.length am 0 7 0 0 ag (cX (2*1) ae) (-1) (-1) #[] ae [bH 5 0 ag] 1 ae ((dR.add 6).add 43)):=by left
 have zq:=(@lH gz x am am ag x.length 0 7 0 0 1 (cX (2*1) ae) (-1) (-1) (#[]) ae [bH 5 0 ag] ((dR.add 6).add 43) _ _ _ _ Kw hx hl (eG _) (eG _) (by decide) rfl);refine aw zq λs2 a2=>?_;clear zq;rw [nQ,aB,iA]at a2;refine aw (@vZ gz x am am ag x.length 0 _ 0 0 (1+1) (cX (2*1) ae) (-1) (-1) (#[]) ae (cu 7 0 ag 0 {lastmark:=-1,lastindex:=-1}::[bH 5 0 ag]) s2 _ Mr h0) λs3 a3=>?_;refine aw (@wO gz x am x.length (cX (2*1) ae) (#[]) ae TS x.length 0 am 0 7 0 0 ag (-1) (-1) ag s3 (.inl (iA _))) λe q0'=>ay q0' λg f=>?_;clear q0';exact⟨e,((bp.one rfl a1).trans ((bp.one rfl a2).trans ((bp.one rfl a3).trans ((bp.one rfl (zo (by left))).trans g)))).le (by lia),f⟩
theorem Pd{n m:Nat}(h:m<=n):1+(1+(1+(1+(2*m+2))))<=2*n+30:=by lia
theorem WY{n m:Nat}(h:m<=n):1+(1+(1+(1+(1+(1+(1+(2*m+2)))))))<=2*n+30:=by lia
theorem Uj{n m:Nat}(h:m<=n):1+(2*m+2)<=2*n+30:=by lia
theorem Lb(hx:b8 x)(hl:x.length<=lim)(aB:bE cG x=0)(h0:x[0]?≠ac 61):∃e,bp (eM cz.toArray x.toArray 1 0 x.length am) e (2*x.length+30)/\e.outcome=ac .failed:=by
 by_cases hn:x.length<3
 ·refine aw (CT xV hn) λe q2'=>ay q2' λg f=>?_;clear q2'
  exact⟨e,g.le (by lia),f⟩
 refine af (tA xV (by simp_all)) ?_;have a1:(mk cz x am (max 0 (x.length-(3-1))) am 0 5 0 0 ag (cX (2*1) ae) (-1) (-1) #[] ae [bH 5 0 ag] 1 ae dR).step=(mk cz x am (max 0 (x.length-(3-1))) am 0 7 0 0 ag (cX (2*1) ae) (-1) (-1) #[] ae [bH 5 0 ag] 1 ae ((dR.add 6).add 43)):=by left
 have zq:=(@lH cz x am am ag (max 0 (x.length-(3-1))) 0 7 0 0 1 (cX (2*1) ae) (-1) (-1) (#[]) ae [bH 5 0 ag] ((dR.add 6).add 43) _ _ _ _ D6 hx hl (eG _) (eG _) (by decide) rfl);refine aw zq λs2 a2=>?_;clear zq;rw [nQ,aB,iA]at a2;refine aw (@vZ cz x am am ag (max 0 (x.length-(3-1))) 0 _ 0 0 (1+1) (cX (2*1) ae) (-1) (-1) (#[]) ae (cu 7 0 ag 0 {lastmark:=-1,lastindex:=-1}::[bH 5 0 ag]) s2 _ EP h0) λs3 a3=>?_;refine aw (@wO cz x am (max 0 (x.length-(3-1))) (cX (2*1) ae) (#[]) ae Is (max 0 (x.length-(3-1))) 0 am 0 7 0 0 ag (-1) (-1) ag s3 (.inl (iA _))) λe q1'=>ay q1' λg f=>?_;clear q1';exact⟨e,((bp.one rfl a1).trans ((bp.one rfl a2).trans ((bp.one rfl a3).trans ((bp.one rfl (zo (by left))).trans g)))).le (Pd (tR.mpr ⟨eG _,oG _ _⟩)),f⟩
theorem U3(hx:b8 (61::r))(hl:(61::r).length<=lim)(hr:bE cG r=0):∃e,bp (eM gz.toArray (61::r).toArray 1 0 (61::r).length am) e 20/\xW e (1+bE mZ r) #[ac 1,ac (1+bE mZ r)] 1 1:=by
 have aB:bE cG (61::r)=0:=by
  refine(?_:@aN (λO=>Nat) 0 (bE cG r+1) (cG 61)=0);exact af (show cG 61=am by left) rfl
 have hlen:(61::r).length=r.length+1:=rfl;rw [tA Fg (by rw [hlen];exact oF _)];have a1:(mk gz (61::r) am (61::r).length am 0 5 0 0 ag (cX (2*1) ae) (-1) (-1) #[] ae [bH 5 0 ag] 1 ae dR).step=(mk gz (61::r) am (61::r).length am 0 7 0 0 ag (cX (2*1) ae) (-1) (-1) #[] ae [bH 5 0 ag] 1 ae ((dR.add 6).add 43)):=by left
 have zq:=(@lH gz (61::r) am am ag ((61::r).length) 0 7 0 0 1 (cX (2*1) ae) (-1) (-1) (#[]) ae [bH 5 0 ag] ((dR.add 6).add 43) _ _ _ _ Kw hx hl (eG _) (eG _) (by decide) rfl);refine aw zq λs2 a2=>?_;clear zq;rw [nQ,aB,iA]at a2;refine aw (@uY gz (61::r) am am ag ((61::r).length) 0 _ 0 0 (1+1) (cX (2*1) ae) (-1) (-1) (#[]) ae (cu 7 0 ag 0 {lastmark:=-1,lastindex:=-1}::[bH 5 0 ag]) s2 _ Mr rfl) λs3 a3=>?_;have zq:=(@lH gz (61::r) am am ag ((61::r).length) 0 19 1 0 (1+1) (cX (2*1) ae) (-1) (-1) (#[]) ae (cu 7 0 ag 0 {lastmark:=-1,lastindex:=-1}::[bH 5 0 ag]) s3 _ _ _ _ WR hx hl (by refine af hlen ?_;lia) (eG _) (by decide) rfl);refine aw zq λs4 a4=>?_;clear zq;rw [show(61::r).drop 1=r from rfl,hr]at a4;have a5:(mk gz (61::r) am (61::r).length am 0 (19+1+9) (1+0) (1+0) ag (cX (2*1) ae) (-1) (-1) #[] ae (cu 19 (1+0) ag 0 {lastmark:=-1,lastindex:=-1}::cu 7 0 ag 0 {lastmark:=-1,lastindex:=-1}::[bH 5 0 ag]) (1+1+1) ae s4).step=(mk gz (61::r) am (61::r).length am 0 31 1 1 ag #[ac 1,ae] 0 (-1) #[] ae (cu 19 1 ag 0 {lastmark:=-1,lastindex:=-1}::cu 7 0 ag 0 {lastmark:=-1,lastindex:=-1}::[bH 5 0 ag]) 3 ae (s4.add 17)):=by left
 have zq:=(@lH gz (61::r) am am ag ((61::r).length) 0 31 1 1 3 (#[ac 1,ae]) 0 (-1) (#[]) ae (cu 19 1 ag 0 {lastmark:=-1,lastindex:=-1}::cu 7 0 ag 0 {lastmark:=-1,lastindex:=-1}::[bH 5 0 ag]) (s4.add 17) _ _ _ _ Wh hx hl (by refine af hlen ?_;lia) (eG _) (by decide) rfl);refine aw zq λs6 a6=>?_;clear zq;rw [show(61::r).drop 1=r from rfl]at a6;generalize bE mZ r=n at a6⊢;have a7:(mk gz (61::r) am (61::r).length am 0 (31+1+14) (1+n) (1+n) ag #[ac 1,ae] 0 (-1) #[] ae (cu 31 (1+n) ag n {lastmark:=0,lastindex:=-1}::cu 19 1 ag 0 {lastmark:=-1,lastindex:=-1}::cu 7 0 ag 0 {lastmark:=-1,lastindex:=-1}::[bH 5 0 ag]) (3+1) ae s6).step=(mk gz (61::r) am (61::r).length am 0 48 (1+n) (1+n) ag #[ac 1,ac (1+n)] 1 1 #[] ae (cu 31 (1+n) ag n {lastmark:=0,lastindex:=-1}::cu 19 1 ag 0 {lastmark:=-1,lastindex:=-1}::cu 7 0 ag 0 {lastmark:=-1,lastindex:=-1}::[bH 5 0 ag]) 4 ae (s6.add 17)):=by left
 have a8:(mk gz (61::r) am (61::r).length am 0 48 (1+n) (1+n) ag #[ac 1,ac (1+n)] 1 1 #[] ae (cu 31 (1+n) ag n {lastmark:=0,lastindex:=-1}::cu 19 1 ag 0 {lastmark:=-1,lastindex:=-1}::cu 7 0 ag 0 {lastmark:=-1,lastindex:=-1}::[bH 5 0 ag]) 4 ae (s6.add 17)).step=(mk gz (61::r) am (61::r).length am 0 48 (1+n) (1+n) ag #[ac 1,ac (1+n)] 1 1 #[] ae (cu 31 (1+n) ag n {lastmark:=0,lastindex:=-1}::cu 19 1 ag 0 {lastmark:=-1,lastindex:=-1}::cu 7 0 ag 0 {lastmark:=-1,lastindex:=-1}::[bH 5 0 ag]) 4 (ac ag) ((s6.add 17).add 1)):=by left
 exact⟨_,((bp.one rfl a1).trans ((bp.one rfl a2).trans ((bp.one rfl a3).trans ((bp.one rfl a4).trans ((bp.one rfl a5).trans ((bp.one rfl a6).trans ((bp.one rfl a7).trans ((bp.one rfl a8).trans ((bp.one rfl (zb rfl)).trans ((bp.one rfl (zb rfl)).trans ((bp.one rfl (zb rfl)).trans ((bp.one rfl Lw).trans Bl)))))))))))).le (by decide),⟨rfl,rfl,rfl,rfl,rfl,rfl⟩⟩
theorem Ma(hx:b8 (61::r))(hl:(61::r).length<=lim)(hr:bE cG r=0)(h0:r[0]?≠ac 34):∃e,bp (eM cz.toArray (61::r).toArray 1 0 (61::r).length am) e (2*(61::r).length+30)/\e.outcome=ac .failed:=by
 have aB:bE cG (61::r)=0:=by
  refine(?_:@aN (λO=>Nat) 0 (bE cG r+1) (cG 61)=0);exact af (show cG 61=am by left) rfl
 have hlen:(61::r).length=r.length+1:=rfl;by_cases hn:(61::r).length<3
 ·refine aw (CT xV hn) λe q0'=>ay q0' λg f=>?_;clear q0'
  exact⟨e,g.le (by simp),f⟩
 refine af (tA xV (by exact sq hn)) ?_;have a1:(mk cz (61::r) am (max 0 ((61::r).length-(3-1))) am 0 5 0 0 ag (cX (2*1) ae) (-1) (-1) #[] ae [bH 5 0 ag] 1 ae dR).step=(mk cz (61::r) am (max 0 ((61::r).length-(3-1))) am 0 7 0 0 ag (cX (2*1) ae) (-1) (-1) #[] ae [bH 5 0 ag] 1 ae ((dR.add 6).add 43)):=by left
 have zq:=(@lH cz (61::r) am am ag (max 0 ((61::r).length-(3-1))) 0 7 0 0 1 (cX (2*1) ae) (-1) (-1) (#[]) ae [bH 5 0 ag] ((dR.add 6).add 43) _ _ _ _ D6 hx hl (eG _) (eG _) (by decide) rfl);refine aw zq λs2 a2=>?_;clear zq;rw [nQ,aB,iA]at a2;refine aw (@uY cz (61::r) am am ag (max 0 ((61::r).length-(3-1))) 0 _ 0 0 (1+1) (cX (2*1) ae) (-1) (-1) (#[]) ae (cu 7 0 ag 0 {lastmark:=-1,lastindex:=-1}::[bH 5 0 ag]) s2 _ EP rfl) λs3 a3=>?_;have zq:=(@lH cz (61::r) am am ag (max 0 ((61::r).length-(3-1))) 0 19 1 0 (1+1) (cX (2*1) ae) (-1) (-1) (#[]) ae (cu 7 0 ag 0 {lastmark:=-1,lastindex:=-1}::[bH 5 0 ag]) s3 _ _ _ _ Jm hx hl (by refine af hlen ?_;lia) (eG _) (by decide) rfl);refine aw zq λs4 a4=>?_;clear zq;rw [show(61::r).drop 1=r from rfl,hr]at a4;refine aw (@vZ cz (61::r) am am ag (max 0 ((61::r).length-(3-1))) 0 _ 1 1 (1+1+1) (cX (2*1) ae) (-1) (-1) (#[]) ae (cu 19 1 ag 0 {lastmark:=-1,lastindex:=-1}::cu 7 0 ag 0 {lastmark:=-1,lastindex:=-1}::[bH 5 0 ag]) s4 _ Jp (show(61::r)[1]?≠ac 34 from h0)) λs5 a5=>?_;refine aw (@wO cz (61::r) am (max 0 ((61::r).length-(3-1))) (cX (2*1) ae) (#[]) ae Is (max 0 ((61::r).length-(3-1))) 0 am 0 7 0 1 ag (-1) (-1) ag s5 (.inl (iA _))) λe q2'=>ay q2' λg f=>?_;clear q2';exact⟨e,((bp.one rfl a1).trans ((bp.one rfl a2).trans ((bp.one rfl a3).trans ((bp.one rfl a4).trans ((bp.one rfl a5).trans ((bp.one rfl (zo (by left))).trans ((bp.one rfl (zo (by left))).trans g))))))).le (WY (tR.mpr ⟨eG _,oG _ _⟩)),f⟩
theorem YA(hx:b8 x)(hl:x.length<=lim):∃e,bp (eM jt.toArray x.toArray 0 0 x.length am) e 20/\xW e (bE sw x) (cX (2*0) ae) (-1) (-1):=by
 refine af (tA Rs (eG _)) ?_;have a1:(mk jt x am x.length am 0 5 0 0 ag (cX (2*0) ae) (-1) (-1) #[] ae [bH 5 0 ag] 1 ae dR).step=(mk jt x am x.length am 0 7 0 0 ag (cX (2*0) ae) (-1) (-1) #[] ae [bH 5 0 ag] 1 ae ((dR.add 6).add 43)):=by left
 have zq:=(@lH jt x am am ag x.length 0 7 0 0 1 (cX (2*0) ae) (-1) (-1) (#[]) ae [bH 5 0 ag] ((dR.add 6).add 43) _ _ _ _ YY hx hl (eG _) (eG _) (by decide) rfl);refine aw zq λs2 a2=>?_;clear zq;rw [nQ,iA]at a2;generalize bE sw x=n at a2⊢;have a3:(mk jt x am x.length am 0 (7+1+13) n n ag (cX (2*0) ae) (-1) (-1) #[] ae (cu 7 n ag n {lastmark:=-1,lastindex:=-1}::[bH 5 0 ag]) (1+1) ae s2).step=(mk jt x am x.length am 0 21 n n ag (cX (2*0) ae) (-1) (-1) #[] ae (cu 7 n ag n {lastmark:=-1,lastindex:=-1}::[bH 5 0 ag]) (1+1) (ac ag) (s2.add 1)):=by left
 exact⟨_,((bp.one rfl a1).trans ((bp.one rfl a2).trans ((bp.one rfl a3).trans ((bp.one rfl (zb rfl)).trans ((bp.one rfl Lw).trans Bl))))).le (by decide),⟨rfl,rfl,rfl,rfl,rfl,rfl⟩⟩
theorem P6{x:T}(k:Nat)(aB:k+1<=x.length):∃e,bp (eM jt.toArray x.toArray 0 (k+1) x.length am) e (2*x.length+30)/\e.outcome=ac .failed:=by
 have e0:eM jt.toArray x.toArray 0 (k+1) x.length am=if(az (k+1>x.length)||decide (x.length-(k+1)<0))=ag then(mk jt x am 0 am (k+1) 5 (k+1) (k+1) ag (cX (2*0) ae) (-1) (-1) #[] ae [] 0 (ac am) dR)else(mk jt x am x.length am (k+1) 5 (k+1) (k+1) ag (cX (2*0) ae) (-1) (-1) #[] ae [bH 5 (k+1) ag] 1 ae dR):=by left
 rw [e0,if_neg (by rw [vM,decide_eq_true_iff,decide_eq_true_iff];simp_all)];refine aw (Lq (c:=jt) (x:=x) (wt:=am) (last:=x.length) (must:=am) (start:=k+1) (handed:=k+1) (ob:=ag) (marks:=cX (2*0) ae) (lm:=-1) (li:=-1) (loops:= #[]) (inner:=ae) (fr:=[bH 5 (k+1) ag]) (w:=1) (sn:=dR) (s:=k) Ii) λs1 a1=>?_;have zq:=(@wO jt x am x.length (cX (2*0) ae) (#[]) ae Ii (x.length-(k+1)) (k+1) am (k+1) 5 (k+1) (k+1) ag (-1) (-1) ag s1 (.inl (by exact Dq aB)));refine aw zq λe q1'=>ay q1' λg f=>?_;clear zq q1';exact⟨e,((bp.one rfl a1).trans g).le (Uj (oG _ _)),f⟩
set_option backward.match.sparseCases false
noncomputable def FS(f:iB):Bool:=match f.wait with
 |.nextStart=>ag
 |.giveBack=>ag
 |.maxMore=>ag
 |.maxTail=>ag
 |.closeLoop=>ag
 |_=>am
theorem Bk:∀(fr:List iB)(m:fY),m.outcome=ae->m.answer=ac ag->m.frames=fr->(∀f∈fr,FS f=ag)->∃e,bp m e (fr.length+1)/\e.outcome=ac .matched/\e.start=m.start/\e.handed=m.handed/\e.marks=m.marks/\e.lastmark=m.lastmark/\e.lastindex=m.lastindex
 |[],m,ho,ha,hf,_=>by
  refine⟨{m with outcome:=ac .matched},bp.one (by refine af ho ?_;rfl) ?_,rfl,rfl,rfl,rfl,rfl,rfl⟩;unfold tU;refine af ho (af ha (af hf ?_));rfl
 |f::fr,m,ho,ha,hf,hc=>by
  have key:∀m':fY,m.step=m'->m'.outcome=ae->m'.answer=ac ag->m'.frames=fr->m'.start=m.start->m'.handed=m.handed->m'.marks=m.marks->m'.lastmark=m.lastmark->m'.lastindex=m.lastindex->∃e,bp m e (fr.length+1+1)/\e.outcome=ac .matched/\e.start=m.start/\e.handed=m.handed/\e.marks=m.marks/\e.lastmark=m.lastmark/\e.lastindex=m.lastindex:=λm' e h1 h2 h3 h4 h5 h6 h7 h8=>by
   refine aw (Bk fr m' h1 h2 h3 λy hy=>hc y (cW _ hy)) λx q2'=>gY q2' λg o a1 a2 a3 q0'=>ay q0' λa4 a5=>?_;clear q2' q0';exact⟨x,((bp.one (by refine af ho ?_;rfl) e).trans g).le (by lia),o,a1.trans h4,a2.trans h5,a3.trans h6,a4.trans h7,a5.trans h8⟩
  have hcf:=hc f ck;have e:m.step=Sre.M.resume {m with answer:=ae,frames:=fr,weight:=m.weight-(1+f.kept.marks.size),pc:=f.pc,pos:=f.pos,outermost:=f.outermost} f ag:=by
   unfold tU;refine af ho (af ha (af hf ?_));rfl
  unfold FS at hcf;obtain⟨wt,pc,pos,ob,cnt,kp,lp,bg⟩:=f;cases wt<;>first|exact key _ e ho rfl rfl rfl rfl rfl rfl rfl|exact bR hcf
noncomputable abbrev zn:HR:={lastmark:=0,lastindex:=-1,whole:=ag,marks:= #[ac 2]}
noncomputable abbrev gE(q:Int)(b:Option Nat):Array lD:= #[{pc:=46,count:=q,began:=b,outer:=ae}]
theorem Wb{c:List Nat}{x:T}{wt must ob:Bool}{last start pc pos handed w:Nat}{loops:Array lD}{fr:List iB}{sn:eP}{skip least it:Nat}{P:Nat->Bool}(h:mw c pc skip least it P)(hx:b8 x)(hl:x.length<=lim)(hp:pos<=x.length)(hn:least<=bE P (x.drop pos))(hw:w+2<=16777216):∃sn',(mk c x wt last must start pc pos handed ob #[ac 2,ae] 0 (-1) loops (ac 0) fr w ae sn).step=mk c x wt last must start (pc+1+skip) (pos+bE P (x.drop pos)) (pos+bE P (x.drop pos)) ob #[ac 2,ae] 0 (-1) loops (ac 0) (cu pc (pos+bE P (x.drop pos)) ob (bE P (x.drop pos)) zn::fr) (w+2) ae sn':=by
 refine aw (FZ h.a hx hp ((sn.add 24).add (c.toArray.getD (pc+4) 0))) λsn' q=>?_;have hle:=om P (x.drop pos);rw [jA]at hle;refine⟨sn',?_⟩;unfold tU;dsimp only;refine af (if_neg (by decide)) (af (if_pos h.n) ?_);unfold xO tV;dsimp only;refine af (show c.toArray.getD (pc+0) 0=24 from h.c0) (af (show vS[24]? =ac .REPEAT_ONE from rfl) ?_);dsimp only;refine af h.c2 (af h.c3 (af (if_neg (Nh hn hle hp)) ?_));have em:min 4294967295 ((x.length:Int)-(pos:Int)).toNat=x.length-pos:=by
  have:((x.length:Int)-(pos:Int)).toNat=x.length-pos:=by exact ON (fF x) pos
  refine af this ?_;exact zL (bM (oG _ _) (bM hl (by decide)))
 refine af (if_neg (by decide)) (af em (af q ?_));dsimp only;refine af (if_neg (by simp_all)) ?_;unfold aa9 aba tV;dsimp only;refine af h.c1 ?_;have ew:¬w+1+1>16777216:=by exact(λ{a b}=>vL.mpr) hw
 exact(if_neg ew)
theorem Rl{x:T}{wt must ob:Bool}{last start pos handed w:Nat}{marks:Array (Option Nat)}{lm li:Int}{loops:Array lD}{inner:Option Nat}{fr:List iB}{sn:eP}{a:Nat}(hc:x[pos]? =ac a)(ha:a≠10):∃sn',(mk cz x wt last must start 52 pos handed ob marks lm li loops inner fr w ae sn).step=mk cz x wt last must start 53 (pos+1) handed ob marks lm li loops inner fr w ae sn':=by
 have hp:¬pos>=x.length:=λq=>by rw [vT q]at hc;exact aW hc
 refine⟨sn.add 2,?_⟩;have e:(mk cz x wt last must start 52 pos handed ob marks lm li loops inner fr w ae sn).step=if pos>=x.length then(mk cz x wt last must start 52 pos handed ob marks lm li loops inner fr w ae (sn.add 2)).say am else(match oK cz.toArray 52 (x.toArray.getD pos 0) (sn.add 2)with
  |.error why=>(mk cz x wt last must start 52 pos handed ob marks lm li loops inner fr w ae (sn.add 2)).stick why
  |.ok (am,seen)=>(mk cz x wt last must start 52 pos handed ob marks lm li loops inner fr w ae seen).say am
  |.ok (ag,seen)=>mk cz x wt last must start (52+1) (pos+1) handed ob marks lm li loops inner fr w ae seen):=by left
 have ea:oK cz.toArray 52 (x.toArray.getD pos 0) (sn.add 2)=.ok (ag,sn.add 2):=by
  refine af (q9) (af (l6) (af hc ?_));refine(?_:r7 (a !=10,sn.add 2)=_);exact af (show(a !=10)=ag from bne_iff_ne.mpr ha) rfl
 exact af e (af (if_neg hp) (af ea rfl))
abbrev rh(pos:Nat)(q:Int)(b:Option Nat):iB:={wait:=.maxMore,pc:=67,pos,outermost:=ag,count:=q,kept:=zn,loop:=0,began:=b}
noncomputable abbrev rn(pos:Nat)(q:Int):iB:={wait:=.maxTail,pc:=67,pos,outermost:=ag,count:=q,kept:={lastmark:=0,lastindex:=-1},loop:=0}
theorem RC{x:T}{wt must:Bool}{last start pos handed w:Nat}{fr:List iB}{sn:eP}{q:Int}{b:Option Nat}(hq:-1<=q)(hb:b≠ac pos)(hw:w+2<=16777216):(mk cz x wt last must start 66 pos handed ag #[ac 2,ae] 0 (-1) (gE q b) (ac 0) fr w ae sn).step=mk cz x wt last must start 50 pos pos ag #[ac 2,ae] 0 (-1) (gE (q+1) (ac pos)) (ac 0) (rh pos (q+1) b::fr) (w+2) ae (sn.add 18):=by
 have e:(mk cz x wt last must start 66 pos handed ag #[ac 2,ae] 0 (-1) (gE q b) (ac 0) fr w ae sn).step=abc (mk cz x wt last must start 67 pos handed ag #[ac 2,ae] 0 (-1) (gE q b) (ac 0) fr w ae (sn.add 18)) ag:=by left
 have e2:abc (mk cz x wt last must start 67 pos handed ag #[ac 2,ae] 0 (-1) (gE q b) (ac 0) fr w ae (sn.add 18)) ag=if q+1<((0:Nat):Int)then(mk cz x wt last must start 67 pos handed ag #[ac 2,ae] 0 (-1) (gE q b) (ac 0) fr w ae (sn.add 18)).round .maxBelow 0 (q+1) am {}else if((az (q+1<((4294967295:Nat):Int))||(4294967295==abd))&&(b !=ac pos))=ag then(mk cz x wt last must start 67 pos handed ag #[ac 2,ae] 0 (-1) (gE q b) (ac 0) fr w ae (sn.add 18)).round .maxMore 0 (q+1) ag zn else(mk cz x wt last must start 67 pos handed ag #[ac 2,ae] 0 (-1) (gE q b) (ac 0) fr w ae (sn.add 18)).afterLoop .maxTail 0 (q+1) λO=>am:=by left
 rw [e,e2,if_neg (by lia),if_pos (by rw [show(4294967295==abd)=ag from rfl,Bool.or_true,Bool.true_and];exact bne_iff_ne.mpr hb)];have e3:(mk cz x wt last must start 67 pos handed ag #[ac 2,ae] 0 (-1) (gE q b) (ac 0) fr w ae (sn.add 18)).round .maxMore 0 (q+1) ag zn=if w+1+1>16777216 then(mk cz x wt last must start 67 pos handed ag #[ac 2,ae] 0 (-1) (gE (q+1) (ac pos)) (ac 0) fr w ae (sn.add 18)).stick "frames:memory" else mk cz x wt last must start 50 pos pos ag #[ac 2,ae] 0 (-1) (gE (q+1) (ac pos)) (ac 0) (rh pos (q+1) b::fr) (w+2) ae (sn.add 18):=by left
 exact af e3 (af (if_neg (by lia)) rfl)
theorem X8{x:T}{wt must ob:Bool}{last start pc pos handed w:Nat}{fr:List iB}{sn:eP}{q:Int}{b b':Option Nat}{p':Nat}(hw:w+1<=16777216):(mk cz x wt last must start pc pos handed ob #[ac 2,ae] 0 (-1) (gE q b') (ac 0) (rh p' q b::fr) (w+2) (ac am) sn).step=mk cz x wt last must start 67 p' p' ag #[ac 2,ae] 0 (-1) (gE (q-1) b) ae (rn p' q::fr) (w+1) ae sn:=by
 have e3:(mk cz x wt last must start pc pos handed ob #[ac 2,ae] 0 (-1) (gE q b') (ac 0) (rh p' q b::fr) (w+2) (ac am) sn).step=if w+1+0>16777216 then(mk cz x wt last must start 67 p' handed ag #[ac 2,ae] 0 (-1) (gE (q-1) b) ae fr w ae sn).stick "frames:memory" else mk cz x wt last must start 67 p' p' ag #[ac 2,ae] 0 (-1) (gE (q-1) b) ae (rn p' q::fr) (w+1) ae sn:=by left
 exact af e3 (af (if_neg (by exact(λ{a b}=>vL.mpr) hw)) rfl)
def MG(l:T)(j:Nat):Prop:=(∃y,l=34::y/\j=0)\/∃b z k,l=92::b::z/\b≠10/\jv z am=ac k/\j=k+2
theorem Ec:∀(l:T)(j:Nat),jv l am=ac j->∃j',j=bE e9 l+j'/\MG (l.drop (bE e9 l)) j'
 |[],j,h=>aW h
 |c::r,j,h=>by
  have h:@aN (λO=>Option Nat) (ob (jv r (bt c 92)) λk=>ac (k+1)) (ac 0) (bt c 34)=ac j:=h;cases h1:bt c 34 with
  |true=>
   rw [h1]at h;cases f0 h1;refine bG h ?_;exact⟨0,rfl,.inl ⟨r,rfl,rfl⟩⟩
  |false=>
   rw [h1]at h;cases h2:bt c 92 with
   |true=>
    rw [h2]at h;cases f0 h2;refine aX h λk e h=>?_;refine bG h ?_;induction r using dD with
    |nil=>exact nomatch e
    |cons b z=>
     have e:aS (!bt b 10) (ob (jv z am) λk=>ac (k+1))=ac k:=e;refine bj e λg e=>aX e λk' e2 e=>?_;refine bG e ?_;exact⟨k'+2,(iA _).symm,.inr ⟨b,z,k',rfl,λq=>(by(symm;subst q);exact(nomatch g)),e2,rfl⟩⟩
   |false=>
    rw [h2]at h;refine aX h λk e h=>?_;refine bG h ?_;have hb:e9 c=ag:=by unfold e9;refine af h1 (af h2 ?_);rfl
    have n5:bE e9 (c::r)=bE e9 r+1:=by refine(?_:@aN (λO=>Nat) 0 (bE e9 r+1) (e9 c)=_);exact af hb rfl
    refine aw (Ec r k e) λj' q2'=>ay q2' λe1 e2=>?_;clear q2';refine af n5 ?_;exact⟨j',by lia,e2⟩
theorem nZ{x:T}{a:Nat}(h:x.drop p=a::y):x[p]? =ac a/\x.drop (p+1)=y/\p<x.length:=by
 have hp:p<x.length:=by
  by_cases q:p<x.length
  ·exact q
  ·rw [q8 (by simp_all)]at h;exact QN h
 rw [C8 hp]at h;cases h;exact⟨rX hp,rfl,hp⟩
theorem Qe(hx:b8 x)(hl:x.length<=lim):∀(n p:Nat)(q:Int)(b:Option Nat)(fr:List iB)(w handed:Nat)(sn:eP)(j:Nat),x.length<=p+n->b≠ac p->(∀i,b=ac i->i<p)->-1<=q->(∀f∈fr,FS f=ag)->w+4*(x.length-p)+20<=16777216->MG (x.drop p) j->
  ∃e,bp (mk cz x am last am 0 66 p handed ag #[ac 2,ae] 0 (-1) (gE q b) (ac 0) fr w ae sn) e (6*(x.length-p)+fr.length+20)/\xW e (p+j+1) #[ac 2,ac (p+j)] 1 1:=by
 intro n;induction n with
 |zero=>
  intro p q b fr w handed sn j h1 _ _ _ _ _ hm;rw [q8 (by omega)]at hm;rcases hm with⟨y,e,_⟩|⟨_,_,_,e,_⟩<;>cases e
 |succ n ih=>
  intro p q b fr w handed sn j h1 h2 h3 h4 h5 h6 hm;have a1:=@RC x am am last 0 p handed w fr sn q b h4 h2 (by lia);rcases hm with⟨y,e,rfl⟩|⟨c,z,k,e,hc,hz,rfl⟩
  ·refine bu (nZ e) λeI eU gC=>?_
   have zq:=(@vZ cz x am am ag last 0 _ p p (w+2) (#[ac 2,ae]) 0 (-1) (gE (q+1) (ac p)) (ac 0) (rh p (q+1) b::fr) (sn.add 18) _ LJ (by refine af eI ?_;decide));refine aw zq λs2 a2=>?_;clear zq;have a3:=@X8 x am am ag last 0 50 p p w fr s2 (q+1) b (ac p) p (by lia);have a4:(mk cz x am last am 0 67 p p ag #[ac 2,ae] 0 (-1) (gE (q+1-1) b) ae (rn p (q+1)::fr) (w+1) ae s2).step=(mk cz x am last am 0 69 p p ag #[ac 2,ac p] 1 1 (gE (q+1-1) b) ae (rn p (q+1)::fr) (w+1) ae (s2.add 17)):=by left
   refine aw (@uY cz x am am ag last 0 _ p p (w+1) (#[ac 2,ac p]) 1 1 (gE (q+1-1) b) ae (rn p (q+1)::fr) (s2.add 17) _ UR eI) λs5 a5=>?_;have a6:(mk cz x am last am 0 (69+2) (p+1) p ag #[ac 2,ac p] 1 1 (gE (q+1-1) b) ae (rn p (q+1)::fr) (w+1) ae s5).step=(mk cz x am last am 0 71 (p+1) (p+1) ag #[ac 2,ac p] 1 1 (gE (q+1-1) b) ae (rn p (q+1)::fr) (w+1) (ac ag) (s5.add 1)):=by left
   have zq:=(Bk (rn p (q+1)::fr) (mk cz x am last am 0 71 (p+1) (p+1) ag #[ac 2,ac p] 1 1 (gE (q+1-1) b) ae (rn p (q+1)::fr) (w+1) (ac ag) (s5.add 1)) rfl rfl rfl (λf hf=>(cI.mp hf).elim (λe=>by refine af e ?_;rfl) (h5 f)));refine aw zq λe q0'=>gY q0' λg o1 o2 o3 o4 q1'=>ay q1' λo5 o6=>?_;clear zq q0' q1';exact⟨e,((bp.one rfl a1).trans ((bp.one rfl a2).trans ((bp.one rfl a3).trans ((bp.one rfl a4).trans ((bp.one rfl a5).trans ((bp.one rfl a6).trans g)))))).le (by refine af kb ?_;lia),⟨o1,o2,o3,o4,o5,o6⟩⟩
  ·refine bu (nZ e) λeI eU gC=>?_
   refine bu (nZ eU) λg4 g5 g6=>?_;refine aw (@uY cz x am am ag last 0 _ p p (w+2) (#[ac 2,ae]) 0 (-1) (gE (q+1) (ac p)) (ac 0) (rh p (q+1) b::fr) (sn.add 18) _ LJ eI) λs2 a2=>?_;refine aw (@Rl x am am ag last 0 (p+1) p (w+2) (#[ac 2,ae]) 0 (-1) (gE (q+1) (ac p)) (ac 0) (rh p (q+1) b::fr) s2 _ g4 hc) λs3 a3=>?_;have zq:=(@Wb cz x am am ag last 0 53 (p+1+1) p (w+2) (gE (q+1) (ac p)) (rh p (q+1) b::fr) s3 _ _ _ _ TH hx hl (by lia) (eG _) (by lia));refine aw zq λs4 a4=>?_;clear zq;rw [g5]at a4;refine aw (Ec z k hz) λk' q2'=>ay q2' λe1 e2=>?_;clear q2';have ed:x.drop (p+1+1+bE e9 z)=z.drop (bE e9 z):=by exact af g5.symm (af zM rfl)
   rw [<-ed]at e2;have hle:=om e9 z;have hz:z.length=x.length-(p+1+1):=by exact af g5.symm (af jA rfl)
   obtain⟨e,g,o⟩:=ih (p+1+1+bE e9 z) (q+1) (ac p) (cu 53 (p+1+1+bE e9 z) ag (bE e9 z) zn::rh p (q+1) b::fr) (w+2+2) (p+1+1+bE e9 z) s4 k' (by lia) (λh=>absurd (eJ h) (by lia)) (λi hi=>by refine bG hi ?_;lia) (by lia) (λf hf=>by
    rcases cI.mp hf with rfl|hf
    ·rfl
    rcases cI.mp hf with rfl|hf
    ·rfl
    ·exact h5 f hf) (by lia) e2
   refine⟨e,((bp.one rfl a1).trans ((bp.one rfl a2).trans ((bp.one rfl a3).trans ((bp.one rfl a4).trans g)))).le (by refine af kb (af kb ?_);lia),?_⟩;refine af (show p+(k+2)=p+1+1+bE e9 z+k' by lia) ?_;exact o
theorem XO{n k:Nat}(h:n+2<=1048576):5+4*(n+2-k)+20<=16777216:=by lia
theorem Zu{n k:Nat}:1+(1+(1+(1+(1+(1+(1+(1+(6*(n+1+1-(2+k))+(0+1+1+1+1+1)+20))))))))<=6*(n+2)+100:=by lia
theorem Yl(hx:b8 (61::34::r))(hl:(61::34::r).length<=lim)(hj:jv r am=ac j):∃e,bp (eM cz.toArray (61::34::r).toArray 1 0 (61::34::r).length am) e (6*(61::34::r).length+100)/\xW e (j+3) #[ac 2,ac (j+2)] 1 1:=by
 have aB:bE cG (61::34::r)=0:=by
  refine(?_:@aN (λO=>Nat) 0 (bE cG (34::r)+1) (cG 61)=0);exact af (show cG 61=am by left) rfl
 have hk2:bE cG (34::r)=0:=by
  refine(?_:@aN (λO=>Nat) 0 (bE cG r+1) (cG 34)=0);exact af (show cG 34=am by left) rfl
 have hlen:(61::34::r).length=r.length+2:=rfl;refine aw (Ec r j hj) λj' q1'=>ay q1' λe1 e2=>?_;clear q1';have hle:=om e9 r;have hr:1<=r.length:=by induction r using dD with|nil=>exact aW hj|cons _ _=>exact oF _
 refine af (tA xV (by simp_all)) ?_;have a1:(mk cz (61::34::r) am (max 0 ((61::34::r).length-(3-1))) am 0 5 0 0 ag (cX (2*1) ae) (-1) (-1) #[] ae [bH 5 0 ag] 1 ae dR).step=(mk cz (61::34::r) am (max 0 ((61::34::r).length-(3-1))) am 0 7 0 0 ag (cX (2*1) ae) (-1) (-1) #[] ae [bH 5 0 ag] 1 ae ((dR.add 6).add 43)):=by left
 have zq:=(@lH cz (61::34::r) am am ag (max 0 ((61::34::r).length-(3-1))) 0 7 0 0 1 (cX (2*1) ae) (-1) (-1) (#[]) ae [bH 5 0 ag] ((dR.add 6).add 43) _ _ _ _ D6 hx hl (eG _) (eG _) (by decide) rfl);refine aw zq λs2 a2=>?_;clear zq;rw [nQ,aB,iA]at a2;refine aw (@uY cz (61::34::r) am am ag (max 0 ((61::34::r).length-(3-1))) 0 _ 0 0 (1+1) (cX (2*1) ae) (-1) (-1) (#[]) ae (cu 7 0 ag 0 {lastmark:=-1,lastindex:=-1}::[bH 5 0 ag]) s2 _ EP rfl) λs3 a3=>?_;have zq:=(@lH cz (61::34::r) am am ag (max 0 ((61::34::r).length-(3-1))) 0 19 1 0 (1+1) (cX (2*1) ae) (-1) (-1) (#[]) ae (cu 7 0 ag 0 {lastmark:=-1,lastindex:=-1}::[bH 5 0 ag]) s3 _ _ _ _ Jm hx hl (by simp) (eG _) (by decide) rfl);refine aw zq λs4 a4=>?_;clear zq;rw [show(61::34::r).drop 1=34::r from rfl,hk2]at a4;refine aw (@uY cz (61::34::r) am am ag (max 0 ((61::34::r).length-(3-1))) 0 _ 1 1 (1+1+1) (cX (2*1) ae) (-1) (-1) (#[]) ae (cu 19 1 ag 0 {lastmark:=-1,lastindex:=-1}::cu 7 0 ag 0 {lastmark:=-1,lastindex:=-1}::[bH 5 0 ag]) s4 _ Jp rfl) λs5 a5=>?_;have a6:(mk cz (61::34::r) am (max 0 ((61::34::r).length-(3-1))) am 0 31 2 1 ag (cX (2*1) ae) (-1) (-1) #[] ae (cu 19 1 ag 0 {lastmark:=-1,lastindex:=-1}::cu 7 0 ag 0 {lastmark:=-1,lastindex:=-1}::[bH 5 0 ag]) 3 ae s5).step=(mk cz (61::34::r) am (max 0 ((61::34::r).length-(3-1))) am 0 33 2 1 ag #[ac 2,ae] 0 (-1) #[] ae (cu 19 1 ag 0 {lastmark:=-1,lastindex:=-1}::cu 7 0 ag 0 {lastmark:=-1,lastindex:=-1}::[bH 5 0 ag]) 3 ae (s5.add 17)):=by left
 have zq:=(@lH cz (61::34::r) am am ag (max 0 ((61::34::r).length-(3-1))) 0 33 2 1 3 (#[ac 2,ae]) 0 (-1) (#[]) ae (cu 19 1 ag 0 {lastmark:=-1,lastindex:=-1}::cu 7 0 ag 0 {lastmark:=-1,lastindex:=-1}::[bH 5 0 ag]) (s5.add 17) _ _ _ _ Rp hx hl (by simp) (eG _) (by decide) rfl);refine aw zq λs7 a7=>?_;clear zq;rw [show(61::34::r).drop 2=r from rfl]at a7;have a8:(mk cz (61::34::r) am (max 0 ((61::34::r).length-(3-1))) am 0 (33+1+12) (2+bE e9 r) (2+bE e9 r) ag #[ac 2,ae] 0 (-1) #[] ae (cu 33 (2+bE e9 r) ag (bE e9 r) {lastmark:=0,lastindex:=-1}::cu 19 1 ag 0 {lastmark:=-1,lastindex:=-1}::cu 7 0 ag 0 {lastmark:=-1,lastindex:=-1}::[bH 5 0 ag]) (3+1) ae s7).step=(mk cz (61::34::r) am (max 0 ((61::34::r).length-(3-1))) am 0 66 (2+bE e9 r) (2+bE e9 r) ag #[ac 2,ae] 0 (-1) (gE (-1) ae) (ac 0) ({wait:=.closeLoop,pc:=46,pos:=2+bE e9 r,outermost:=ag,loop:=0}::cu 33 (2+bE e9 r) ag (bE e9 r) {lastmark:=0,lastindex:=-1}::cu 19 1 ag 0 {lastmark:=-1,lastindex:=-1}::cu 7 0 ag 0 {lastmark:=-1,lastindex:=-1}::[bH 5 0 ag]) 5 ae (s7.add 23)):=by left
 obtain⟨e,g,o⟩:=@Qe _ (max 0 ((61::34::r).length-(3-1))) hx hl (61::34::r).length (2+bE e9 r) (-1) ae ({wait:=.closeLoop,pc:=46,pos:=2+bE e9 r,outermost:=ag,loop:=0}::cu 33 (2+bE e9 r) ag (bE e9 r) {lastmark:=0,lastindex:=-1}::cu 19 1 ag 0 {lastmark:=-1,lastindex:=-1}::cu 7 0 ag 0 {lastmark:=-1,lastindex:=-1}::[bH 5 0 ag]) 5 (2+bE e9 r) (s7.add 23) j' (by simp) (λh=>aW h) (λi h=>aW h) (Int.le_refl _) (λf hf=>by
  rcases cI.mp hf with rfl|hf
  ·rfl
  rcases cI.mp hf with rfl|hf
  ·rfl
  rcases cI.mp hf with rfl|hf
  ·rfl
  rcases cI.mp hf with rfl|hf
  ·rfl
  rcases cI.mp hf with rfl|hf
  ·rfl
  ·exact nomatch hf) (XO (n:=r.length) hl) (by rw [show(61::34::r).drop (2+bE e9 r)=r.drop (bE e9 r) by rw [kB];rfl];exact e2)
 refine⟨e,((bp.one rfl a1).trans ((bp.one rfl a2).trans ((bp.one rfl a3).trans ((bp.one rfl a4).trans ((bp.one rfl a5).trans ((bp.one rfl a6).trans ((bp.one rfl a7).trans ((bp.one rfl a8).trans g)))))))).le (by refine(?_:_<=6*(r.length+2)+100);simp only [kb,Ob];exact Zu),?_⟩;refine af (show j+3=2+bE e9 r+j'+1 by lia) (af (show j+2=2+bE e9 r+j' by lia) ?_);exact o
noncomputable abbrev v5(h:cY)(st pt:aF)(lm:Nat)(li:Int)(vs:List aF):cY:=(h.push {cls:=.type "tuple",data:=.seq vs.toArray}).push {cls:=.type "re.Match",data:=.fields #[st,pt,bO 0,bO lm,bO li,.ref h.objs.size]}
theorem H3{M:lq}{A:cH}{E:aF->aC->Prop}{s:aC}{Q:aF->aC->Prop}{pt st:aF}{lm:Nat}{m:fY}(q:∀k,Q (.ref (s.heap.push {cls:=.type "tuple",data:=.seq (g8 [m.start,m.handed]).toArray}).objs.size) {s with heap:=v5 s.heap st pt lm m.lastindex (g8 [m.start,m.handed]),toks:=k}):aG M A (reNewMatch pt st 0 0 lm m) Q E s:=by
 unfold reNewMatch;dsimp only;rw [if_neg]
 ·repeat (any_goals (first|assumption|wp_step))
  exact q _
 ·refine(?_:¬(am=ag))
  decide
theorem LZ{M:lq}{A:cH}{E:aF->aC->Prop}{s:aC}{Q:aF->aC->Prop}{pt st:aF}{lm b e:Nat}{m:fY}(h1:m.marks= #[ac b,ac e])(h2:m.lastmark=1)(h3:b<=e)(q:∀k,Q (.ref (s.heap.push {cls:=.type "tuple",data:=.seq (g8 [m.start,m.handed,b,e]).toArray}).objs.size) {s with heap:=v5 s.heap st pt lm m.lastindex (g8 [m.start,m.handed,b,e]),toks:=k}):aG M A (reNewMatch pt st 1 0 lm m) Q E s:=by
 unfold reNewMatch;dsimp only;rw [h1,h2,if_neg]
 ·repeat (any_goals (first|assumption|wp_step))
  exact q _
 ·refine(?_:¬((az (((2*0+1:Nat):Int)<=1)&&az (e<b))||false)=ag)
  rw [show az (e<b)=am from decide_eq_false (by simp_all),OD];decide
theorem abn:Ae "re.Pattern":=⟨⟨"object.__getattribute__",by rw [iQ,iR];left,by decide+kernel⟩,by rw [iQ,iR];left⟩
theorem Ih:kD "re.Pattern" "search" "re.Pattern.search":=
 .of (owner:="re.Pattern") (n:="search") (by rw [iQ,iR];left) (by decide+kernel) (by decide+kernel) (by decide+kernel) (.inr (by decide+kernel)) (by rw [lu];left)
theorem Jg:kD "re.Pattern" "fullmatch" "re.Pattern.fullmatch":=
 .of (owner:="re.Pattern") (n:="fullmatch") (by rw [iQ,iR];left) (by decide+kernel) (by decide+kernel) (by decide+kernel) (.inr (by decide+kernel)) (by rw [lu];left)
theorem KN(a b:aF):kE "re.Pattern.search" ⟨[a,b],[]⟩:=by unfold kE;left
theorem KZ(a b:aF):kE "re.Pattern.fullmatch" ⟨[a,b],[]⟩:=by unfold kE;left
theorem bD.pat{w:b7}{os:dl}{lam:aK->Option T}{sp:Nat->List ak->Option ak}{ns:List ak->Option ak}{F:bn}{s:aC}(hf:bD (bL w os lam sp ns) F s)(p:fM):∃o ot vs,s.heap.get? (rQ p)=ac o/\o.cls=.type "re.Pattern"/\o.dict=ae/\o.data=.fields vs/\vs.getD 2 .none=bO (q5 p)/\vs.getD 5 .none=.ref (wo p)/\vs.getD 6 .none=bO 0/\s.heap.get? (wo p)=ac ot/\ot.data=.seq (((qN p).map λn:Nat=>(n:Int)).map bO).toArray 0:=by
 have h1:=JP w.params p;have h2:=Vk w.params p;cases e1:(dJ w.params).lookup (rQ p)with
 |none=>rw [e1]at h1;exact aW h1
 |some o=>
  cases e2:(dJ w.params).lookup (wo p)with
  |none=>rw [e2]at h2;exact aW h2
  |some ot=>
   rw [e1]at h1;rw [e2]at h2;have h1:=eJ h1;have h2:=eJ h2;have c1:o.cls=.type "re.Pattern":=congrArg (·.1) h1;have c2:o.dict=ae:=congrArg (·.2.1) h1;have c3:Ha o=ac (bO (q5 p),.ref (wo p),bO 0):=congrArg (·.2.2) h1;unfold Ha at c3;cases e3:o.data<;>rw [e3]at c3<;>first|exact aW c3|skip
   rename_i vs;have c3:=eJ c3;exact⟨o,ot,vs,hf.sat _ _ (hf.base _ _ e1),c1,c2,e3,congrArg (·.1) c3,congrArg (·.2.1) c3,congrArg (·.2.2) c3,hf.sat _ _ (hf.base _ _ e2),h2⟩
theorem CQ(p:fM):(((qN p).map λn:Nat=>(n:Int)).map dM).toArray=(qN p).toArray:=by
 rw [jB,show(dM∘λn:Nat=>(n:Int))=_root_.id from funext λn=>rfl,Df]
theorem rJ(x:T):(toS x).cps=x.toArray:=by simp [toS]
theorem aP.of2{α:Type}{t:gw α}{P:bn->α->Prop}(hf:bD G F s)(h:aG (aQ G.prog G.w) A t (λv s'=>(∀a o,s.heap.get? a=ac o->s'.heap.get? a=ac o)/\s'.os=s.os/\s'.gens=s.gens/\∃a o b o',s.heap.get? a=ae/\s.heap.get? b=ae/\b≠a/\s'.heap.get? a=ac o/\s'.heap.get? b=ac o'/\P (eT (eT F a o) b o') v) aU s):aP G A t F s P:=
 cn (oC (bZ _) h) (λv s' x=>by
  refine mq x λht aB ho hg q0'=>d4 q0' λa o b o' q1'=>gY q1' λhn hn' hab ha hb p=>?_;clear x q0' q1';have f2:eT F a o b=ae:=by unfold eT;refine af (if_neg hab) ?_;exact hf.fresh hn'
  exact⟨_,(fj (hf.fresh hn)).trans (fj f2),⟨(fj (hf.fresh hn)).trans (fj f2),((hf.keeps ⟨aB,ho,hg,ht⟩).add (hf.fresh hn) ha (hf.notab hn)).add f2 hb (hf.notab hn'),λa o e O=>aB a o e,λc oc e=>(qV e).elim (λq=>(qV q).elim .inl λq=>.inr (by refine af q ?_;exact hn)) λq=>.inr (by refine af q ?_;exact hn')⟩,p⟩) λO O x=>x.2
theorem Gd{s:aC}{x:T}{n k:Nat}(hx:x.length<=n)(ha:b8 x)(hp:∀p∈ps,p<=x.length):
  (∀a o,s.heap.get? a=ac o->({s with heap:=v5 s.heap (.str (toS x) t) (.ref pa) x.length li (g8 ps),toks:=k}:aC).heap.get? a=ac o)/\s.os=s.os/\s.gens=s.gens/\∃a o b o',s.heap.get? a=ae/\s.heap.get? b=ae/\b≠a/\({s with heap:=v5 s.heap (.str (toS x) t) (.ref pa) x.length li (g8 ps),toks:=k}:aC).heap.get? a=ac o/\({s with heap:=v5 s.heap (.str (toS x) t) (.ref pa) x.length li (g8 ps),toks:=k}:aC).heap.get? b=ac o'/\aZ G (.mat x n ps) (eT (eT F a o) b o') (.ref (s.heap.push {cls:=.type "tuple",data:=.seq (g8 ps).toArray}).objs.size):=by
 have k1:∀a o,s.heap.get? a=ac o->(s.heap.push {cls:=.type "tuple",data:=.seq (g8 ps).toArray}).get? a=ac o:=λO O e=>eN _ e;have nb:s.heap.get? (s.heap.push {cls:=.type "tuple",data:=.seq (g8 ps).toArray}).objs.size=ae:=by
  cases q:s.heap.get? (s.heap.push {cls:=.type "tuple",data:=.seq (g8 ps).toArray}).objs.size with
  |none=>rfl
  |some o=>exact absurd (k1 _ _ q) (by rw [fW];exact λh=>aW h)
 have ta:(s.heap.push {cls:=.type "tuple",data:=.seq (g8 ps).toArray}).get? s.heap.objs.size=ac {cls:=.type "tuple",data:=.seq (g8 ps).toArray}:=fZ _ rfl;have ne:(s.heap.push {cls:=.type "tuple",data:=.seq (g8 ps).toArray}).objs.size≠s.heap.objs.size:=λh=>by rw [<-h,fW]at ta;exact aW ta
 refine⟨λO O e=>eN _ (k1 _ _ e),rfl,rfl,_,_,_,_,fW _,nb,ne,eN _ ta,fZ _ rfl,?_⟩;exact⟨_,s.heap.objs.size,pa,t,li,0,rfl,jj,by unfold eT;exact af (if_neg (r9 ne)) (af (if_pos rfl) rfl),hx,ha,hp⟩
theorem CP{w:b7}{os:dl}{lam:aK->Option T}{sp:Nat->List ak->Option ak}{ns:List ak->Option ak}{A:cH}{F:bn}{s:aC}{p:fM}{x:T}{t:fh}{n N:Nat}{e:fY}{ps:List Nat}(hf:bD (bL w os lam sp ns) F s)(hx:x.length<=n)(hn:n<=lim)(ha:b8 x)(g:bp (eM (qN p).toArray x.toArray (q5 p) 0 x.length am) e N)(hN:N<2^65)(o:e.outcome=ac .matched)(hm:(q5 p=0/\ps=[e.start,e.handed])\/(∃a b,q5 p=1/\e.marks= #[ac a,ac b]/\e.lastmark=1/\a<=b/\ps=[e.start,e.handed,a,b]))(hp:∀p∈ps,p<=x.length):
  aP (bL w os lam sp ns) A (call (.builtin "re.Pattern.search") [(bL w os lam sp ns).val (.pat p),.str (toS x) t]) F s (aZ (bL w os lam sp ns) (.mat x n ps)):=by
 refine gB (hf.pat p) λob ot vs q1'=>gY q1' λp1 p2 p3 p4 p5 q2'=>dH q2' λp6 p7 p8 p9=>?_;clear q1' q2';refine aP.of2 hf (uP Ih ⟨ob,p1,p2⟩ JN (KN _ _) ?_);unfold fO.«re.Pattern.search»;refine bv (E7 (kd:=0) p1 p4 p6 p5 p7 p8 p9 (bM hx hn) ?_);unfold reAnswer;dsimp only;rw [CQ,rJ,eO];refine bv (xS g hN (.inl ⟨o,rfl⟩) ?_);dsimp only;rcases hm with⟨h0,rfl⟩|⟨a,b,h1,h2,h3,h4,rfl⟩
 ·refine af h0 ?_
  refine bv (H3 λk=>cq ⟨_,rfl,Gd hx ha hp⟩)
 ·refine af h1 ?_
  refine bv (LZ h2 h3 h4 λk=>cq ⟨_,rfl,Gd hx ha hp⟩)
theorem sI{w:b7}{os:dl}{lam:aK->Option T}{sp:Nat->List ak->Option ak}{ns:List ak->Option ak}{A:cH}{F:bn}{s:aC}{p:fM}{x:T}{t:fh}{n N:Nat}{e:fY}(hf:bD (bL w os lam sp ns) F s)(hx:x.length<=n)(hn:n<=lim)(g:bp (eM (qN p).toArray x.toArray (q5 p) 0 x.length am) e N)(hN:N<2^65)(o:e.outcome=ac .failed):
  aP (bL w os lam sp ns) A (call (.builtin "re.Pattern.search") [(bL w os lam sp ns).val (.pat p),.str (toS x) t]) F s (aZ (bL w os lam sp ns) .none):=by
 refine gB (hf.pat p) λob ot vs q0'=>gY q0' λp1 p2 p3 p4 p5 q1'=>dH q1' λp6 p7 p8 p9=>?_;clear q0' q1';refine aP.of hf (uP Ih ⟨ob,p1,p2⟩ JN (KN _ _) ?_);unfold fO.«re.Pattern.search»;refine bv (E7 (kd:=0) p1 p4 p6 p5 p7 p8 p9 (bM hx hn) ?_);unfold reAnswer;dsimp only;rw [CQ,rJ,eO];refine bv (xS g hN (.inr ⟨o,rfl⟩) ?_);dsimp only;exact cq ⟨_,rfl,hJ (P:=aZ (bL w os lam sp ns) .none) rfl⟩
theorem G5{x:T}{n k:Nat}(hx:x.length<=n)(hn:n<=lim):6*x.length+100<2^65:=by
 have hn:n<=1048576:=hn;have:6*x.length+100<=6291556:=by lia
 exact mH this (by decide)
theorem Cg(h:(!cG e)=ag):bE cG (e::r)=0:=by
 refine(?_:@aN (λO=>Nat) 0 (bE cG r+1) (cG e)=0);cases q:cG e with
 |false=>rfl
 |true=>rw [q]at h;exact bR h
theorem Lu:∀(l:T)(b:Bool)(j:Nat),jv l b=ac j->j<l.length
 |[],b,j,h=>aW h
 |c::r,b,j,h=>by
  have h:@aN (λO=>Option Nat) (@aN (λO=>Option Nat) (ob (jv r (bt c 92)) λk=>ac (k+1)) (ac 0) (bt c 34)) (aS (!bt c 10) (ob (jv r am) λk=>ac (k+1))) b=ac j:=h;have go:∀b',(ob (jv r b') λk=>ac (k+1))=ac j->j<r.length+1:=λb' h=>aX h λk e h=>by
   refine bG h ?_;have:=Lu r b' k e;exact Nat.add_lt_add_right this 1
  induction b using hO with
  |true=>exact bj h λO h=>go _ h
  |false=>
   cases q:bt c 34 with
   |true=>rw [q]at h;refine bG h ?_;exact oF _
   |false=>rw [q]at h;exact go _ h
theorem Ue{w:b7}{os:dl}{lam:aK->Option T}{sp:Nat->List ak->Option ak}{ns:List ak->Option ak}{A:cH}{F:bn}{s:aC}(p:fM)(x:T)(t:fh)(n:Nat)(r:Option (List Nat))(hf:bD (bL w os lam sp ns) F s)(hx:x.length<=n)(hn:n<=lim)(ha:b8 x)(h:rl p x=ac r):
  aP (bL w os lam sp ns) A (call (.builtin "re.Pattern.search") [(bL w os lam sp ns).val (.pat p),.str (toS x) t]) F s (aZ (bL w os lam sp ns) (@dL (List Nat) (λO=>ak) .none (λsp=>.mat x n sp) r)):=by
 have hl:=bM hx hn;have h65:=G5 (k:=0) hx hn;cases p with
 |tok=>
  have h:@gW (λO=>Option (Option (List Nat))) (aS (bt (bE cG x) 0) (ac ae)) (λj O=>ac (ac [0,bE cG x+(j+1),bE cG x,bE cG x+(j+1)])) (bE sK (x.drop (bE cG x)))=ac r:=h;cases q:bE sK (x.drop (bE cG x))with
  |zero=>
   rw [q]at h;refine bj h λk h=>?_;cases h;have k:=f0 k;rw [k,nQ]at q;refine aw (Wy ha hl k q) λe q2'=>ay q2' λg o=>?_;clear q2';exact sI hf hx hn g (by lia) o
  |succ j=>
   rw [q]at h;cases h;refine aw (P5 ha hl rfl q) λe q1'=>ay q1' λg o=>?_;clear q1';have h1:=om cG x;have h2:=om sK (x.drop (bE cG x));rw [q,jA]at h2;refine CP hf hx hn ha g (by lia) o.o (.inr ⟨_,_,rfl,o.m,o.lm,by lia,by exact af o.s (af o.h rfl)⟩) λp hp=>?_;simp only [cI,oE,or_false]at hp;lia
 |quo=>
  refine aX h λo e h=>?_;cases x with
  |nil=>
   cases e;cases h;refine aw (Lb ha hl rfl (λh=>nomatch h)) λe q0'=>ay q0' λg o=>?_;clear q0';exact sI hf hx hn g (by lia) o
  |cons a y=>
   refine bj e λnsp e=>?_;cases q:bt a 61 with
   |false=>
    rw [q]at e;cases e;cases h;have zq:=(Lb ha hl (Cg nsp) (λh=>by cases h;cases q));refine aw zq λe q2'=>ay q2' λg o=>?_;clear zq q2';exact sI hf hx hn g (by lia) o
   |true=>
    rw [q]at e;cases f0 q;cases y with
    |nil=>
     cases e;cases h;refine aw (Ma ha hl rfl (λh=>nomatch h)) λe q1'=>ay q1' λg o=>?_;clear q1';exact sI hf hx hn g (by lia) o
    |cons b z=>
     refine bj e λjJ e=>?_;cases e;have h:@aN (λO=>Option (Option (List Nat))) (ac ae) (ob (jv z am) λj=>ac (ac [0,j+3,2,j+2])) (bt b 34)=ac r:=h;cases q2:bt b 34 with
     |false=>
      rw [q2]at h;cases h;have zq:=(Ma ha hl (Cg jJ) (λh=>by cases h;cases q2));refine aw zq λe q0'=>ay q0' λg o=>?_;clear zq q0';exact sI hf hx hn g (by lia) o
     |true=>
      rw [q2]at h;cases f0 q2;refine aX h λj ej h=>?_;cases h;refine aw (Yl ha hl ej) λe q2'=>ay q2' λg o=>?_;clear q2';have hb:=Lu z am j ej;refine CP hf hx hn ha g (by lia) o.o (.inr ⟨_,_,rfl,o.m,o.lm,by lia,by exact af o.s (af o.h rfl)⟩) λp hp=>?_;simp only [cI,oE,or_false]at hp;simp only [kb];lia
 |val=>
  refine aX h λo e h=>?_;cases x with
  |nil=>
   cases e;cases h;refine aw (IM ha hl rfl (λh=>nomatch h)) λe q1'=>ay q1' λg o=>?_;clear q1';exact sI hf hx hn g (by lia) o
  |cons a y=>
   refine bj e λnsp e=>?_;cases q:bt a 61 with
   |false=>
    rw [q]at e;cases e;cases h;have zq:=(IM ha hl (Cg nsp) (λh=>by cases h;cases q));refine aw zq λe q0'=>ay q0' λg o=>?_;clear zq q0';exact sI hf hx hn g (by lia) o
   |true=>
    rw [q]at e;cases f0 q;have key:bE cG y=0->ac (ac [0,1+bE mZ y,1,1+bE mZ y])=ac r->aP (bL w os lam sp ns) A (call (.builtin "re.Pattern.search") [(bL w os lam sp ns).val (.pat .val),.str (toS (61::y)) t]) F s (aZ (bL w os lam sp ns) (@dL (List Nat) (λO=>ak) .none (λsp=>.mat (61::y) n sp) r)):=λhy h=>by
     cases h;refine aw (U3 ha hl hy) λe q2'=>ay q2' λg o=>?_;clear q2';have h1:=om mZ y;refine CP hf hx hn ha g (by decide) o.o (.inr ⟨_,_,rfl,o.m,o.lm,by lia,by exact af o.s (af o.h rfl)⟩) λp hp=>?_;simp only [cI,oE,or_false]at hp;simp only [kb];lia
    cases y with
    |nil=>
     cases e;exact key rfl h
    |cons b z=>
     refine bj e λjJ e=>?_;cases e;exact key (Cg jJ) h
 |ip4=>
  refine aX h λo e h=>?_;have e:ob (lj 4000 (eM tj.toArray x.toArray 0 0 x.toArray.size am)).outcome (λo=>@ZO (λO=>Option (Option (List Nat))) (ac (ac [(lj 4000 (eM tj.toArray x.toArray 0 0 x.toArray.size am)).start,(lj 4000 (eM tj.toArray x.toArray 0 0 x.toArray.size am)).handed])) (ac ae) (λO=>ae) o)=ac o:=e;rw [eO]at e;have g:bp (eM (qN .ip4).toArray x.toArray (q5 .ip4) 0 x.length am) (lj 4000 (eM tj.toArray x.toArray 0 0 x.length am)) 4000:=⟨4000,bZ _,rfl⟩;generalize lj 4000 (eM tj.toArray x.toArray 0 0 x.length am)=m at e g;refine aX e λoc eo e=>?_;cases oc with
  |matched=>
   cases e;refine bj h λhp h=>?_;cases h;exact CP hf hx hn ha g (by decide) eo (.inl ⟨rfl,rfl⟩) λp q=>gy (eV.mp hp p q)
  |failed=>
   cases e;cases h;exact sI hf hx hn g (by decide) eo
  |stuck _=>exact aW e
 |_=>exact aW h
theorem HX:mw rm 5 16 1 0 pw:=⟨by left,by left,by left,by left,by decide+kernel,λsn=>by left⟩
abbrev kP(x:T)(pc pos handed:Nat)(fr:List iB)(w:Nat)(ans:Option Bool)(sn:eP):fY:=mk rm x ag 0 am 0 pc pos handed ag (cX (2*0) ae) (-1) (-1) #[] ae fr w ans sn
noncomputable abbrev zd:HR:={lastmark:=-1,lastindex:=-1}
theorem WD{x:T}{sn:eP}{w handed:Nat}{k:Nat}(aB:k<x.length){fr:List iB}:(kP x 22 k handed fr w ae sn).step=kP x 22 k handed fr w (ac am) (sn.add 1):=by
 have e:(kP x 22 k handed fr w ae sn).step=if(ag&&((ag&&(k !=x.length))||(am&&(k==0))))=ag then kP x 22 k handed fr w (ac am) (sn.add 1)else kP x 22 k k fr w (ac ag) (sn.add 1):=by left
 rw [e,if_pos];rw [show(k !=x.length)=ag from bne_iff_ne.mpr (by exact iP aB)];rfl
theorem VV{x:T}{sn:eP}{w handed:Nat}{fr:List iB}:(kP x 22 x.length handed fr w ae sn).step=kP x 22 x.length x.length fr w (ac ag) (sn.add 1):=by
 have e:(kP x 22 x.length handed fr w ae sn).step=if(ag&&((ag&&(x.length !=x.length))||(am&&(x.length==0))))=ag then kP x 22 x.length handed fr w (ac am) (sn.add 1)else kP x 22 x.length x.length fr w (ac ag) (sn.add 1):=by left
 rw [e,if_neg];rw [show(x.length !=x.length)=am from bne_self_eq_false _];exact(λh=>bR h)
theorem KT{x:T}:∀(k handed:Nat)(sn:eP),k+1<x.length->∃e,bp (kP x 22 (k+1) handed [cu 5 (k+1) ag (k+1) zd] 1 ae sn) e (2*k+4)/\e.outcome=ac .failed
 |k,handed,sn,aB=>by
  have a1:=WD (handed:=handed) (w:=1) (sn:=sn) aB (fr:=[cu 5 (k+1) ag (k+1) zd]);have e:(kP x 22 (k+1) handed [cu 5 (k+1) ag (k+1) zd] 1 (ac am) (sn.add 1)).step=if(((k+1:Nat):Int)-1<((1:Nat):Int))then kP x 5 (k+1) handed [] 0 (ac am) (sn.add 1)else kP x 22 k k [{wait:=.giveBack,pc:=5,pos:=k,outermost:=ag,count:=((k+1:Nat):Int)-1,kept:=zd}] 1 ae (sn.add 1):=by left
  cases k with
  |zero=>
   rw [if_pos (by decide)]at e;exact⟨_,((bp.one rfl a1).trans ((bp.one rfl e).trans sx)).le (by exact ik (1+(1+1)) 1),rfl⟩
  |succ j=>
   rw [if_neg (by lia),show((j+1+1:Nat):Int)-1=((j+1:Nat):Int) by simp]at e;have zq:=(@KT x j (j+1) (sn.add 1) (by exact lW aB));refine aw zq λz q0'=>ay q0' λg f=>?_;clear zq q0';exact⟨z,((bp.one rfl a1).trans ((bp.one rfl e).trans g)).le (by lia),f⟩
theorem Ri{x:T}:HS rm.toArray x.toArray 0 0 x.length ag am=if(((1 !=0)&&az (0<=x.length))&&az (x.length-0<1))=ag then kP x 5 0 0 [] 0 (ac am) dR else kP x 5 0 0 [] 0 ae dR:=by left
theorem QP{x:T}(hx:b8 x)(hl:x.length<=lim):∃e,bp (HS rm.toArray x.toArray 0 0 x.length ag am) e (2*x.length+20)/\@aN (λO=>Prop) (e.outcome=ac .failed) (e.outcome=ac .matched/\e.start=0/\e.handed=x.length) (!eW x&&bt (bE pw x) x.length):=by
 induction x using dD with
 |nil=>exact⟨_,(bp.one (m:=HS rm.toArray ([]:T).toArray 0 0 ([]:T).length ag am) (by left) (tN _)).le (by decide),show _=_ by left⟩
 |cons a r=>
  generalize hX:a::r=x at*;have hlen:1<=x.length:=by rw [<-hX];exact oF _
  rw [Ri,if_neg (by rw [HH,decide_eq_true_iff];lia)];rw [show(!eW x&&bt (bE pw x) x.length)=bt (bE pw x) x.length by rw [<-hX];rfl];cases q:bE pw x with
  |zero=>
   have zq:=(@Ny rm x ag am ag 0 0 5 0 0 0 (cX (2*0) ae) (-1) (-1) (#[]) ae [] dR _ _ _ _ HX hx hl (eG _) (by rw [nQ,q];decide));refine aw zq λs1 a1=>?_;clear zq;refine⟨_,((bp.one rfl a1).trans sx).le (by simp),?_⟩;have:bt 0 x.length=am:=by cases z:bt 0 x.length with|false=>rfl|true=>have:=f0 z;lia
   rw [this]
  |succ j=>
   have zq:=(@lH rm x ag am ag 0 0 5 0 0 0 (cX (2*0) ae) (-1) (-1) (#[]) ae [] dR _ _ _ _ HX hx hl (eG _) (by rw [nQ,q];exact oF _) (by decide) rfl);refine aw zq λs1 a1=>?_;clear zq;rw [nQ,q,iA]at a1;have hle:=om pw x;rw [q]at hle;by_cases e:j+1=x.length
   ·rw [show bt (j+1) x.length=ag by rw [e];exact Dk _]
    rw [e]at a1;have a2:=@VV x s1 (0+1) x.length [cu 5 x.length ag x.length zd];exact⟨_,((bp.one rfl a1).trans ((bp.one rfl a2).trans ((bp.one rfl (zb rfl)).trans Bl))).le (by simp),rfl,rfl,rfl⟩
   ·have zq:=(@KT x j (j+1) s1 (by exact Nat.lt_of_le_of_ne hle e));refine aw zq λz q2'=>ay q2' λg f=>?_;clear zq q2'
    refine⟨z,((bp.one rfl a1).trans g).le (by lia),?_⟩;have:bt (j+1) x.length=am:=by cases y:bt (j+1) x.length with|false=>rfl|true=>exact absurd (f0 y) e
    rw [this];exact f
set_option backward.match.sparseCases true
theorem Y3{w:b7}{os:dl}{lam:aK->Option T}{sp:Nat->List ak->Option ak}{ns:List ak->Option ak}{A:cH}{F:bn}{s:aC}{x:T}{t:fh}{n:Nat}(hf:bD (bL w os lam sp ns) F s)(hx:x.length<=n)(hn:n<=lim)(ha:b8 x):
  aP (bL w os lam sp ns) A (call (.builtin "re.Pattern.fullmatch") [(bL w os lam sp ns).val (.pat .jtok),.str (toS x) t]) F s (aZ (bL w os lam sp ns) (@aN (λO=>ak) .none (.mat x n [0,x.length]) (!eW x&&bt (bE pw x) x.length))):=by
 refine gB (hf.pat .jtok) λob ot vs q2'=>gY q2' λp1 p2 p3 p4 p5 q0'=>dH q0' λp6 p7 p8 p9=>?_;clear q2' q0';have hl:=bM hx hn;have h65:=G5 (k:=0) hx hn;refine aw (QP ha hl) λe q1'=>ay q1' λg o=>?_;clear q1';have pre:∀Q:Fin->aC->Prop,aG (aQ (bL w os lam sp ns).prog (bL w os lam sp ns).w) A.in1 (do match<-reRunToEnd (HS rm.toArray x.toArray 0 0 x.length ag am)with
   |some m=>ret (<-reNewMatch (.ref (rQ .jtok)) (.str (toS x) t) 0 0 x.length m)
   |none=>ret .none) Q aU s->aG (aQ (bL w os lam sp ns).prog (bL w os lam sp ns).w) A.in1 (fO.«re.Pattern.fullmatch» ⟨[.ref (rQ .jtok),.str (toS x) t],[]⟩) Q aU s:=λQ h=>by
  unfold fO.«re.Pattern.fullmatch»;refine bv (E7 (kd:=0) p1 p4 p6 p5 p7 p8 p9 hl ?_);unfold reAnswer;dsimp only;rw [CQ,rJ,eO];exact h
 cases q:(!eW x&&bt (bE pw x) x.length)with
 |true=>
  rw [q]at o;refine bu o λo1 o2 o3=>?_;clear o;refine aP.of2 hf (uP Jg ⟨ob,p1,p2⟩ I5 (KZ _ _) (pre _ ?_));refine bv (xS g (by lia) (.inl ⟨o1,rfl⟩) ?_);dsimp only;refine bv (H3 λk=>cq ⟨_,rfl,?_⟩);refine af o2 (af o3 ?_);exact Gd hx ha λp hp=>by
   simp only [cI,oE,or_false]at hp;lia
 |false=>
  rw [q]at o;refine aP.of hf (uP Jg ⟨ob,p1,p2⟩ I5 (KZ _ _) (pre _ ?_));refine bv (xS g (by lia) (.inr ⟨o,rfl⟩) ?_);dsimp only;exact cq ⟨_,rfl,hJ (P:=aZ (bL w os lam sp ns) .none) rfl⟩
theorem Xx{w:b7}{os:dl}{lam:aK->Option T}{sp:Nat->List ak->Option ak}{ns:List ak->Option ak}(p:fM)(s:aC)(h:je (bL w os lam sp ns) s.heap):∃a o,(bL w os lam sp ns).val (.pat p)=.ref a/\s.heap.get? a=ac o/\o.cls=.type "re.Pattern"/\o.dict=ae:=by
 have h1:=JP w.params p;cases e1:(dJ w.params).lookup (rQ p)with
 |none=>rw [e1]at h1;exact aW h1
 |some o=>
  rw [e1]at h1;have h1:=eJ h1;exact⟨rQ p,o,rfl,h _ _ e1,congrArg (·.1) h1,congrArg (·.2.1) h1⟩
theorem Pq:kD "re.Pattern" "subn" "re.Pattern.subn":=
 .of (owner:="re.Pattern") (n:="subn") (by rw [iQ,iR];left) (by decide+kernel) (by decide+kernel) (by decide+kernel) (.inr (by decide+kernel)) (by rw [lu];left)
theorem V0(a b c:aF):kE "re.Pattern.subn" ⟨[a,b,c],[]⟩:=by unfold kE;left
theorem RD:qs table "re.Pattern.subn"=ac fO.«re.Pattern.subn»:=si (by left)
theorem Vr:qs table "re.Pattern.sub.loop"=ac fO.«re.Pattern.sub.loop»:=si (by left)
theorem abD(h:cY)(g:Array HL)(d:Drawn)(tk:Nat)(os:dl):True:=trivial
theorem QL(a b:aF):reNamed "re.Pattern.subn" "subn" ["repl","string","count"] 2 [a,b] []=pure [ac a,ac b,ae]:=by left
theorem VS(a b:aF):reNamed "re.Pattern.sub" "sub" ["repl","string","count"] 2 [a,b] []=pure [ac a,ac b,ae]:=by left
theorem XS:xz (.type "str") (fi "__call__")=pure ae:=by rw [iQ,iR];left
def cM(a:bw)(x:T)(t:fh)(c:List Nat)(gr:Nat):ReTarget:=⟨.ref a,.str (toS x) t,c.toArray,(toS x).cps,0,gr,0,(toS x).cps.size⟩
theorem vc{A:cH}{s:aC}{M:lq}{E:aF->aC->Prop}{Q:ReTarget->aC->Prop}{a ta:bw}{o ot:aJ}{vs:Array aF}{cs:List Int}{n:Nat}{x:T}{t:fh}{gr:Nat}(ho:s.heap.get? a=ac o)(hd:o.data=.fields vs)(h5:vs.getD 5 .none=.ref ta)(h2:vs.getD 2 .none=bO gr)(h6:vs.getD 6 .none=bO 0)(hot:s.heap.get? ta=ac ot)(hdt:ot.data=.seq (cs.map bO).toArray n)(q:Q (cM a x t (cs.map dM) gr) s):aG M A (reWholeTarget (.ref a) (.str (toS x) t)) Q E s:=by
 unfold reWholeTarget
 repeat (any_goals (first|assumption|wp_step))
 rw [hd]
 repeat (any_goals (first|assumption|wp_step))
 rw [h6,if_neg (by decide)]
 repeat (any_goals (first|assumption|wp_step))
 rw [h5]
 repeat (any_goals (first|assumption|wp_step))
 rw [hdt];refine cq (cq (cq ?_));have e1:sk (λx:Int=>x.toNat) (sk reRawOf ((ac (cs.map bO).toArray).getD #[]))=(cs.map dM).toArray:=by
  refine(?_:sk (λx:Int=>x.toNat) (sk reRawOf (cs.map bO).toArray)=_);rw [Dl,Dl,jB,jB];rfl
 refine af e1 (af h2 ?_);exact q
theorem ST{A:cH}{s:aC}{x:T}{t u:fh}{M:nH}{W:b7}{E:aF->aC->Prop}{Q:Fin->aC->Prop}{a ta:bw}{o ot:aJ}{vs:Array aF}{cs:List Int}{n:Nat}{gr:Nat}(ho:s.heap.get? a=ac o)(hd:o.data=.fields vs)(h5:vs.getD 5 .none=.ref ta)(h2:vs.getD 2 .none=bO gr)(h6:vs.getD 6 .none=bO 0)(hot:s.heap.get? ta=ac ot)(hdt:ot.data=.seq (cs.map bO).toArray n)(q:∀k,Q (.again (.builtin "re.Pattern.sub.loop" ⟨[.ref a,.str (toS x) t,.str (toS []) u,bO 0,bO 0,bO 0,bO 0,bO 0,.bool am,.ref s.heap.objs.size,.bool ag],[]⟩)) {s with heap:=s.heap.push (dg [] 0),toks:=k}):aG (aQ M W) A (fO.«re.Pattern.subn» ⟨[.ref a,.str (toS []) u,.str (toS x) t],[]⟩) Q E s:=by
 have f1:=XS;unfold fO.«re.Pattern.subn» reSubstitute;dsimp only;rw [QL];refine bv (cq ?_);dsimp only
 repeat (any_goals (first|assumption|wp_step))
 refine af (if_pos (show(!(toS []).cps.contains 92)=ag by simp [toS])) ?_
 repeat (any_goals (first|assumption|with_reducible refine bv (vc ho hd h5 h2 h6 hot hdt ?_)|with_reducible refine vc ho hd h5 h2 h6 hot hdt ?_|wp_step))
 exact q _
theorem Ao{Q:aF->aC->Prop}{arr:Array Nat}{kd:Nat}(aB:kd=0)(he:(⟨arr.extract b e⟩:aL)=toS y)(hy:y.length<=lim)(q:∀t' k,Q (.str (toS y) t') {s with toks:=k}):aG M A (reSlice arr kd b e) Q E s:=by
 subst aB;unfold reSlice;refine af (if_pos (by decide)) (af he ?_);exact wpAny_mkStr (q _ _) (by rw [fH,gM];exact bM hy (by decide))
theorem CE{A:cH}{s:aC}{M:lq}{E:aF->aC->Prop}{Q:Option fY->aC->Prop}{T:ReTarget}{st:Nat}{must:Bool}{e:fY}{N:Nat}{r:Option fY}(g:bp (eM T.code T.text T.groups st T.lim must) e N)(hN:N<2^65)(he:(e.outcome=ac .matched/\r=ac e)\/(e.outcome=ac .failed/\r=ae))(q:Q r s):aG M A (reNextFound T st must) Q E s:=xS g hN he q
theorem WG{A:cH}{s:aC}{x:T}{t u:fh}{M:nH}{W:b7}{E:aF->aC->Prop}{Q:Fin->aC->Prop}{a ta L:bw}{o ot:aJ}{vs:Array aF}{cs:List Int}{n k:Nat}{gr:Nat}{xs:List aF}{e:fY}{N:Nat}(ho:s.heap.get? a=ac o)(hd:o.data=.fields vs)(h5:vs.getD 5 .none=.ref ta)(h2:vs.getD 2 .none=bO gr)(h6:vs.getD 6 .none=bO 0)(hot:s.heap.get? ta=ac ot)(hdt:ot.data=.seq (cs.map bO).toArray n)(hL:s.heap.get? L=ac (dg xs k))(hxs:xs.length<=1000)(g:bp (eM (cs.map dM).toArray (toS x).cps gr 0 (toS x).cps.size am) e N)(hN:N<2^65)(ee:e.outcome=ac .matched)(es:e.start=0)(q:Q (.again (.builtin "re.Pattern.sub.loop" ⟨[.ref a,.str (toS x) t,.str (toS []) u,bO 0,bO 0,bO (0+1),bO e.handed,bO e.handed,.bool (e.handed==e.start),.ref L,.bool ag],[]⟩)) {s with heap:=s.heap.update L (nN (·.push (.str (toS []) u)))}):aG (aQ M W) A (fO.«re.Pattern.sub.loop» ⟨[.ref a,.str (toS x) t,.str (toS []) u,bO 0,bO 0,bO 0,bO 0,bO 0,.bool am,.ref L,.bool ag],[]⟩) Q E s:=by
 have g':bp (eM (cM a x t (cs.map dM) gr).code (cM a x t (cs.map dM) gr).text (cM a x t (cs.map dM) gr).groups (dM 0) (cM a x t (cs.map dM) gr).lim am) e N:=g;unfold fO.«re.Pattern.sub.loop»;dsimp only [bO];refine bv (vc ho hd h5 h2 h6 hot hdt ?_);have z1:xs.toArray.size<=lV:=by refine af eO (af gM ?_);exact bM hxs (ik 1000 16776216)
 have z2:((λy:Array aF=>y.push (xE (toS []) u)) xs.toArray).size<=lV+1:=by refine(?_:(xs.toArray.push _).size<=_);rw [HT,eO,gM];exact sg z1
 repeat (any_goals (first|assumption|with_reducible refine CE g' hN (.inl ⟨ee,rfl⟩) ?_|with_reducible refine HU hL rfl ?_ z1 z2|wp_step))
theorem Ka{s:aC}{Q:aF->aC->Prop}{kd:Nat}{ys:List T}(aB:kd=0)(hl:s.heap.IsList L items)(hi:sh items.toList (ys.map toS))(hok:(ys.map fF).sum<=lim)(q:∀t' k,Q (.str (toS (cy [] ys)) t') {s with toks:=k}):aG (aQ M W) A (call (.builtin (if(kd==0)=ag then "str.join" else "bytes.join")) [.str (toS []) t,.ref L]) Q E s:=by
 subst aB;refine join_list (ys:=ys.map toS) hl hi ?_ λt' k=>?_
 ·rw [jB,gj,fH]
  refine(?_:_+ys.length*0<=_);rw [aa6];have e:((λx=>tL x)∘toS)=(fF:T->Nat):=funext λq=>fH q;rw [e];unfold lim at hok;exact bM hok (ik 1048576 15728640)
 ·have e:Ot (toS []) (ys.map toS)=toS (cy [] ys):=(Ou _ _).trans (yh [] ys)
  refine af e ?_;exact q t' k
theorem Ap:∀{vals:List aF} {ys:List aL},sh vals ys->sh (vals++[.str (toS v) t]) (ys++[toS v])
 |_,_,.nil=>.cons _ _ .nil
 |_,_,.cons y t r=>.cons y t (Ap r)
theorem AL(ys:List T)(v:T):cy [] (ys++[v])=cy [] ys++v:=by
 have e:∀l:List T,cy [] l=l.flatten:=λl=>by
  induction l with
  |nil=>rfl
  |cons a r ih=>
   induction r using dD with
   |nil=>show a=(a::[]).flatten;simp
   |cons b r=>show a++([]++cy [] (b::r))=_;refine af ih ?_;rfl
 rw [e,e,List.flatten_append];simp
theorem Iy{A:cH}{s:aC}{x:T}{t:fh}{rv:aF}{M:nH}{W:b7}{Q:aF->aC->Prop}{a ta L hd dn:bw}{o ot:aJ}{vs:Array aF}{cs:List Int}{n k:Nat}{gr:Nat}{e:fY}{N:Nat}{b wc:Bool}{way nn:Int}{vals:List aF}{ys:List T}(ho:s.heap.get? a=ac o)(hD:o.data=.fields vs)(h5:vs.getD 5 .none=.ref ta)(h2:vs.getD 2 .none=bO gr)(h6:vs.getD 6 .none=bO 0)(hot:s.heap.get? ta=ac ot)(hdt:ot.data=.seq (cs.map bO).toArray n)(hL:s.heap.get? L=ac (dg vals k))(hv:sh vals (ys.map toS))(hs:(ys.map fF).sum+(x.length-dn)<=lim)(hvl:vals.length<=lim)(hh:dn<=x.length)(hw:(way=0/\∃u,rv=.str (toS []) u)\/way=1)(g:bp (eM (cs.map dM).toArray (toS x).cps gr hd (toS x).cps.size b) e N)(hN:N<2^65)(ee:e.outcome=ac .failed)(q:∀(h':cY) (t':fh) (tk:Nat),(∀c o,c≠L->s.heap.get? c=ac o->h'.get? c=ac o)->aG (aQ M W) A (if wc=ag then(do ret (<-holding [.str (toS (cy [] ys++x.drop dn)) t'] do z9 [.str (toS (cy [] ys++x.drop dn)) t',<-mkInt nn]))else ret (.str (toS (cy [] ys++x.drop dn)) t')) (λfin s'=>∃v,fin=.done (.ret v)/\Q v s') aU {s with heap:=h',toks:=tk}):aG (aQ M W) A (fO.«re.Pattern.sub.loop» ⟨[.ref a,.str (toS x) t,rv,bO way,bO 0,bO nn,bO dn,bO hd,.bool b,.ref L,.bool wc],[]⟩) (λfin s'=>∃v,fin=.done (.ret v)/\Q v s') aU s:=by
 have g':bp (eM (cM a x t (cs.map dM) gr).code (cM a x t (cs.map dM) gr).text (cM a x t (cs.map dM) gr).groups (dM (hd:Int)) (cM a x t (cs.map dM) gr).lim b) e N:=g;have hx:(toS x).cps.size=x.length:=by rw [rJ,eO]
 unfold fO.«re.Pattern.sub.loop»;dsimp only [bO];refine bv (vc ho hD h5 h2 h6 hot hdt ?_);have z1:vals.toArray.size<=lV:=by refine af gM (af eO ?_);exact bM hvl (by decide)
 have es:(⟨(cM a x t (cs.map dM) gr).text.extract (dM (dn:Int)) (cM a x t (cs.map dM) gr).lim⟩:aL)=toS (x.drop dn):=xb (by
  refine(?_:((toS x).cps.extract dn (toS x).cps.size).toList=_);rw [hx,rJ];simp [toS];exact Hr (by refine af jA ?_;exact bZ _))
 have ej:(⟨(cM a x t (cs.map dM) gr).text.extract 0 0⟩:aL)=toS []:=xb (by
  refine(?_:((toS x).cps.extract 0 0).toList=_);simp [toS])
 have hdl:(x.drop dn).length<=lim:=by refine af jA ?_;exact Nat.le_of_add_left_le hs
 have z2:∀v,((λy:Array aF=>y.push v) vals.toArray).size<=lV+1:=λv=>by rw [gM];refine(?_:(vals.toArray.push v).size<=_);rw [HT,eO];exact sg (bM hvl (by decide))
 suffices H:aG (aQ M W) A (if(dM (dn:Int))<(cM a x t (cs.map dM) gr).lim then do
   let z<-reSlice (cM a x t (cs.map dM) gr).text (cM a x t (cs.map dM) gr).kind (dM (dn:Int)) (cM a x t (cs.map dM) gr).lim
   updateSeq L λx=>x.push z
   let joiner<-reSlice (cM a x t (cs.map dM) gr).text (cM a x t (cs.map dM) gr).kind 0 0;let z<-HB (j7 L)
   if(z.getD #[]).isEmpty=ag then do
     let text<-pure joiner
     if wc=ag then do
       let z<-holding [text] do
          let z<-mkInt nn
          z9 [text,z]
       ret z
      else ret text
    else do
     let text<-call (Oy (if((cM a x t (cs.map dM) gr).kind==0)=ag then "str.join" else "bytes.join")) [joiner,j7 L]
     if wc=ag then do
       let z<-holding [text] do
          let z<-mkInt nn
          z9 [text,z]
       ret z
      else ret text
  else do
   let joiner<-reSlice (cM a x t (cs.map dM) gr).text (cM a x t (cs.map dM) gr).kind 0 0;let z<-HB (j7 L)
   if(z.getD #[]).isEmpty=ag then do
     let text<-pure joiner
     if wc=ag then do
       let z<-holding [text] do
          let z<-mkInt nn
          z9 [text,z]
       ret z
      else ret text
    else do
     let text<-call (Oy (if((cM a x t (cs.map dM) gr).kind==0)=ag then "str.join" else "bytes.join")) [joiner,j7 L]
     if wc=ag then do
       let z<-holding [text] do
          let z<-mkInt nn
          z9 [text,z]
       ret z
      else ret text) (λfin s'=>∃v,fin=.done (.ret v)/\Q v s') aU s by
  rcases hw with⟨rfl,u,rfl⟩|rfl
  ·repeat (any_goals (first|assumption|with_reducible refine CE g' hN (.inr ⟨ee,rfl⟩) ?_|wp_step))
  ·repeat (any_goals (first|assumption|with_reducible refine CE g' hN (.inr ⟨ee,rfl⟩) ?_|wp_step))
 by_cases c:dn<x.length
 ·rw [if_pos (show dM (dn:Int)<(cM a x t (cs.map dM) gr).lim by refine(?_:dn<(toS x).cps.size);rw [hx];exact c)]
  refine bv (Ao (y:=x.drop dn) rfl es hdl λt1 k1=>bv (HU hL rfl ?_ z1 (z2 _)));have hL2:(s.heap.update L (nN λy=>y.push (.str (toS (x.drop dn)) t1))).get? L=ac (nN (λy=>y.push (.str (toS (x.drop dn)) t1)) (dg vals k)):=z8 _ hL rfl;refine bv (Ao (y:=[]) rfl ej (eG _) λt2 k2=>bv (HC (items:=vals.toArray.push (.str (toS (x.drop dn)) t1)) hL2 rfl ?_));refine af (if_neg (by refine(?_:¬(vals.toArray.push (.str (toS (x.drop dn)) t1)).isEmpty=ag);simp)) ?_;refine bv (Ka (ys:=ys++[x.drop dn]) (items:=vals.toArray.push (.str (toS (x.drop dn)) t1)) rfl ⟨_,hL2,rfl,_,rfl⟩ ?_ ?_ λt3 k3=>?_)
  ·refine af Array.toList_push (af xF ?_)
   exact Ap hv
  ·refine af xF (af List.sum_append ?_)
   refine(?_:_+((x.drop dn).length+0)<=_);refine af jA ?_;omega
  ·rw [AL]
   exact q _ t3 k3 λc o hc e=>OO _ (r9 hc) e
 ·rw [if_neg (show¬dM (dn:Int)<(cM a x t (cs.map dM) gr).lim by refine(?_:¬dn<(toS x).cps.size);rw [hx];exact c)]
  refine bv (Ao (y:=[]) rfl ej (eG _) λt2 k2=>bv (HC (items:=vals.toArray) hL rfl ?_));have fin:=λt3 k3=>q s.heap t3 k3 λc o hc e=>e;rw [q8 (sq c),ka]at fin;by_cases hn:vals=[]
  ·subst hn
   induction ys using dD with
   |cons y r=>cases hv
   |nil=>
    refine af (if_pos (by rfl)) ?_;exact bv (cq (fin t2 k2))
  refine af (if_neg (by refine(?_:¬vals.toArray.isEmpty=ag);simp [hn])) ?_;refine bv (Ka (ys:=ys) (items:=vals.toArray) rfl ⟨_,hL,rfl,_,rfl⟩ hv (by exact OJ hs) λt3 k3=>fin t3 k3)
abbrev yE(M:nH)(W:b7)(A:cH)(Q:aF->aC->Prop)(fin:OP)(s':aC):Prop:=match fin with
 |.done f=>(match(r7 f:vG)with|.ok (.ret v)=>Q v s'|.ok _=>False|.error e=>aU e s')
 |.again c'=>c'.quiet=ag/\lr (aQ M W) A c' (λr s'=>match r with|.ok (.ret v)=>Q v s'|.ok _=>False|.error e=>aU e s') s'
theorem I0{A:cH}{s:aC}{M:nH}{W:b7}{T:String}{name:aL}{id:String}{bk:fO}{self:aF}{rest:List aF}{Q:aF->aC->Prop}(slot:kD T name id)(hT:s.TypeIs self T)(entry:qs table id=ac bk)(args:kE id ⟨self::rest,[]⟩)(h:aG (aQ M W) A.in1 (bk ⟨self::rest,[]⟩) (yE M W A Q) aU s):aG (aQ M W) A (call (.builtin id) (self::rest)) Q aU s:=
 Ac (HK slot.plain entry (slot.check _ _ _ _ _ _ _ _ hT args h))
theorem AY{A:cH}(h:aG (aQ M W) (A.under (.builtin "re.Pattern.sub.loop" args)) (fO.«re.Pattern.sub.loop» args) (yE M W A Q) aU s):yE M W A Q (.again (.builtin "re.Pattern.sub.loop" args)) s:=
 ⟨aaS _ (by decide+kernel),codeAny_builtin Vr (cn h (λfin s' q=>q) λO O q=>q)⟩
theorem Je{Q:aF->aC->Prop}(h:∃v,fin=.done (.ret v)/\Q v s'):yE M W A Q fin s':=by
 refine aw h λv q2'=>ay q2' λz0 q=>?_;clear h q2';subst z0;exact q
theorem Tu{w:b7}{os:dl}{lam:aK->Option T}{sp:Nat->List ak->Option ak}{ns:List ak->Option ak}{A:cH}{F:bn}{s:aC}{x:T}{t u:fh}{n j:Nat}(hf:bD (bL w os lam sp ns) F s)(hx:x.length<=n)(hn:n<=lim)(ha:b8 x)(hj:bE sw x=j+1):
  aP (bL w os lam sp ns) A (call (.builtin "re.Pattern.subn") [(bL w os lam sp ns).val (.pat .junk),.str (toS []) u,.str (toS x) t]) F s (aZ (bL w os lam sp ns) (.tup [.str (x.drop (j+1)) n,fN 1])):=by
 refine gB (hf.pat .junk) λob ot vs q0'=>gY q0' λp1 p2 p3 p4 p5 q1'=>dH q1' λp6 p7 p8 p9=>?_;clear q0' q1';have hl:=bM hx hn;have h65:=G5 (k:=0) hx hn;have hle:=om sw x;rw [hj]at hle;refine aw (YA ha hl) λe1 q2'=>ay q2' λeI o1=>?_;clear q2';refine aw (@P6 x j hle) λe2 q1'=>ay q1' λeU o2=>?_;clear q1';rw [hj]at o1;have ec:(((qN .junk).map λn:Nat=>(n:Int)).map dM).toArray=jt.toArray:=CQ .junk;have es:(toS x).cps=x.toArray:=rJ x;have new:∀c o,s.heap.get? c=ac o->c≠s.heap.objs.size:=λc o e q=>by rw [q,fW]at e;exact aW e
 refine aP.of1 hf (I0 Pq ⟨ob,p1,p2⟩ RD (V0 _ _ _) (ST p1 p4 p6 p5 p7 p8 p9 λk=>AY ?_));have k1:∀c o,s.heap.get? c=ac o->(s.heap.push (dg [] 0)).get? c=ac o:=λO O e=>eN _ e;have hL:(s.heap.push (dg [] 0)).get? s.heap.objs.size=ac (dg [] 0):=fZ _ rfl;refine WG (L:=s.heap.objs.size) (k:=0) (xs:=[]) (k1 _ _ p1) p4 p6 p5 p7 (k1 _ _ p8) p9 hL (by decide) (by refine af ec (af es (af eO ?_));exact eI) (by decide) o1.o o1.s (AY ?_);have k2:∀c o,s.heap.get? c=ac o->((s.heap.push (dg [] 0)).update s.heap.objs.size (nN (·.push (.str (toS []) u)))).get? c=ac o:=λc o e=>OO _ (r9 (new c o e)) (k1 c o e);have hL2:((s.heap.push (dg [] 0)).update s.heap.objs.size (nN (·.push (.str (toS []) u)))).get? s.heap.objs.size=ac (nN (·.push (.str (toS []) u)) (dg [] 0)):=z8 _ hL rfl;refine af o1.h (af o1.s ?_);refine cn (Iy (L:=s.heap.objs.size) (k:=1) (rv:=.str (toS []) u) (vals:=[.str (toS []) u]) (ys:=[[]]) (hd:=j+1) (dn:=j+1) (k2 _ _ p1) p4 p6 p5 p7 (k2 _ _ p8) p9 hL2 (.cons _ _ .nil) (by refine(?_:0+0+(x.length-(j+1))<=_);omega) (show 1<=1048576 by decide) hle (.inl ⟨rfl,u,rfl⟩) (by refine af ec (af es (af eO ?_));exact eU) (by lia) o2 λh' t' tk aB=>?_) (λfin s' q=>Je q) λO O q=>q;refine af (if_pos rfl) (af (show cy [] [[]]++x.drop (j+1)=x.drop (j+1)from rfl) ?_)
 repeat (any_goals (first|assumption|wp_step))
 refine⟨_,rfl,?_⟩;have nb:s.heap.get? h'.objs.size=ae:=by
  cases q:s.heap.get? h'.objs.size with
  |none=>rfl
  |some o=>
   have z:=aB _ _ (new _ _ q) (k2 _ _ q);rw [fW]at z;exact aW z
 refine⟨λc o e=>eN _ (aB c o (new c o e) (k2 c o e)),rfl,rfl,h'.objs.size,_,nb,fZ _ rfl,?_⟩;refine aH.tup (vs:=[.str (toS (x.drop (j+1))) t',.int (0+1) tk]) (k:=0) jj ?_;exact br.cons (aH.str (bM (by refine af jA ?_;exact oG _ _) hx) (λc hc=>ha c (xC hc))) (br.cons (B8 (n:=1)) .nil)
theorem Ra{w:b7}{os:dl}{lam:aK->Option T}{sp:Nat->List ak->Option ak}{ns:List ak->Option ak}:td (bL w os lam sp ns)where
 is:=Xx
 search:=λA F s p x t n r hf hx hn ha h=>Ue p x t n r hf hx hn ha h
 subn:=λA F s x t u n j O hf hx hn ha hj=>Tu hf hx hn ha hj
 full:=λA F s x t n hf hx hn ha=>Y3 hf hx hn ha
theorem FN:sG mW 9 92:=⟨by left,by left,by decide+kernel⟩
abbrev gR(x:T)(must:Bool)(start pc pos handed:Nat)(ob:Bool)(marks:Array (Option Nat))(lm li:Int)(fr:List iB)(w:Nat)(ans:Option Bool)(sn:eP):fY:=mk mW x am x.length must start pc pos handed ob marks lm li #[] ae fr w ans sn
noncomputable abbrev iG:Array (Option Nat):=cX (2*1) ae
theorem KU{x:T}{sn:eP}{must ob:Bool}{start handed pos pc:Nat}{s:Nat}{k':Bool}(hs:s<x.length):(gR x must start pc pos handed ob iG (-1) (-1) [bH 9 s k'] 1 (ac am) sn).step=gR x am (s+1) 9 (s+1) (s+1) am iG (-1) (-1) [bH 9 (s+1) am] 1 ae sn:=by
 have e:(gR x must start pc pos handed ob iG (-1) (-1) [bH 9 s k'] 1 (ac am) sn).step=if s<x.length then gR x am (s+1) 9 (s+1) (s+1) am iG (-1) (-1) [bH 9 (s+1) am] 1 ae sn else gR x must start 9 s handed k' iG (-1) (-1) [] 0 (ac am) sn:=by left
 exact af e (af (if_pos hs) rfl)
theorem Uw{x:T}{sn:eP}{must ob:Bool}{start handed pos pc:Nat}{s:Nat}{k':Bool}(hs:¬s<x.length):(gR x must start pc pos handed ob iG (-1) (-1) [bH 9 s k'] 1 (ac am) sn).step=gR x must start 9 s handed k' iG (-1) (-1) [] 0 (ac am) sn:=by
 have e:(gR x must start pc pos handed ob iG (-1) (-1) [bH 9 s k'] 1 (ac am) sn).step=if s<x.length then gR x am (s+1) 9 (s+1) (s+1) am iG (-1) (-1) [bH 9 (s+1) am] 1 ae sn else gR x must start 9 s handed k' iG (-1) (-1) [] 0 (ac am) sn:=by left
 exact af e (af (if_neg hs) rfl)
theorem KL{x:T}:∀(d s:Nat)(must:Bool)(ob:Bool)(sn:eP),s+d=x.length->(∀c∈x.drop s,c≠92)->∃e,bp (gR x must s 9 s s ob iG (-1) (-1) [bH 9 s ob] 1 ae sn) e (2*d+4)/\e.outcome=ac .failed
 |d,s,must,ob,sn,hd,hn=>by
  have h0:x[s]?≠ac 92:=λh=>by
   have hp:s<x.length:=by
    by_cases q:s<x.length
    ·exact q
    ·rw [vT (by exact sq q)]at h;exact aW h
   refine hn 92 ?_ rfl;refine af (C8 hp) ?_;rw [rX hp]at h;refine af (eJ h) ?_;exact ck
  refine aw (@vZ mW x am must ob x.length s _ s s 1 iG (-1) (-1) (#[]) ae [bH 9 s ob] sn _ FN h0) λs1 a1=>?_;induction d using j8 with
  |zero=>exact⟨_,((bp.one rfl a1).trans ((bp.one rfl (Uw (by simp_all))).trans sx)).le (by exact ik (1+(1+1)) 1),rfl⟩
  |succ d=>
   have zq:=(@KL x d (s+1) am am s1 (by(simp only [nI,kB,tQ]at*;first|assumption|omega)) λc hc=>hn c (by rw [<-zM]at hc;exact xC hc));refine aw zq λe q2'=>ay q2' λg f=>?_;clear zq q2';exact⟨e,((bp.one rfl a1).trans ((bp.one rfl (KU (by lia))).trans g)).le (by lia),f⟩
theorem Yv{x:T}{sn:eP}{must ob:Bool}{start handed pos:Nat}{fr:List iB}{w:Nat}{marks:Array (Option Nat)}{lm li:Int}{a:Nat}(hc:x[pos]? =ac a)(ha:a≠10):(gR x must start 13 pos handed ob marks lm li fr w ae sn).step=gR x must start 14 (pos+1) handed ob marks lm li fr w ae (sn.add 2):=by
 have hp:¬pos>=x.length:=λq=>by rw [vT q]at hc;exact aW hc
 have e:(gR x must start 13 pos handed ob marks lm li fr w ae sn).step=if pos>=x.length then(gR x must start 13 pos handed ob marks lm li fr w ae (sn.add 2)).say am else(match oK mW.toArray 13 (x.toArray.getD pos 0) (sn.add 2)with
  |.error why=>(gR x must start 13 pos handed ob marks lm li fr w ae (sn.add 2)).stick why
  |.ok (am,seen)=>(gR x must start 13 pos handed ob marks lm li fr w ae seen).say am
  |.ok (ag,seen)=>gR x must start (13+1) (pos+1) handed ob marks lm li fr w ae seen):=by left
 have ea:oK mW.toArray 13 (x.toArray.getD pos 0) (sn.add 2)=.ok (ag,sn.add 2):=by
  refine af (q9) (af (l6) (af hc ?_));refine(?_:r7 (a !=10,sn.add 2)=_);exact af (show(a !=10)=ag from bne_iff_ne.mpr ha) rfl
 exact af e (af (if_neg hp) (af ea rfl))
structure ry(e:fY)(st q a b:Nat):Prop where
 o:e.outcome=ac .matched
 s:e.start=st
 h:e.handed=q
 m:e.marks= #[ac a,ac b]
 lm:e.lastmark=1
theorem MI{x:T}:∀(pre:T)(s c:Nat)(r:T)(must:Bool)(ob:Bool)(sn:eP),x.drop s=pre++92::c::r->(∀c∈pre,c≠92)->c≠10->∃e,bp (gR x must s 9 s s ob iG (-1) (-1) [bH 9 s ob] 1 ae sn) e (2*pre.length+20)/\(ob=ag->must=am->ry e (s+pre.length) (s+pre.length+2) (s+pre.length+1) (s+pre.length+2))/\(ob=am->must=am->ry e (s+pre.length) (s+pre.length+2) (s+pre.length+1) (s+pre.length+2))
 |[],s,c,r,must,ob,sn,hd,_,hc=>by
  refine bu (nZ hd) λeI eU gC=>?_;refine bu (nZ eU) λg4 g5 g6=>?_;refine aw (@uY mW x am must ob x.length s _ s s 1 iG (-1) (-1) (#[]) ae [bH 9 s ob] sn _ FN eI) λs1 a1=>?_;have a2:(gR x must s (9+2) (s+1) s ob iG (-1) (-1) [bH 9 s ob] 1 ae s1).step=gR x must s 13 (s+1) s ob #[ac (s+1),ae] 0 (-1) [bH 9 s ob] 1 ae (s1.add 17):=by left
  have a3:=@Yv _ (s1.add 17) must ob s s _ [bH 9 s ob] 1 (#[ac (s+1),ae]) 0 (-1) _ g4 hc;have a4:(gR x must s 14 (s+1+1) s ob #[ac (s+1),ae] 0 (-1) [bH 9 s ob] 1 ae ((s1.add 17).add 2)).step=gR x must s 16 (s+2) s ob #[ac (s+1),ac (s+2)] 1 1 [bH 9 s ob] 1 ae (((s1.add 17).add 2).add 17):=by left
  have a5:must=am->(gR x must s 16 (s+2) s ob #[ac (s+1),ac (s+2)] 1 1 [bH 9 s ob] 1 ae (((s1.add 17).add 2).add 17)).step=gR x must s 16 (s+2) (s+2) ob #[ac (s+1),ac (s+2)] 1 1 [bH 9 s ob] 1 (ac ag) ((((s1.add 17).add 2).add 17).add 1):=λhm=>by(symm;subst hm);induction ob using hO<;>left
  induction must using hO with
  |true=>
   exact⟨_,(bp.rfl).le (eG _),λO h=>(nomatch h),λO h=>(nomatch h)⟩
  |false=>
   have zq:=(Bk [bH 9 s ob] (gR x am s 16 (s+2) (s+2) ob #[ac (s+1),ac (s+2)] 1 1 [bH 9 s ob] 1 (ac ag) ((((s1.add 17).add 2).add 17).add 1)) rfl rfl rfl (λf hf=>by refine af (dm.mp hf) ?_;rfl));refine aw zq λe q0'=>gY q0' λg o1 o2 o3 o4 q1'=>ay q1' λo5 o6=>?_;clear zq q0' q1';have H:ry e (s+0) (s+0+2) (s+0+1) (s+0+2):=⟨o1,o2,o3,o4,o5⟩;exact⟨e,((bp.one rfl a1).trans ((bp.one rfl a2).trans ((bp.one rfl a3).trans ((bp.one rfl a4).trans ((bp.one rfl (a5 rfl)).trans g))))).le (show 1+(1+(1+(1+(1+(1+1)))))<=2*0+20 by decide),λO O=>H,λO O=>H⟩
 |a::pre,s,c,r,must,ob,sn,hd,hn,hc=>by
  refine bu (nZ hd) λeI eU gC=>?_;have zq:=(@vZ mW x am must ob x.length s _ s s 1 iG (-1) (-1) (#[]) ae [bH 9 s ob] sn _ FN (by refine af eI ?_;exact λh=>hn a ck (eJ h)));refine aw zq λs1 a1=>?_;clear zq;refine aw (MI pre (s+1) c r am am s1 eU (λc hc=>hn c (cW _ hc)) hc) λe q2'=>bu q2' λg O f=>?_;clear q2';have f:=f rfl rfl;have H:ry e (s+(a::pre).length) (s+(a::pre).length+2) (s+(a::pre).length+1) (s+(a::pre).length+2):=by
   refine af kb (af (show s+(pre.length+1)=s+1+pre.length by exact Eq.symm (Dh s pre.length)) ?_);exact f
  exact⟨e,((bp.one rfl a1).trans ((bp.one rfl (KU gC)).trans g)).le (by refine af kb ?_;lia),λO O=>H,λO O=>H⟩
theorem Jf{n st m k j:Nat}(hl:n-st=m+(k+(j+1))):¬(st>n\/n-st<j+1):=by omega
theorem Kf{x:T}{st:Nat}:eM mW.toArray x.toArray 1 st x.length am=if(az (st>x.length)||decide (x.length-st<2))=ag then mk mW x am 0 am st 9 st st ag iG (-1) (-1) #[] ae [] 0 (ac am) dR else gR x am st 9 st st ag iG (-1) (-1) [bH 9 st ag] 1 ae dR:=by left
theorem PO{x:T}{st c:Nat}{pre r:T}(hd:x.drop st=pre++92::c::r)(hn:∀c∈pre,c≠92)(hc:c≠10):∃e,bp (eM mW.toArray x.toArray 1 st x.length am) e (2*x.length+20)/\ry e (st+pre.length) (st+pre.length+2) (st+pre.length+1) (st+pre.length+2):=by
 have hl:(x.drop st).length=pre.length+(r.length+2):=by rw [hd,gx];rfl
 rw [jA]at hl;rw [Kf,if_neg (by rw [vM,decide_eq_true_iff,decide_eq_true_iff];exact Jf hl)];refine aw (@MI x pre st c r am ag dR hd hn hc) λe q1'=>bu q1' λg h O=>?_;clear q1';exact⟨e,g.le (C3 (zI 2 (bM (mS _ _) (bM (tK hl.symm) (oG _ _)))) 20),h rfl rfl⟩
theorem Uf{x:T}{st:Nat}(hs:st<=x.length)(hn:∀c∈x.drop st,c≠92):∃e,bp (eM mW.toArray x.toArray 1 st x.length am) e (2*x.length+20)/\e.outcome=ac .failed:=by
 refine af Kf ?_;by_cases q:(az (st>x.length)||decide (x.length-st<2))=ag
 ·refine af (if_pos q) ?_
  exact⟨_,sx.le (by simp),rfl⟩
 ·refine af (if_neg q) ?_
  have zq:=(@KL x (x.length-st) st am ag dR (by exact Dq hs) hn);refine aw zq λe q0'=>ay q0' λg f=>?_;clear zq q0';exact⟨e,g.le (xx (zI 2 (oG _ _)) (by decide)),f⟩
def xT(ch:Nat)(sn:eP):eP:=match OQ i5.toArray ch i5.toArray.size 5 ag sn with|.ok p=>p.2|.error _=>sn
theorem Yw(sn:eP):(bP 128).map (λch=>OQ i5.toArray ch i5.toArray.size 5 ag sn)=(bP 128).map λch=>.ok (gi ch,xT ch sn):=by left
theorem Gb{ch:Nat}(hc:ch<128)(sn:eP):OQ i5.toArray ch i5.toArray.size 5 ag sn=.ok (gi ch,xT ch sn):=vQ.mp (Yw sn) ch (qt.mpr hc)
theorem VG:Acc i5 12 gi:=λsn=>by left
abbrev lR(x:T)(start pc pos handed:Nat)(marks:Array (Option Nat))(lm li:Int)(fr:List iB)(w:Nat)(ans:Option Bool)(sn:eP):fY:=mk i5 x am x.length am start pc pos handed ag marks lm li #[] ae fr w ans sn
theorem Kb{x:T}(m:fY)(hm:m.code=i5.toArray)(ht:m.text=x.toArray)(hl:m.lim=x.length)(hx:b8 x):∀(pre:T)(s c:Nat)(r:T)(f:Nat)(sn:eP),x.drop s=pre++c::r->(∀c∈pre,gi c=am)->gi c=ag->pre.length<f->∃sn',xP m f s sn=.ok (ac (s+pre.length),sn')
 |pre,s,c,r,0,sn,hd,hn,hc,hf=>absurd hf (Ol _)
 |[],s,c,r,f+1,sn,hd,hn,hc,hf=>by
  refine bu (nZ hd) λeI eU gC=>?_;refine⟨xT c sn,?_⟩;unfold xP;rw [hl,if_neg (by exact Nat.not_le_of_lt gC),hm,ht,show x.toArray.getD s 0=c by rw [q9,l6,eI];rfl,Gb (hx c (vz eI)),hc];rfl
 |a::pre,s,c,r,f+1,sn,hd,hn,hc,hf=>by
  refine bu (nZ hd) λeI eU gC=>?_;refine aw (Kb m hm ht hl hx pre (s+1) c r f (xT a sn) eU (λc hc=>hn c (cW _ hc)) hc (aaG hf)) λsn' e=>?_;refine⟨sn',?_⟩;unfold xP;rw [hl,if_neg (by lia),hm,ht,show x.toArray.getD s 0=a by rw [q9,l6,eI];rfl,Gb (hx a (vz eI)),hn a ck];dsimp only;rw [e,kb,show s+(pre.length+1)=s+1+pre.length by exact Eq.symm (Dh s pre.length)]
theorem Nj{x:T}(m:fY)(hm:m.code=i5.toArray)(ht:m.text=x.toArray)(hl:m.lim=x.length)(hx:b8 x):∀(f s:Nat)(sn:eP),(∀c∈x.drop s,gi c=am)->∃sn',xP m f s sn=.ok (ae,sn')
 |0,s,sn,_=>⟨sn,rfl⟩
 |f+1,s,sn,hn=>by
  by_cases q:s>=x.length
  ·refine⟨sn,?_⟩
   unfold xP;rw [hl,if_pos q]
  ·have hp:s<x.length:=by exact NT q
   have hd:x.drop s=x[s]::x.drop (s+1):=C8 hp;have zq:=(Nj m hm ht hl hx f (s+1) (xT x[s] sn) λc hc=>hn c (by rw [hd];exact cW _ hc));refine aw zq λsn' e=>?_;clear zq;refine⟨sn',?_⟩;unfold xP;rw [hl,if_neg q,hm,ht,show x.toArray.getD s 0=x[s] by rw [q9,l6,rX hp];rfl,Gb (hx _ (List.getElem_mem hp)),hn _ (by rw [hd];exact ck)];exact e
abbrev Ce(x:T)(st:Nat):fY:=mk i5 x am x.length am st 10 st st ag iG (-1) (-1) #[] ae [] 0 ae dR
theorem Jt{x:T}{st:Nat}:eM i5.toArray x.toArray 1 st x.length am=if(az (st>x.length)||decide (x.length-st<1))=ag then mk i5 x am 0 am st 10 st st ag iG (-1) (-1) #[] ae [] 0 (ac am) dR else(match xP (Ce x st) (x.length+1-st) st dR with
  |.ok (ac s,seen)=>lR x s 10 s s iG (-1) (-1) [bH 10 s ag] 1 ae seen
  |.ok (ae,seen)=>mk i5 x am x.length am st 10 st st ag iG (-1) (-1) #[] ae [] 0 (ac am) seen
  |.error why=>(Ce x st).stick why):=by left
theorem X7{x:T}{st c:Nat}{pre r:T}(hx:b8 x)(hd:x.drop st=pre++c::r)(hn:∀c∈pre,gi c=am)(hc:gi c=ag):∃e,bp (eM i5.toArray x.toArray 1 st x.length am) e 20/\ry e (st+pre.length) (st+pre.length+1) (st+pre.length) (st+pre.length+1):=by
 have hl:(x.drop st).length=pre.length+(r.length+1):=by rw [hd,gx];rfl
 rw [jA]at hl;rw [Jt,if_neg (by rw [vM,decide_eq_true_iff,decide_eq_true_iff];exact Jf (j:=0) hl)];have zq:=(@Kb x (Ce x st) rfl rfl rfl hx pre st c r (x.length+1-st) dR hd hn hc (kA (aa8 (oF _)) (bM (tK hl.symm) (Nat.sub_le_sub_right (mK _) st))));refine aw zq λs1 e1=>?_;clear zq;rw [e1];dsimp only;have hd2:x.drop (st+pre.length)=c::r:=by rw [<-zM,hd,abe]
 generalize st+pre.length=s at hd2⊢;refine bu (nZ hd2) λeI eU gC=>?_;have a1:(lR x s 10 s s iG (-1) (-1) [bH 10 s ag] 1 ae s1).step=lR x s 12 s s #[ac s,ae] 0 (-1) [bH 10 s ag] 1 ae (s1.add 17):=by left
 have a2:(lR x s 12 s s #[ac s,ae] 0 (-1) [bH 10 s ag] 1 ae (s1.add 17)).step=lR x s 19 (s+1) s #[ac s,ae] 0 (-1) [bH 10 s ag] 1 ae (uu i5 12 c ((s1.add 17).add 13)):=by
  have e:(lR x s 12 s s #[ac s,ae] 0 (-1) [bH 10 s ag] 1 ae (s1.add 17)).step=if s>=x.length then(lR x s 12 s s #[ac s,ae] 0 (-1) [bH 10 s ag] 1 ae ((s1.add 17).add 13)).say am else(match oK i5.toArray 12 (x.toArray.getD s 0) ((s1.add 17).add 13)with
   |.error why=>(lR x s 12 s s #[ac s,ae] 0 (-1) [bH 10 s ag] 1 ae ((s1.add 17).add 13)).stick why
   |.ok (am,seen)=>(lR x s 12 s s #[ac s,ae] 0 (-1) [bH 10 s ag] 1 ae seen).say am
   |.ok (ag,seen)=>lR x s 19 (s+1) s #[ac s,ae] 0 (-1) [bH 10 s ag] 1 ae seen):=by left
  rw [e,if_neg (by lia),show x.toArray.getD s 0=c by rw [q9,l6,eI];rfl,VG.at (hx c (vz eI)),hc]
 generalize uu i5 12 c ((s1.add 17).add 13)=s2 at a2;have a3:(lR x s 19 (s+1) s #[ac s,ae] 0 (-1) [bH 10 s ag] 1 ae s2).step=lR x s 21 (s+1) s #[ac s,ac (s+1)] 1 1 [bH 10 s ag] 1 ae (s2.add 17):=by left
 have a4:(lR x s 21 (s+1) s #[ac s,ac (s+1)] 1 1 [bH 10 s ag] 1 ae (s2.add 17)).step=lR x s 21 (s+1) (s+1) #[ac s,ac (s+1)] 1 1 [bH 10 s ag] 1 (ac ag) ((s2.add 17).add 1):=by left
 have zq:=(Bk [bH 10 s ag] (lR x s 21 (s+1) (s+1) #[ac s,ac (s+1)] 1 1 [bH 10 s ag] 1 (ac ag) ((s2.add 17).add 1)) rfl rfl rfl (λf hf=>by rw [dm.mp hf];rfl));refine aw zq λe q0'=>gY q0' λg o1 o2 o3 o4 q1'=>ay q1' λo5 o6=>?_;clear zq q0' q1';exact⟨e,((bp.one rfl a1).trans ((bp.one rfl a2).trans ((bp.one rfl a3).trans ((bp.one rfl a4).trans g)))).le (show 1+(1+(1+(1+(1+1))))<=20 by decide),⟨o1,o2,o3,o4,o5⟩⟩
theorem W4{x:T}{st:Nat}(hx:b8 x)(hn:∀c∈x.drop st,gi c=am):∃e,bp (eM i5.toArray x.toArray 1 st x.length am) e 20/\e.outcome=ac .failed:=by
 rw [Jt];by_cases q:(az (st>x.length)||decide (x.length-st<1))=ag
 ·rw [if_pos q]
  exact⟨_,sx.le (by decide),rfl⟩
 ·rw [if_neg q]
  refine aw (@Nj x (Ce x st) rfl rfl rfl hx (x.length+1-st) st dR hn) λs1 e1=>?_;rw [e1];exact⟨_,sx.le (by decide),rfl⟩
structure hW(L:bw)(s s':aC):Prop where
 k:∀c o,c≠L->s.heap.get? c=ac o->s'.heap.get? c=ac o
 os:s'.os=s.os
 gens:s'.gens=s.gens
theorem hW.refl:hW L s s:=⟨λO O O e=>e,rfl,rfl⟩
theorem hW.trans(x:hW L s s')(y:hW L s' s''):hW L s s'':=⟨λc o h e=>y.k c o h (x.k c o h e),y.os.trans x.os,y.gens.trans x.gens⟩
theorem hW.up{k:Nat}:hW L s {s with heap:=s.heap.update L f,toks:=k}:=⟨λc o h e=>OO _ (r9 h) e,rfl,rfl⟩
theorem IX{A:cH}{s:aC}{x it:T}{t:fh}{M:nH}{W:b7}{Q:OP->aC->Prop}{a L f st hd aa bb:Nat}{k lm:Nat}{e:fY}{c2:Code}{vals:List aF}{ys:List T}(hL:s.heap.get? L=ac (dg vals k))(hv:sh vals (ys.map toS))(hvl:vals.length+1<=lim)(hlm:lm=x.length)(hab:aa<=bb)(he:ry e st hd aa bb)(hcall:∀(s1:aC) (mo tp k':Nat) (li:Int),hW L s s1->s1.heap.get? mo=ac (rN x t a li tp)->s1.heap.get? tp=ac (gA (g8 [st,hd,aa,bb]) k')->∀QQ:aF->aC->Prop,(∀t' s2,hW L s1 s2->(∀o,s1.heap.get? L=ac o->s2.heap.get? L=ac o)->QQ (.str (toS it) t') s2)->aG (aQ M W) A (call (.ref f) [.ref mo]) QQ aU s1)(q:∀(s3:aC) (vals':List aF) (k':Nat),hW L s s3->s3.heap.get? L=ac (dg vals' k')->sh vals' ((ys++[it]).map toS)->vals'≠[]->vals'.length=vals.length+1->Q (.again c2) s3):
  aG (aQ M W) A (do
   let found<-reNewMatch (.ref a) (.str (toS x) t) 1 0 lm e;let item<-holding [found] (if((1:Int)==1)=ag then call (.ref f) [found]else do reExpand (.ref f) (<-reFound found))
   if(item !=z7)=ag then do
    updateSeq L λx=>x.push item
    again c2
   else again c2) Q aU s:=by
 subst hlm;have k1:∀a o,s.heap.get? a=ac o->(s.heap.push {cls:=.type "tuple",data:=.seq (g8 [e.start,e.handed,aa,bb]).toArray}).get? a=ac o:=λO O e=>eN _ e;refine bv (LZ he.m he.lm hab λtk=>?_);have iL:hW L s {s with heap:=v5 s.heap (.str (toS x) t) (.ref a) x.length e.lastindex (g8 [e.start,e.handed,aa,bb]),toks:=tk}:=⟨λO O O e=>eN _ (k1 _ _ e),rfl,rfl⟩;refine bv (qp ?_);refine af (if_pos (show((1:Int)==1)=ag by decide)) ?_;refine hcall _ _ s.heap.objs.size 0 e.lastindex iL (fZ _ rfl) (by refine af he.s (af he.h ?_);exact eN _ (fZ _ rfl)) _ λt' s2 ri h2=>?_;have hL2:=h2 _ (eN _ (k1 _ _ hL));have z1:vals.toArray.size<=lV:=by refine af gM (af eO ?_);exact bM (vF hvl) (by decide)
 have z2:((λy:Array aF=>y.push (xE (toS it) t')) vals.toArray).size<=lV+1:=by rw [gM];refine(?_:(vals.toArray.push _).size<=_);rw [HT,eO];exact bM hvl (by decide)
 refine af (if_pos (by rfl)) ?_;refine bv (HU hL2 rfl ?_ z1 z2);refine cq (q _ (vals++[.str (toS it) t']) (k+1) ((iL.trans ri).trans hW.up) ?_ ?_ (by simp) (by simp))
 ·refine af (z8 _ hL2 rfl) ?_;simp [nN]
 ·refine af xF ?_;exact Ap hv
theorem QH{s:aC}{x:T}{Q:OP->aC->Prop}{dn st aa bb:Nat}{cs:List Int}{nn:Int}{ys:List T}(ho:s.heap.get? a=ac o)(hD:o.data=.fields vs)(h5:vs.getD 5 .none=.ref ta)(h2:vs.getD 2 .none=bO (1:Nat))(h6:vs.getD 6 .none=bO 0)(hot:s.heap.get? ta=ac ot)(hdt:ot.data=.seq (cs.map bO).toArray n)(hL:s.heap.get? L=ac (dg vals k))(hv:sh vals (ys.map toS))(hvl:vals.length+2<=lim)(hl:x.length<=lim)(hds:dn<=st)(hsx:st<=x.length)(hab:aa<=bb)(g:bp (eM (cs.map dM).toArray (toS x).cps 1 sd (toS x).cps.size am) e N)(hN:N<2^65)(he:ry e st hd aa bb)(hsh:st≠hd)(hcall:∀(s1:aC) (mo tp k':Nat) (li:Int),hW L s s1->s1.heap.get? mo=ac (rN x t a li tp)->s1.heap.get? tp=ac (gA (g8 [st,hd,aa,bb]) k')->∀QQ:aF->aC->Prop,(∀t' s2,hW L s1 s2->(∀o,s1.heap.get? L=ac o->s2.heap.get? L=ac o)->QQ (.str (toS it) t') s2)->aG (aQ M W) A (call (.ref f) [.ref mo]) QQ aU s1)(q:∀(s3:aC) (vals':List aF) (ys':List T) (k':Nat),hW L s s3->s3.heap.get? L=ac (dg vals' k')->sh vals' (ys'.map toS)->vals'≠[]->vals'.length<=vals.length+2->cy [] ys'=cy [] ys++(x.drop dn).take (st-dn)++it->Q (.again (.builtin "re.Pattern.sub.loop" ⟨[.ref a,.str (toS x) t,.ref f,bO 1,bO 0,bO (nn+1),bO hd,bO hd,.bool am,.ref L,.bool am],[]⟩)) s3):aG (aQ M W) A (fO.«re.Pattern.sub.loop» ⟨[.ref a,.str (toS x) t,.ref f,bO 1,bO 0,bO nn,bO dn,bO sd,.bool am,.ref L,.bool am],[]⟩) Q aU s:=by
 have g':bp (eM (cM a x t (cs.map dM) 1).code (cM a x t (cs.map dM) 1).text (cM a x t (cs.map dM) 1).groups (dM (sd:Int)) (cM a x t (cs.map dM) 1).lim am) e N:=g;have hx:(toS x).cps.size=x.length:=by rw [rJ,eO]
 unfold fO.«re.Pattern.sub.loop»;dsimp only [bO];refine bv (vc ho hD h5 h2 h6 hot hdt ?_)
 repeat (any_goals (first|assumption|with_reducible refine CE g' hN (.inl ⟨he.o,rfl⟩) ?_|wp_step))
 have ec:(Code.builtin "re.Pattern.sub.loop" ⟨[.ref a,.str (toS x) t,.ref f,.int 1 0,.int 0 0,.int (nn+1) 0,.int (e.handed:Int) 0,.int (e.handed:Int) 0,.bool (e.handed==e.start),.ref L,.bool am],[]⟩)=.builtin "re.Pattern.sub.loop" ⟨[.ref a,.str (toS x) t,.ref f,bO 1,bO 0,bO (nn+1),bO hd,bO hd,.bool am,.ref L,.bool am],[]⟩:=by
  refine af he.h (af he.s (af (show(hd==st)=am from beq_eq_false_iff_ne.mpr (r9 hsh)) ?_));rfl
 have z1:vals.toArray.size<=lV:=by refine af gM (af eO ?_);exact bM (vF (vF hvl)) (by decide)
 by_cases c:dn<st
 ·rw [if_pos (show dM (dn:Int)<e.start by rw [he.s];exact c)]
  have es:(⟨(cM a x t (cs.map dM) 1).text.extract (dM (dn:Int)) e.start⟩:aL)=toS ((x.drop dn).take (st-dn)):=xb (by
   refine(?_:((toS x).cps.extract dn e.start).toList=_);rw [he.s,rJ];simp [toS])
  refine bv (Ao rfl es (bM (BM x dn st) hl) λt1 k1=>bv (HU hL rfl ?_ z1 (by rw [gM];refine(?_:(vals.toArray.push _).size<=_);rw [HT,eO];exact bM (vF hvl) (by decide))));refine af (if_neg (show¬((1:Int)==0)=ag by decide)) ?_;have hL2:(s.heap.update L (nN λy=>y.push (.str (toS ((x.drop dn).take (st-dn))) t1))).get? L=ac (dg (vals++[.str (toS ((x.drop dn).take (st-dn))) t1]) (k+1)):=by
   refine af (z8 _ hL rfl) ?_;simp [nN]
  refine IX (ys:=ys++[(x.drop dn).take (st-dn)]) (it:=it) hL2 (by rw [xF];exact Ap hv) (by rw [gx];exact hvl) hx hab he (λs1 mo tp k' li iL=>hcall s1 mo tp k' li (hW.trans hW.up iL)) λs3 vals' k' pH h3 hv' hn' hl'=>?_;rw [ec];exact q s3 vals' _ k' (hW.trans hW.up pH) h3 hv' hn' (by rw [hl',gx];exact bZ _) (by rw [AL,AL])
 ·rw [if_neg (show¬dM (dn:Int)<e.start by rw [he.s];exact c),if_neg (show¬((1:Int)==0)=ag by decide)]
  refine IX (ys:=ys) (it:=it) hL hv (vF hvl) hx hab he hcall λs3 vals' k' pH h3 hv' hn' hl'=>?_;refine af ec ?_;exact q s3 vals' _ k' pH h3 hv' hn' (by simp_all) (by rw [AL,show st-dn=0 by simp_all];simp)
inductive qF(x:T)(code:List Nat)(it:T->T)(wd:Nat):Nat->T->Prop
 |last {dn N:Nat} {e:fY} (hd:dn<=x.length) (g:bp (eM code.toArray x.toArray 1 dn x.length am) e N) (hN:N<2^65) (ee:e.outcome=ac .failed):qF x code it wd dn (x.drop dn)
 |hit {dn st hd aa bb N:Nat} {e:fY} {r:T} (g:bp (eM code.toArray x.toArray 1 dn x.length am) e N) (hN:N<2^65) (he:ry e st hd aa bb) (h1:dn<=st) (h2:st+wd<=hd) (h3:hd<=x.length) (h4:aa<=bb) (h5:bb<=x.length) (n:qF x code it wd hd r):qF x code it wd dn ((x.drop dn).take (st-dn)++(it (im x aa bb)++r))
theorem WX(ys:List T):(ys.map fF).sum=(cy [] ys).length:=by
 induction ys with
 |nil=>rfl
 |cons a r ih=>
  refine af qm (af OR (af ih ?_));induction r using dD with
  |nil=>show _+0=a.length;rfl
  |cons b r=>show _=(a++([]++cy [] (b::r))).length;simp
theorem ZE{v wd d n:Nat}(hw:wd=1\/wd=2)(hv:v*wd<=2*d)(hd:d<=n)(hx:2*n<=lim*wd):v<=lim:=by rcases hw with rfl|rfl<;>lia
theorem Wg{v wd d n:Nat}(hw:wd=1\/wd=2){st hd:Nat}(hv:v*wd<=2*d)(h1:d<=st)(h2:st+wd<=hd)(h3:hd<=n)(hx:2*n<=lim*wd):v+2<=lim:=by rcases hw with rfl|rfl<;>lia
theorem PD{wd n:Nat}(hw:wd=1\/wd=2)(hx:2*n<=lim*wd):n<=lim:=by rcases hw with rfl|rfl<;>lia
theorem Tp{v wd d n:Nat}(hw:wd=1\/wd=2){st v':Nat}(hv:v*wd<=2*d)(h1:d<=st)(h2:st+wd<=n)(h3:v'<=v+2):v'*wd<=2*n:=by rcases hw with rfl|rfl<;>lia
theorem VM{A:cH}{M:nH}{W:b7}{Q:aF->aC->Prop}{x:T}{t:fh}{code:List Nat}{it:T->T}{a ta L f:Nat}{o ot:aJ}{vs:Array aF}{n:Nat}{s0:aC}{U:T}{dn wd:Nat}{r:T}(hwd:wd=1\/wd=2)(T0:qF x code it wd dn r):
  ∀(s:aC)(vals:List aF)(ys:List T)(k:Nat)(nn:Int),hW L s0 s->(ho:s.heap.get? a=ac o)->(hD:o.data=.fields vs)->(h5:vs.getD 5 .none=.ref ta)->(h2:vs.getD 2 .none=bO (1:Nat))->(h6:vs.getD 6 .none=bO 0)->
  (hot:s.heap.get? ta=ac ot)->(hdt:ot.data=.seq ((code.map λn:Nat=>(n:Int)).map bO).toArray n)->a≠L->ta≠L->s.heap.get? L=ac (dg vals k)->sh vals (ys.map toS)->vals.length*wd<=2*dn->2*x.length<=lim*wd->(cy [] ys).length+r.length<=lim->cy [] ys++r=U->
  (hcall:∀(st hd aa bb:Nat)(A':cH)(s1:aC)(mo tp k':Nat)(li:Int),(A'=A\/A'=A.in1)->aa<=bb->bb<=x.length->hW L s0 s1->s1.heap.get? mo=ac (rN x t a li tp)->s1.heap.get? tp=ac (gA (g8 [st,hd,aa,bb]) k')->∀QQ:aF->aC->Prop,(∀t' s2,hW L s1 s2->(∀o,s1.heap.get? L=ac o->s2.heap.get? L=ac o)->QQ (.str (toS (it (im x aa bb))) t') s2)->aG (aQ M W) A' (call (.ref f) [.ref mo]) QQ aU s1)->
  (q:∀(s':aC)(t':fh),hW L s0 s'->Q (.str (toS U) t') s')->
  aG (aQ M W) A.in1 (fO.«re.Pattern.sub.loop» ⟨[.ref a,.str (toS x) t,.ref f,bO 1,bO 0,bO nn,bO dn,bO dn,.bool am,.ref L,.bool am],[]⟩) (yE M W A Q) aU s:=by
 have ec:((code.map λn:Nat=>(n:Int)).map dM)=code:=by
  rw [jB,show(dM∘λn:Nat=>(n:Int))=_root_.id from funext λn=>rfl,Df]
 have es:(toS x).cps=x.toArray:=rJ x;induction T0 with
 |last hd g hN ee=>
  intro s vals ys k nn K ho hD h5 h2 h6 hot hdt na nt hL hv hvl hx2 hjl hU hcall q;rename_i dn N e;refine cn (Iy (ys:=ys) (wc:=am) (rv:=.ref f) ho hD h5 h2 h6 hot hdt hL hv (by rw [WX];rw [jA]at hjl;exact hjl) (ZE hwd hvl hd hx2) hd (.inr rfl) (by rw [ec,es,eO];exact g) hN ee λh' t' tk aB=>?_) (λfin s' q=>Je q) λO O q=>q;refine af (if_neg (by decide)) ?_;refine af hU ?_;exact cq ⟨_,rfl,q _ t' (K.trans ⟨aB,rfl,rfl⟩)⟩
 |hit g hN he h1 h2' h3 h4 h5' T1 ih=>
  intro s vals ys k nn K ho hD h5 h2 h6 hot hdt na nt hL hv hvl hx2 hjl hU hcall q;rename_i dn st hd aa bb N e r;refine QH (it:=it (im x aa bb)) (ys:=ys) ho hD h5 h2 h6 hot hdt hL hv (Wg hwd hvl h1 h2' h3 hx2) (PD hwd hx2) h1 (bM (OJ h2') h3) h4 (by refine af ec (af es (af eO ?_));exact g) hN he (by lia) (λs1 mo tp k' li iL eI eU=>hcall st hd aa bb _ s1 mo tp k' li (.inr rfl) h4 h5' (K.trans iL) eI eU) λs3 vals' ys' k' pH hL3 hv3 hn3 hl3 hj3=>?_;refine AY ?_;refine ih s3 vals' ys' k' (nn+1) (K.trans pH) (pH.k _ _ na ho) hD h5 h2 h6 (pH.k _ _ nt hot) hdt na nt hL3 hv3 (Tp hwd hvl h1 h2' hl3) hx2 ?_ ?_ hcall q
  ·refine af hj3 ?_
   simp only [gx]at hjl⊢;lia
  ·refine af hj3 (af hU.symm ?_)
   simp only [ja]
theorem Q1:kD "re.Pattern" "sub" "re.Pattern.sub":=
 .of (owner:="re.Pattern") (n:="sub") (by rw [iQ,iR];left) (by decide+kernel) (by decide+kernel) (by decide+kernel) (.inr (by decide+kernel)) (by rw [lu];left)
theorem TU(a b c:aF):kE "re.Pattern.sub" ⟨[a,b,c],[]⟩:=by unfold kE;left
theorem Zk:qs table "re.Pattern.sub"=ac fO.«re.Pattern.sub»:=si (by left)
theorem XD:∃v,xz (.type "function") (fi "__call__")=pure (ac v):=⟨.builtin "function.__call__",by rw [iQ,iR];left⟩
theorem Vi:Ox (.type "str") (.type "bytearray")=pure am:=by rw [lu];left
theorem Xd{A:cH}{s:aC}{x:T}{t:fh}{M:nH}{W:b7}{Q:Fin->aC->Prop}{a ta f:bw}{o ot fo:aJ}{vs:Array aF}{cs:List Int}{n:Nat}{gr:Nat}(ho:s.heap.get? a=ac o)(hd:o.data=.fields vs)(h5:vs.getD 5 .none=.ref ta)(h2:vs.getD 2 .none=bO gr)(h6:vs.getD 6 .none=bO 0)(hot:s.heap.get? ta=ac ot)(hdt:ot.data=.seq (cs.map bO).toArray n)(hf:s.heap.get? f=ac fo)(hfc:fo.cls=.type "function")(q:∀k,Q (.again (.builtin "re.Pattern.sub.loop" ⟨[.ref a,.str (toS x) t,.ref f,bO 1,bO 0,bO 0,bO 0,bO 0,.bool am,.ref s.heap.objs.size,.bool am],[]⟩)) {s with heap:=s.heap.push (dg [] 0),toks:=k}):aG (aQ M W) A (fO.«re.Pattern.sub» ⟨[.ref a,.ref f,.str (toS x) t],[]⟩) Q aU s:=by
 refine aw XD λfv f1=>?_;have hT:s.TypeIs (.ref f) "function":=⟨fo,hf,hfc⟩;unfold fO.«re.Pattern.sub» reSubstitute;dsimp only;rw [VS];refine bv (cq ?_);dsimp only;refine bv (cq (bv (NO hT f1 ?_)))
 repeat (any_goals (first|assumption|with_reducible refine bv (vc ho hd h5 h2 h6 hot hdt ?_)|with_reducible refine vc ho hd h5 h2 h6 hot hdt ?_|wp_step))
 refine af Vi ?_
 repeat (any_goals (first|assumption|wp_step))
 exact q _
structure D9(fd:xH)(q:T):Prop where
 body:∃j1 p1 j2 p2 p3 p4 pm ap cp j3 p5,fd.body=.expr (.BinOp (.Constant (.str (toS q)) j1 p1) .Add (.BoolOp .Or [.Call (.Attribute (.Name "_m" pm) "group" ap) [.Constant (.int 1) j3 p5] [] cp,.Constant (.str (toS [])) j2 p2] p3) p4)/\(ap.endLine==cp.line)=ag
 kind:fd.scope.kind=.function
 names:fd.scope.names=[(("_m":aL),dh.local)]
 gen:fd.scope.isGenerator=am
 co:fd.scope.isCoroutine=am
 bind:∀v,HN fd ⟨[v],[]⟩=pure [(("_m":aL),v)]
theorem VK{A:cH}{s:aC}{QQ:aF->aC->Prop}{st hd aa bb:Nat}(room:A.depth<C4)(ho:s.heap.get? f=ac fo)(hd':fo.data=.func fd)(Z:D9 fd q)(hcr:s.heap.CodeRec fd.code fd.qualname)(hnl:s.heap.NoLimit)(hm:s.heap.get? mo=ac (rN x t a li tp))(htp:s.heap.get? tp=ac (gA (g8 [st,hd,aa,bb]) k'))(hx:x.length<=lim)(hq:q.length<=1)(h:∀t' s2,(∀c o,s.heap.get? c=ac o->s2.heap.get? c=ac o)->s2.os=s.os->s2.gens=s.gens->QQ (.str (toS (q++im x aa bb)) t') s2):aG (aQ M W) A (call (.ref f) [.ref mo]) QQ aU s:=by
 refine d4 Z.body λj1 p1 j2 p2 q2'=>d4 q2' λp3 p4 pm ap q0'=>gB q0' λcp j3 p5 q1'=>ay q1' λhb hl=>?_;clear q2' q0' q1';have hpl:(im x aa bb).length<=x.length:=BM x aa bb;refine Ac (kla_callFunE room ho hd' Z.co Z.gen hb hcr ?_);rw [Z.bind];refine cq (wpAny_newFunctionEnv (by rw [Z.names];decide) (by rw [Z.names];intro y hy;rw [dm]at hy;subst hy;rfl) (λh1 hns hsb=>?_) Z.kind);have aB:∀b o,s.heap.get? b=ac o->h1.get? b=ac o:=λb o e=>hsb.extBut b o (iP (jy e)) (eN _ e);refine⟨hnl.keeps aB,kla_codeExpr (nu ?_)⟩;generalize fd.qualname++(fi ".<locals>.":aL)=ql;have fin:∀(t1 t2:fh)(y:T)(k:Nat),y.length<=x.length->y=im x aa bb->aG (aQ M W) (A.deeper (newEnv fd.scope s.heap.objs.size fd.globals fd.closure ql (ac f) fd.code ae fd.builtins)) (ln .Add (.str (toS q) t1) (.str (toS y) t2)) (λv s'=>QQ v s') aU {s with heap:=h1,toks:=k}:=λt1 t2 y k hy e=>by
  subst e;exact SB.add (λt' k=>by rw [rM];exact h t' _ aB rfl rfl) (by rw [fH,fH,gM];unfold lim at hx;lia)
 refine zR (Dm (BoolOp_or (D8 rfl rfl (by rfl) hl ?_)));refine rY (vD Z.kind (by refine(?_:fd.scope.names.lookup _=_);rw [Z.names];rfl) hns rfl λpl=>?_);refine yN ⟨Fp,AW,JH⟩ ⟨⟨_,aB _ _ hm,rfl⟩,λb e=>by cases e;exact⟨_,aB _ _ hm,rfl⟩⟩ (yH rfl ?_);refine(?_:aG _ _ (spliced [(am,eval (.Constant (.int 1) j3 p5) _)]) _ _ _);refine xG (Db (k:=j3) (pos:=p5) (Dj ?_));refine uP (rest:=[.int 1 _]) AW ⟨_,aB _ _ hm,rfl⟩ Lc (M9 _ _) (MW (aB _ _ hm) (aB _ _ htp) rfl rfl (by rw [gM];unfold lim at hx;exact bM hx (ik 1048576 15728640)) λt' tk=>⟨_,rfl,?_⟩);refine P.truthy_str (by rw [fH];unfold lim at hx;lia) ?_;by_cases c:(im x aa bb).length=0
 ·rw [if_neg (by rw [fH,c];decide)]
  refine BoolOp_one (Dm ?_);exact fin _ _ [] _ (eG _) (List.eq_nil_of_length_eq_zero c).symm
 ·rw [if_pos (by rw [fH];exact bne_iff_ne.mpr (by exact(λ{n}=>Int.ofNat_ne_zero.mpr) c))]
  exact fin _ _ _ _ hpl rfl
theorem Eb(p:Nat->Bool):∀l:T,(∀c∈l,p c=am)\/∃pre c r,l=pre++c::r/\(∀c∈pre,p c=am)/\p c=ag
 |[]=>.inl λO h=>(nomatch h)
 |a::l=>by
  cases e:p a with
  |true=>exact .inr ⟨[],a,l,rfl,λO h=>(nomatch h),e⟩
  |false=>
   rcases Eb p l with h|⟨pre,c,r,rfl,h,hc⟩
   ·exact .inl λc hc=>(cI.mp hc).elim (λq=>q▸e) (h c)
   ·exact .inr ⟨a::pre,c,r,rfl,λc hc=>(cI.mp hc).elim (λq=>q▸e) (h c),hc⟩
theorem L2(pre:T)(l:T)(h:∀c∈pre,gi c=am):cm q (pre++l)=pre++cm q l:=by
 induction pre with
 |nil=>rfl
 |cons a p ih=>
  refine(?_:@aN (λO=>T) (a::cm q (p++l)) (q++(a::cm q (p++l))) (gi a)=_);refine af (h a ck) (af (ih λc hc=>h c (cW _ hc)) ?_);rfl
theorem ML(pre:T)(l:T)(h:∀c∈pre,bt c 92=am):iH q (pre++l) am=ob (iH q l am) λr=>ac (pre++r):=by
 induction pre with
 |nil=>show iH q l am=_;cases iH q l am<;>rfl
 |cons a p ih=>
  refine(?_:@aN (λO=>Option T) (ob (iH q (p++l) am) λr=>ac (a::r)) (iH q (p++l) ag) (bt a 92)=_);refine af (h a ck) (af (ih λc hc=>h c (cW _ hc)) ?_);cases iH q l am<;>rfl
theorem Jw{p:Nat}(h:x[p]? =ac c):im x p (p+1)=[c]:=by
 have hp:p<x.length:=(C7.mp h).1;unfold im;refine af (C8 hp) (af (show p+1-p=1 by exact Nat.add_sub_self_left p 1) ?_);rw [rX hp]at h;refine af (eJ h) ?_;rfl
theorem Mb{x:T}{st:Nat}{pre l:T}(h:x.drop st=pre++l):x.drop (st+pre.length)=l/\(x.drop st).take (st+pre.length-st)=pre:=by
 refine af zM.symm (af h (af abe (af (show st+pre.length-st=pre.length by simp) (af List.take_left ?_))));exact⟨rfl,rfl⟩
theorem J9{dn d p n:Nat}(hd:dn+d=n)(g:dn+p+1<=n):d-p-1<d/\dn+p+1+(d-p-1)=n:=by omega
theorem KM{dn d p n:Nat}(hd:dn+d=n)(g:dn+p+1+1<=n):d-p-2<d/\dn+p+2+(d-p-2)=n:=by omega
theorem PB(hx:b8 x)(hl:x.length<=lim):∀(d dn:Nat),dn+d=x.length->qF x i5 (q++·) 1 dn (cm q (x.drop dn)):=λd=>by
 induction d using abf with
 |_ d ih=>
  intro dn hd;rcases Eb gi (x.drop dn)with h|⟨pre,c,r,e,h,hc⟩
  ·refine aw (W4 hx h) λm q2'=>ay q2' λg o=>?_;clear q2'
   have e:=@L2 q (x.drop dn) [] h;rw [ka]at e;rw [e,show cm q []=[]from rfl,ka];exact .last (by exact Nat.le.intro hd) g (by decide) o
  ·refine aw (X7 hx e h hc) λm q1'=>ay q1' λg o=>?_;clear q1'
   refine ay (Mb e) λe1 e2=>?_;refine bu (nZ e1) λeI eU gC=>?_;have T1:=ih (d-pre.length-1) (J9 hd gC).1 (dn+pre.length+1) (J9 hd gC).2;rw [eU]at T1;have T2:=qF.hit g (by decide) o (mS _ _) (bZ _) gC (mK _) gC T1;rw [e2,Jw eI]at T2;refine af e (af (L2 _ _ h) ?_);have e3:cm q (c::r)=(q++[c])++cm q r:=by
    refine(?_:@aN (λO=>T) (c::cm q r) (q++(c::cm q r)) (gi c)=_);refine af hc ?_;simp
   refine af e3 ?_;exact T2
theorem WQ{x:T}(hl:x.length<=lim):∀(d dn:Nat),dn+d=x.length->∀r,iH q (x.drop dn) am=ac r->qF x mW (q++·) 2 dn r:=λd=>by
 have hN:2*x.length+20<2^65:=by unfold lim at hl;lia
 induction d using abf with
 |_ d ih=>
  intro dn hd r hr;rcases Eb (bt · 92) (x.drop dn)with h|⟨pre,c,l,e,h,hc⟩
  ·have zq:=(@Uf x dn (by lia) λc hc e=>by have:=h c hc;rw [e]at this;cases this);refine aw zq λm q0'=>ay q0' λg o=>?_;clear zq q0'
   have e:=@ML q (x.drop dn) [] h;rw [ka,hr]at e;have e:=eJ e;rw [ka]at e;refine af e ?_;exact .last (by lia) g hN o
  ·have hc:=f0 hc
   (symm;subst hc);rw [e,ML _ _ h]at hr;refine aX hr λr1 h1 h0=>?_;refine bG h0 ?_;change iH q l ag=ac r1 at h1;induction l using dD with
   |nil=>exact aW h1
   |cons c l=>
    refine bj (b:= !bt c 10) h1 λhc h1=>aX h1 λr2 h2 h3=>?_;refine bG h3 ?_;have zq:=(PO e (λc hc e=>by have:=h c hc;rw [e]at this;cases this) (λe=>by rw [e]at hc;cases hc));refine aw zq λm q2'=>ay q2' λg o=>?_;clear zq q2';refine ay (Mb e) λe1 e2=>?_;refine bu (nZ e1) λO eU O=>?_;refine bu (nZ eU) λg4 g5 g6=>?_;have T1:=ih (d-pre.length-2) (KM hd g6).1 (dn+pre.length+2) (KM hd g6).2 r2 (by refine af g5 ?_;exact h2);have T2:=qF.hit g hN o (mS _ _) (bZ _) g6 (mK _) g6 T1;rw [e2,Jw g4]at T2;refine af (show q++c::r2=(q++[c])++r2 by simp) ?_;exact T2
end
noncomputable def IW(o:Option aJ):Bool:=match o with
 |some o=>(match o.data with|.dict es _=>es.all (λe=>match e.key with|.str _ _=>ag|_=>am)|_=>am)
 |none=>am
theorem Id(P:aM):IW ((dJ P).lookup j9)=ag:=by left
theorem SG(P:aM):AT ((dJ P).lookup j9) "__builtins__"=ac (.ref 4):=by left
theorem Uk(P:aM):(dJ P).lookup 4=ac ⟨.type "module",ac qn,.plain,#[]⟩:=by left
theorem Ji{w:b7}{os:dl}{lam:aK->Option T}{sp:Nat->List ak->Option ak}{ns:List ak->Option ak}{h:cY}(X:je (bL w os lam sp ns) h):∃mg,h.Ns j9 mg/\∀P,P≠4->h.BuiltinsAt mg P:=by
 have X:=wU X;cases q:(dJ w.params).lookup j9 with
 |none=>have:=Id w.params;rw [q]at this;exact bR this
 |some o=>
  have e:=X _ _ q;refine⟨h.nsMap j9,.of_isNs ?_,λP hP=>⟨4,_,?_,by decide,by decide,r9 hP,X _ _ (Uk _),rfl,rfl,rfl⟩⟩
  ·have g:=Id w.params
   rw [q]at g;unfold Heap.isNs;refine af e ?_;dsimp only [IW]at g⊢;cases q:o.data<;>rw [q]at g<;>first|exact g|exact bR g
  ·have g:=SG w.params
   rw [q]at g;unfold OH;refine af e ?_;exact g
theorem D3{P:List aF->Prop}(h0:P [])(h3:∀a t b t' c r,sr r->P r->P (.int a t:: .int b t'::c::r)):∀l,sr l->P l
 |[],O=>h0
 |.int a t:: .int b t'::c::r,ht=>h3 a t b t' c r ht (D3 h0 h3 r ht)
theorem Us{pos:eF}(l:List aF)(ht:sr l):rU p2 (l++[bO pos.line,bO pos.col,v])=ac u->rU p2 l=ac u\/(p2.line=pos.line/\u=v):=by
 refine D3 (P:=λl=>rU p2 (l++[bO pos.line,bO pos.col,v])=ac u->rU p2 l=ac u\/(p2.line=pos.line/\u=v)) (λh=>?_) (λa t b t' c r hr ih h=>?_) l ht
 ·refine .inr ?_
  have h:(if((pos.line:Int)==p2.line&&(pos.col:Int)==p2.col)then ac v else ae)=ac u:=h;split at h
  ·rename_i q
   refine bG h ?_;exact⟨(Int.ofNat.inj (beq_iff_eq.mp (cZ.mp q).1)).symm,rfl⟩
  ·exact aW h
 ·have h:(if(a==p2.line&&b==p2.col)then ac c else rU p2 (r++[bO pos.line,bO pos.col,v]))=ac u:=h
  refine(?_:(if(a==p2.line&&b==p2.col)then ac c else rU p2 r)=ac u\/_);split at h
  ·rename_i q;refine af (if_pos q) ?_;exact .inl h
  ·rename_i q;refine af (if_neg q) ?_;exact ih h
theorem XK(l:List aF)(ht:sr l):sr (l++[bO i,bO j,v]):=D3 (P:=λl=>sr (l++[bO i,bO j,v])) trivial (λa t b t' c r O ih=>ih) l ht
theorem J5{s':aC}{ps:Array aF}{pos:eF}(ok:bD G F s)(hp:p∈G.tabs)(one:∀p'∈G.tabs,p'.P=p.P->p'=p)(C:CodeHd s.heap p.c p.P)(htr:sr ps.toList)(hpe:∀p2:eF,p2.line=pos.line->p.e p2=ql)(old:∀p2 c',rU p2 ps.toList=ac c'->∃a o vs t,c'=.ref a/\F a=ac o/\o.data=.fields vs/\vs[1]? =ac (.str (p.e p2) t))(hx:∀a o,a≠p.P->s.heap.get? a=ac o->s'.heap.get? a=ac o)(nc:s.heap.get? c'=ae)(nf:s.heap.get? f=ae)(nfc:f≠c')(hc:s'.heap.get? c'=ac oc)(hd:oc.data=.fields vs)(h1:vs[1]? =ac (.str ql tq))(hf:s'.heap.get? f=ac fo)(hP:s'.heap.get? p.P=ac (tabObj (ps++ #[bO pos.line,bO pos.col,.ref c'])))(o1:s'.os=s.os)(o2:tJ s'.gens)(o3:s.toks<=s'.toks):Pass G F s (eT (eT F c' oc) f fo) s':=by
 have Fc:=ok.fresh nc;have F1f:eT F c' oc f=ae:=by unfold eT;refine af (if_neg nfc) ?_;exact ok.fresh nf
 have up:∀{a},F a=ae->a≠c'->eT F c' oc a=ae:=λh n=>by unfold eT;refine af (if_neg n) ?_;exact h
 have hPl:∃o,s.heap.get? p.P=ac o:=by refine bu (ok.tabs p hp) λO O q0'=>aw q0' λps q1'=>ay q1' λc O=>?_;clear q0' q1';exact Ej c
 have ne:∀a o,F a=ac o->a≠p.P:=λa o e q=>by have:=(ok.tabs p hp).1;rw [<-q,e]at this;cases this
 have ok1:bD G (eT F c' oc) s':=by
  refine⟨ok.base.trans (fj Fc),λa o e=>?_,λp' hp'=>?_,o1.trans ok.os,o2,kA ok.tk o3⟩
  ·unfold eT at e
   split at e
   ·rename_i q;refine bG e ?_;refine af q ?_;exact hc
   ·exact hx a o (ne a o e) (ok.sat a o e)
  ·have x:=ok.tabs p' hp'
   have nP:p'.P≠c':=λq=>by refine bu x λO O q1'=>aw q1' λps q2'=>ay q2' λc O=>?_;clear x q1' q2';refine aw (Ej c) λo ho=>?_;rw [q,nc]at ho;exact aW ho
   by_cases q:p'.P=p.P
   ·obtain rfl:=one p' hp' q
    refine d4 C λo v2 file tf q1'=>d4 q1' λflags tg inF text q2'=>aw q2' λtt q0'=>ay q0' λe1 e2=>?_;clear C q1' q2' q0';refine aw x.2.1 λoc' hoc'=>?_;have C':CodeHd s'.heap p'.c p'.P:=⟨o,v2,file,tf,flags,tg,inF,text,tt,hx _ _ (ne _ _ hoc') e1,e2⟩;have tr:sr (ps++ #[bO pos.line,bO pos.col,.ref c']).toList:=by refine af abg ?_;exact XK _ htr
    refine⟨up x.1 nP,⟨oc',fj Fc _ _ hoc'⟩,_,C'.code hP tr,C'.tab hP,λp2 u hu=>?_⟩;rw [abg]at hu;rcases Us _ htr hu with hu|⟨hl,rfl⟩
    ·refine d4 (old p2 u hu) λa o vs t q0'=>bu q0' λe1 e2 e3=>?_;clear q0'
     exact⟨a,o,vs,t,e1,fj Fc _ _ e2,e3⟩
    ·exact⟨c',oc,vs,tq,rfl,jj,hd,by refine af (hpe p2 hl) ?_;exact h1⟩
   ·refine x.mono (fj Fc) (up x.1 nP) λa o ha e=>hx a o (λz=>?_) e
    rcases ha with rfl|rfl
    ·refine aw x.2.1 λoc' hoc'=>?_
     exact ne _ _ hoc' z
    ·exact q z
 have tb:∀p'∈G.tabs,p'.P≠f:=ok.notab nf;refine⟨(fj Fc).trans (fj F1f),ok1.add F1f hf tb,λa o e n=>hx a o (λq=>n p hp q.symm) e,λa o e=>(qV e).elim (λe=>(qV e).elim .inl λq=>.inr (by refine af q ?_;exact nc)) λq=>.inr (by refine af q ?_;exact nf)⟩
theorem I8:∀p∈pY,p.2.1≠4/\p.2.1≠j9/\∀t∈pY,t.2.1=p.2.1->t=p:=by decide+kernel
theorem TI{w:b7}{os:dl}{lam:aK->Option T}{sp:Nat->List ak->Option ak}{ns:List ak->Option ak}{A:cH}{F:bn}{s:aC}{c:bU}{σ:aA}{params:xJ}{body:aK}{scope:iY}{pos:eF}{Q:aF->aC->Prop}(S:aO (bL w os lam sp ns) c σ F s)(hl:mX pos=ag)(hd:defaultsOf params c.env=([],[]))(hs:∀x∈scope.names,x.2≠.free)(h:∀F' s' f nm ql pm cv ctv,Pass (bL w os lam sp ns) F s F' s'->F' f=ac {cls:=.type "function",data:=.func (kla_fn nm ql params body scope [] pm cv ctv)}->(∀s2:aC,(∀a o,F' a=ac o->s2.heap.get? a=ac o)->s2.heap.CodeRec cv ql)->Q (.ref f) s'):
  aG (aQ (bL w os lam sp ns).prog (bL w os lam sp ns).w) A (eval (.Lambda params body scope pos) c.env) Q aU s:=by
 refine aw S.tb λp q2'=>bu q2' λhp hc hq=>?_;clear q2';refine aw (jD.mp hp) λt q1'=>ay q1' λht z1=>?_;clear q1';subst z1;refine bu (I8 t ht) λn1 n2 n3=>?_;refine aw (Ji (h:=s.heap) (λa o e=>S.ok.sat a o (S.ok.base a o e))) λmg q0'=>ay q0' λhg hb=>?_;clear q0';refine bu (S.ok.tabs _ hp) λt1 t2 q1'=>aw q1' λps q2'=>bu q2' λt3 t4 t5=>?_;clear q1' q2';have C:=abh t3 t4;have hP:s.heap.get? t.2.1=ac (tabObj ps):=t4.2;have htr:sr ps.toList:=by
  refine d4 t3 λo vs file tf q0'=>d4 q0' λflags tg inF text q1'=>bV q1' λtt op q2'=>gY q2' λf1 f2 f3 f4 f5 q0'=>gY q0' λf6 f7 f8 f9 f10 f11=>?_;clear t3 q0' q1' q2';exact f10
 have hcl:N5 scope c.env=pure []:=closureFor_none hs;have qe:c.env.qual++("<lambda>":aL)=(nv t).e pos:=by
  refine af hq ?_;refine(?_:_=ao t.2.2++(".<locals>.":aL)++ @aN (λO=>aL) "<genexpr>" "<lambda>" (mX pos));refine af hl ?_;rfl
 refine cn (oC (bZ s.toks) (kla_eval (Q:=λv s'=>s.toks<=s'.toks->Q v s') (E:=aU) hd ?_)) (λv s' q=>q.2 q.1) λO O q=>q.2;cases ha:rU pos ps.toList with
 |some cv=>
  refine d4 (t5 pos cv ha) λa o vs tk q2'=>dH q2' λz0 e1 e2 e3=>?_;clear q2';subst z0;refine kla_makeFunctionHit hcl S.eo.globals hg hc C hP htr ha (hb _ n1) λctv h' tk' aB hsz ht=>?_;have K:iD s {s with heap:=h'.push {cls:=.type "function",data:=.func (kla_fn "<lambda>" (c.env.qual++"<lambda>") params body scope [] ((mg "__name__").getD .none) (.ref a) ctv)},toks:=tk'}:=⟨λb o e=>eN _ (aB b o e),rfl,rfl,ht⟩;have fr:s.heap.get? h'.objs.size=ae:=Af hsz;refine h _ _ _ _ _ _ _ _ (S.ok.pass1 K fr (fZ _ rfl)) jj λs2 ok=>?_;exact⟨a,o,vs,tk,rfl,ok _ _ (fj (S.ok.fresh fr) _ _ e1),e2,by refine af qe ?_;exact e3⟩
 |none=>
  refine kla_makeFunction hcl S.eo.globals hg hc C hP htr ha (r9 n2) (hb _ n1) λc' ctv h' tk' hx hc1 hc2 hrec htb ht=>?_;refine d4 hrec λc1 oc vs tq q1'=>dH q1' λe1 e2 e3 d9=>?_;clear hrec q1';cases e1;have fr:s.heap.get? h'.objs.size=ae:=Af (bM hc1 (lW hc2));have P1:=J5 (s':={s with heap:=h'.push {cls:=.type "function",data:=.func (kla_fn "<lambda>" (c.env.qual++"<lambda>") params body scope [] ((mg "__name__").getD .none) (.ref c') ctv)},toks:=tk'}) (pos:=pos) S.ok hp (λp' hp' e=>by
   refine aw (jD.mp hp') λt' q0'=>ay q0' λht' z1=>?_;clear q0';subst z1;exact af (n3 t' ht' e) rfl) C htr (λp2 e=>by
   refine af qe ?_;refine(?_:ao t.2.2++(".<locals>.":aL)++ @aN (λO=>aL) "<genexpr>" "<lambda>" (mX p2)=ao t.2.2++(".<locals>.":aL)++ @aN (λO=>aL) "<genexpr>" "<lambda>" (mX pos));unfold mX;exact af e rfl) t5 (λa o n e=>eN _ (hx a o n e)) (Af hc1) fr (sf hc2) (eN _ e2) e3 d9 (fZ _ rfl) (eN _ htb) rfl S.ok.gens ht
  exact h _ _ _ _ _ _ _ _ P1 jj λs2 ok=>⟨c',oc,vs,tq,rfl,ok _ _ (fj (by unfold eT;refine af (if_neg (sf hc2)) ?_;exact S.ok.fresh fr) _ _ jj),e3,d9⟩
set_option backward.match.sparseCases false
def oB(v:V):aK:=@V.rec (λO=>aK) .Lambda .BinOp .BoolOp .Call .Attribute .Name .Constant (λe=>e) v
theorem JF(e:aK):oB (qU e)=e:=by induction e using fw<;>rfl
theorem WP{α:Type}{r:α}{P:Prop}{f:xJ->aK->iY->eF->Option α}(h:KP v f=ac r)(k:∀a b s p,oB v=.Lambda a b s p->f a b s p=ac r->P):P:=by induction v using V.casesOn<;>first|exact aW h|exact k _ _ _ _ rfl h
theorem UL{α:Type}{r:α}{P:Prop}{f:aK->zE->aK->eF->Option α}(h:LO v f=ac r)(k:∀a b s p,oB v=.BinOp a b s p->f a b s p=ac r->P):P:=by induction v using V.casesOn<;>first|exact aW h|exact k _ _ _ _ rfl h
theorem Um{α:Type}{r:α}{P:Prop}{f:CY->List aK->eF->Option α}(h:Ml v f=ac r)(k:∀a b p,oB v=.BoolOp a b p->f a b p=ac r->P):P:=by induction v using V.casesOn<;>first|exact aW h|exact k _ _ _ rfl h
theorem UV{α:Type}{r:α}{P:Prop}{f:aK->List aK->List HM->eF->Option α}(h:LK v f=ac r)(k:∀a b s p,oB v=.Call a b s p->f a b s p=ac r->P):P:=by induction v using V.casesOn<;>first|exact aW h|exact k _ _ _ _ rfl h
theorem Uy{α:Type}{r:α}{P:Prop}{f:aK->aL->eF->Option α}(h:II v f=ac r)(k:∀a b p,oB v=.Attribute a b p->f a b p=ac r->P):P:=by induction v using V.casesOn<;>first|exact aW h|exact k _ _ _ rfl h
theorem Y9{α:Type}{r:α}{P:Prop}{f:aL->eF->Option α}(h:Nn v f=ac r)(k:∀b p,oB v=.Name b p->f b p=ac r->P):P:=by induction v using V.casesOn<;>first|exact aW h|exact k _ _ rfl h
theorem DR{α:Type}{r:α}{P:Prop}{f:zF->Nat->eF->Option α}(h:Bc v f=ac r)(k:∀a b p,oB v=.Constant a b p->f a b p=ac r->P):P:=by induction v using V.casesOn<;>first|exact aW h|exact k _ _ _ rfl h
theorem Mx{α:Type}{r:α}{P:Prop}{f:aL->Option α}(h:E0 c f=ac r)(k:∀x,c=.str x->f x=ac r->P):P:=by induction c using Da<;>first|exact aW h|exact k _ rfl h
theorem uH{α:Type}{l:List α}(h:tz l=ag):l=[]:=by induction l using dD<;>first|rfl|exact bR h
theorem I9{α:Type}{l:Option α}(h:D2 l=ag):l=ae:=by induction l using kC<;>first|rfl|exact bR h
theorem Xa(h:LH a=ag):∃an p,a=⟨[],[⟨"_m",an,p⟩],ae,[],[],ae,[]⟩:=by
 obtain⟨po,ar,va,ko,kd,kw,df⟩:=a;refine ay (cZ.mp h) λh1 h=>?_;refine ay (cZ.mp h) λh2 h=>?_;refine ay (cZ.mp h) λh3 h=>?_;refine ay (cZ.mp h) λh4 h=>?_;refine ay (cZ.mp h) λh5 h=>?_;refine ay (cZ.mp h) λh6 h7=>?_;cases uH h1;cases I9 h3;cases uH h4;cases uH h5;cases I9 h6;cases uH h7;induction ar using dD with
 |nil=>exact bR h2
 |cons x r=>
  refine ay (cZ.mp h2) λe1 e2=>?_;cases uH e1;obtain⟨n,an,p⟩:=x;cases jq.mp e2;exact⟨an,p,rfl⟩
theorem Su(h:ID s=ag):s.kind=.function/\s.isGenerator=am/\s.isCoroutine=am/\s.names=[(("_m":aL),dh.local)]:=by
 refine ay (cZ.mp h) λh1 h=>?_;refine ay (cZ.mp h) λh2 h=>?_;refine ay (cZ.mp h) λh3 h4=>?_;refine⟨?_,(Do _).mp h2,(Do _).mp h3,?_⟩
 ·cases e:s.kind<;>rw [e]at h1<;>first|rfl|exact bR h1
 ·cases e:s.names with
  |nil=>rw [e]at h4;exact bR h4
  |cons x r=>
   rw [e]at h4;refine ay (cZ.mp h4) λe1 e2=>?_;refine ay (cZ.mp e2) λe2 e3=>?_;cases uH e1;obtain⟨n,k⟩:=x;cases jq.mp e2;induction k using jb<;>first|rfl|exact bR e3
theorem Jv(h:eW l=ag):l=[]:=by induction l using dD<;>first|rfl|exact bR h
structure PE(e:aK)(q:T):Prop where
 asc:b8 q
 ex:∃params body scope pos,e=.Lambda params body scope pos/\mX pos=ag/\(∀env,defaultsOf params env=([],[]))/\(∀x∈scope.names,x.2≠.free)/\∀nm ql pm cv ctv,D9 (kla_fn nm ql params body scope [] pm cv ctv) q
theorem Xs(h:Mk e=ac u):∃pm ap j p cp,e=.Call (.Attribute (.Name "_m" pm) "group" ap) [.Constant (.int 1) j p] [] cp/\(ap.endLine==cp.line)=ag:=by
 refine UV h λf args kws cp e1 h=>Uy h λm g ap e2 h=>Y9 h λx pm e3 h=>bj h λeI h=>bj h λeU h=>bj h λgC h=>bj h λg4 h=>fy h λd9 ea h=>DR h λc j p e5 h=>bj h λg5 h=>?_;rw [JF]at e1 e2 e3 e5;(symm;subst e1 e2 e3 ea e5);cases uH g4;cases jq.mp eI;cases jq.mp eU;have ec:c=.int 1:=by
  induction c using Da with
  |int i=>
   have:=f0 g5;exact af (show i=1 by lia) rfl
  |_=>exact bR g5
 subst ec;exact⟨pm,ap,j,p,cp,rfl,EN gC⟩
theorem UC(h:km e=ac q):PE e q:=by
 refine WP h λa b s p e1 h=>bj h λeI h=>bj h λeU h=>bj h λgC h=>UL h λl o rr p4 e2 h=>bj h λg4 h=>DR h λc1 j1 p1 e3 h=>Mx h λx ex h=>bj h λga h=>Um h λbo es p3 d9 h=>bj h λg5 h=>oV h λe5 z ez h=>DR h λc2 j2 p2 e6 h=>Mx h λy ey h=>bj h λg6 h=>aX h λu hu h=>?_;rw [JF]at e1 e2 e3 d9 e6;refine d4 (Xs hu) λpm ap j3 p5 q2'=>aw q2' λcp q0'=>ay q0' λe7 g7=>?_;clear q2' q0';refine bV (Xa eI) λan p6 e8=>?_;refine dH (Su eU) λs1 s2 s3 s4=>?_;refine bG h ?_;(symm;subst e1 e2 e3 ex ez d9 e6 ey e7 e8);have eo:o=.Add:=by induction o using Hl<;>first|rfl|exact bR g4
 have eb:bo=.Or:=by induction bo using NZ<;>first|rfl|cases g5
 have ey:y=toS []:=by exact af (show y=toS y.cps.toList from(t7 y).symm) (af (Jv g6) rfl)
 have ex:x=toS x.cps.toList:=(t7 x).symm;subst eo eb ey;refine⟨wj _ ga,_,_,_,_,rfl,gC,λenv=>rfl,by refine af s4 ?_;intro x hx;rw [dm]at hx;subst hx;exact λh=>(nomatch h),λnm ql pm' cv ctv=>⟨⟨j1,p1,j2,p2,p3,p4,pm,ap,cp,j3,p5,by exact af ex.symm rfl,g7⟩,s1,s4,s2,s3,λv=>?_⟩⟩;rfl
set_option backward.match.sparseCases true
section
open Builtin Builtin.Re
theorem Qc{w:b7}{os:dl}{lam:aK->Option T}{sp:Nat->List ak->Option ak}{ns:List ak->Option ak}{A:cH}{F:bn}{s:aC}{p:fM}{x q r:T}{t:fh}{m wd f:Nat}{fo:aJ}{fd:xH}(hp:q5 p=1)(hf:bD (bL w os lam sp ns) F s)(hx:x.length<=lim)(hw:wd=1\/wd=2)(hx2:2*x.length<=lim*wd)(T1:qF x (qN p) (q++·) wd 0 r)(hr:r.length<=m)(hm:m<=lim)(ha:b8 r)(hq:q.length<=1)(room:A.depth<C4)(ho:s.heap.get? f=ac fo)(hfc:fo.cls=.type "function")(hd:fo.data=.func fd)(Z:D9 fd q)(hcr:s.heap.CodeRec fd.code fd.qualname)(hnl:s.heap.NoLimit):
  aP (bL w os lam sp ns) A (call (.builtin "re.Pattern.sub") [(bL w os lam sp ns).val (.pat p),.ref f,.str (toS x) t]) F s (aZ (bL w os lam sp ns) (.str r m)):=by
 refine gB (hf.pat p) λob ot vs q1'=>gY q1' λp1 p2 p3 p4 p5 q2'=>dH q2' λp6 p7 p8 p9=>?_;clear q1' q2';rw [hp]at p5;have new:∀c o,s.heap.get? c=ac o->c≠s.heap.objs.size:=λc o e q=>by rw [q,fW]at e;exact aW e
 refine aP.of hf (I0 Q1 ⟨ob,p1,p2⟩ Zk (TU _ _ _) (Xd p1 p4 p6 p5 p7 p8 p9 ho hfc λk=>AY ?_));have k1:∀c o,s.heap.get? c=ac o->(s.heap.push (dg [] 0)).get? c=ac o:=λO O e=>eN _ e;have hL:(s.heap.push (dg [] 0)).get? s.heap.objs.size=ac (dg [] 0):=fZ _ rfl;have kp:∀{s1:aC},hW s.heap.objs.size s s1->∀c o,s.heap.get? c=ac o->s1.heap.get? c=ac o:=λK c o e=>K.k c o (new c o e) e;refine VM (L:=s.heap.objs.size) (f:=f) (s0:=s) (U:=r) (dn:=0) (it:=(q++·)) hw T1 {s with heap:=s.heap.push (dg [] 0),toks:=k} [] [] 0 0 ⟨λc o O e=>k1 c o e,rfl,rfl⟩ (k1 _ _ p1) p4 p6 p5 p7 (k1 _ _ p8) p9 (new _ _ p1) (new _ _ p8) hL .nil (tK (OL _)) hx2 (by refine(?_:0+r.length<=lim);lia) rfl ?_ ?_
 ·intro st hd' aa bb A' s1 mo tp k' li hA hab hbb iL eI eU QQ hQ
  exact VK (by rcases hA with rfl|rfl<;>exact room) (kp iL _ _ ho) hd Z (hcr.keeps (kp iL)) (hnl.keeps (kp iL)) eI eU hx hq λt' s2 k2 o2 eU=>hQ t' s2 ⟨λc o O e=>k2 c o e,o2,eU⟩ λo e=>k2 _ _ e
 ·intro s' t' K
  exact⟨kp K,K.os,K.gens,aH.str hr ha⟩
theorem Ru(q:T)(hq:q.length<=1)(x:T):(cm q x).length<=2*x.length:=by
 induction x with
 |nil=>exact eG _
 |cons a r ih=>
  refine(?_:(@aN (λO=>T) (a::cm q r) (q++(a::cm q r)) (gi a)).length<=_);cases gi a
  ·refine(?_:(cm q r).length+1<=2*(r.length+1));lia
  ·refine(?_:(q++(a::cm q r)).length<=2*(r.length+1));refine af gx (af kb ?_);lia
theorem Pk(hq:b8 q)(hx:b8 x):b8 (cm q x):=by
 induction x with
 |nil=>exact λO h=>(nomatch h)
 |cons a r ih=>
  have h1:=ih λc hc=>hx c (cW _ hc);have h2:b8 (a::cm q r):=λc hc=>(cI.mp hc).elim (λe=>by refine af e ?_;exact hx a ck) (h1 c);refine(?_:b8 (@aN (λO=>T) (a::cm q r) (q++(a::cm q r)) (gi a)));cases gi a
  ·exact h2
  ·exact λc hc=>(vw.mp hc).elim (hq c) (h2 c)
theorem DJ:∀(x r:T)(b:Bool),iH [] x b=ac r->r.length<=x.length/\∀c∈r,c∈x
 |[],r,b,h=>by
  refine bj (b:= !b) h λO h=>?_;refine bG h ?_;exact⟨bZ _,λO h=>h⟩
 |a::x,r,b,h=>by
  have fin:∀{r2:T},iH [] x am=ac r2->ac (a::r2)=ac r->r.length<=(a::x).length/\∀c∈r,c∈a::x:=λ{r2} h2 h3=>by
   refine bG h3 ?_;refine ay (DJ x r2 am h2) λi1 i2=>?_;exact⟨sg i1,λc hc=>(cI.mp hc).elim (λe=>by refine af e ?_;exact ck) λe=>cW _ (i2 c e)⟩
  induction b using hO with
  |true=>exact bj (b:= !bt a 10) h λO h=>aX h λr2 h2 h3=>fin h2 h3
  |false=>
   change@aN (λO=>Option T) (ob (iH [] x am) λr=>ac (a::r)) (iH [] x ag) (bt a 92)=ac r at h;cases e:bt a 92 with
   |false=>rw [e]at h;exact aX (o:=iH [] x am) h λr2 h2 h3=>fin h2 h3
   |true=>
    rw [e]at h;refine ay (DJ x r ag h) λi1 i2=>?_;exact⟨tO i1,λc hc=>cW _ (i2 c hc)⟩
theorem PS{w:b7}{os:dl}{sp:Nat->List ak->Option ak}{ns:List ak->Option ak}{E:bQ}{n:Nat}(H:dp (bL w os km sp ns) E n):zy (bL w os km sp ns) E n:=by
 intro c σ F s pos lam d8 p q x k r d R S hn hlam hse hx hs;obtain⟨qa,params,body,scope,lp,rfl,eI,eU,gC,g4⟩:=UC hlam;refine yH hn ?_;have hs1:lT d8=am:=by
  have h:(!lT d8&&ag)=ag:=hn;rw [Bool.and_true]at h;exact(Do _).mp h
 have he:lY [.Lambda params body scope lp,d8] c.env=[(am,eval (.Lambda params body scope lp) c.env),(am,eval d8 c.env)]:=(ua rfl).trans (congrArg _ (ua hs1));refine af he ?_;refine(?_:aG _ _ (spliced [(am,eval (.Lambda params body scope lp) c.env),(am,eval d8 c.env)]) _ _ _);refine xG (TI S eI (eU _) gC λF1 s1 f nm ql pm cv ctv P1 hf1 hcr=>xG (be.seq (H.ev c σ F1 s1 d8 r R (S.pass P1) hse) λv F2 s2 b6 S2 r2=>Dj ?_));rw [hx]at r2;refine r2.str_el λt e hxl hxa=>?_;subst e;have S2:aO (bL w os km sp ns) c r.2 F2 s2:=S2;have room:c.A.depth<C4:=vy (mH (mS _ _) R.depth) (by refine af Du ?_;decide);have nl:s2.heap.NoLimit:=Ch s2.heap λa o e=>S2.ok.sat a o (S2.ok.base a o e);refine be.weakW (P1.le.trans b6) (S2.yd ?_);have fin:∀{p:fM} {z:T} {m wd:Nat},q5 p=1->(wd=1\/wd=2)->x.length<=lim->2*x.length<=lim*wd->qF x (qN p) (q++·) wd 0 z->z.length<=m->m<=lim->b8 z->q.length<=1->aP (bL w os km sp ns) c.A (call (.builtin "re.Pattern.sub") [(bL w os km sp ns).val (.pat p),.ref f,.str (toS x) t]) F2 s2 (aZ (bL w os km sp ns) (.str z m)):=λh1 h2 h3 h4 h5 h6 h7 h8 h9=>
  Qc h1 S2.ok h3 h2 h4 h5 h6 h7 h8 h9 room (S2.ok.sat _ _ (b6 _ _ hf1)) rfl rfl (g4 nm ql pm cv ctv) (hcr s2 λa o e=>S2.ok.sat a o (b6 a o e)) nl
 induction p using fM.casesOn with
 |esc=>
  refine bj hs λe1 hs=>bj hs λe2 hs=>aX hs λz h1 h2=>?_;refine bG h2 ?_;cases Jv e1;have e2:=gy e2;refine ay (DJ x z am h1) λi1 i2=>?_;exact fin rfl (.inr rfl) (bM hxl e2) (by lia) (WQ (bM hxl e2) x.length 0 (by exact iA (fF x)) z h1) (bM i1 hxl) e2 (λc hc=>hxa c (i2 c hc)) (eG _)
 |jesc=>
  refine bj hs λe1 hs=>bj hs λe2 hs=>?_;refine bG hs ?_;have e1:=gy e1;have e2:=gy e2;exact fin rfl (.inl rfl) (by lia) (by lia) (PB hxa (by lia) x.length 0 (by lia)) (bM (Ru q e1 x) (by exact zI 2 hxl)) e2 (Pk qa hxa) e1
 |_=>exact aW hs
end
theorem KA{w:b7}{s:aC}{env:gX}{Q:aF->aC->Prop}(X:(dJ w.params).In s.heap)(e:v6 w.params x v=ag)(h1:env.globals=j9)(h2:env.builtins=qn)(q:Q v s):aG M A (zQ env x) Q Er s:=by
 unfold zQ;refine af h1 (af h2 ?_);rcases OG.mp e with e|e
 ·refine bv ((Aj X (beq_iff_eq.mp e)).here ?_)
  exact cq q
 ·refine ay (cZ.mp e) λe1 e2=>?_
  refine bv ((Aj X (beq_iff_eq.mp e1)).here ?_);refine bv ((Aj X (beq_iff_eq.mp e2)).here ?_);exact cq q
theorem Xe(P:aM):v6 P "str" (.type "str")=ag:=by left
theorem P4{w:b7}{s:aC}{k:Nat}{env:gX}(X:(dJ w.params).In s.heap)(h1:env.globals=j9)(h2:env.builtins=qn)(aB:env.scope.kind=.function)(hs:env.kindOf "str"=ac .globalImplicit)(ht:env.kindOf "tup"=ac .local)(hn:s.heap.Ns env.locals m)(hm:m "tup"=ac (.ref a))(ha:s.heap.get? a=ac (gA (.int (k:Int) t::vs) kk))(h4:k<10000):
  aG (aQ M W) A (eval (.Call (.Name "str" p1) [.Subscript (.Name "tup" p2) (.Constant (.int 0) j p3) p4] [] p5) env) (λy s3=>(∃u,y=.str (toS (fD 5 k)) u)/\Keeps s s3) E' s:=by
 have e:fi (HF (k:Int))=toS (fD 5 k):=MC (vy h4 (by decide)) (by decide);refine Call_Name1 (abi aB hs (KA X (Xe _) h1 h2 ?_));refine PySem.callWith_type1 (N3 (rY (vD aB ht hn hm (Db (JR ⟨"tuple",_,⟨_,ha,rfl⟩,slot_tuple_getitem.lookup⟩ (Ki ha (j:=0) rfl rfl ?_))))));refine aaB ?_ ?_
 ·refine(?_:Nat.log2 k<1920)
  by_cases h0:k=0
  ·subst h0;decide
  ·exact(NL h0).mpr (kA h4 (bM (by decide:10000<=2^14) (q7 (by decide) (by decide))))
 ·refine af e ?_
  exact⟨⟨_,rfl⟩,_,_,rfl,λO O e=>e⟩
theorem bD.bare(h:bD G F s)(hg:tJ g):bD G F {s with gens:=g}:=⟨h.base,h.sat,h.tabs,h.os,hg,h.tk⟩
structure Kq(prog:nH)(w:b7)(A:cH)(a L:bw)(wr:List bw)(n:Nat)(ks:Nat->Nat)(s5:aC):Prop where
 ex:∃fp g St,WalksS prog w A.in4 a fp wr (GenOnlyQ g) n (λj y=>∃i,(bP n)[j]? =ac i/\∃u,y=.str (toS (fD 5 (ks i))) u) St/\St 0 s5/\(∀i s',St i s'->s'.TypeIs (.ref a) "generator")/\a∈fp/\(∀b∈fp,b<s5.heap.objs.size)/\L∉fp
 bare:tJ s5.gens
theorem Ql(n:Nat):passing (λO=>ag) n 0=bP n:=by
 unfold passing;refine af nQ ?_;exact List.filter_eq_self.mpr λO O=>rfl
theorem YZ{w:b7}{os:dl}{lam:aK->Option T}{sp:Nat->List ak->Option ak}{ns:List ak->Option ak}{A:cH}{F:bn}{s0 s:aC}{t:Nat×Nat×String}{env:gX}{p1 p2 p3 p4 p5 p6 p7 pos:eF}{j l kk:Nat}{scope:iY}{m:aL->Option aF}{vs:List aF}{ks:Nat->Nat}{Q:aF->aC->Prop}(ht:t∈pY)(hf:bD (bL w os lam sp ns) F s0)(aB:∀b o,s0.heap.get? b=ac o->s.heap.get? b=ac o)(ho:s.os=s0.os)(hg:s.gens=s0.gens)(htk:s0.toks<=s.toks)(hL:s0.heap.get? env.locals=ae)(hns:s.heap.Ns env.locals m)(hc:env.code=.ref t.1)(hq:env.qual=(nv t).q)(h1:env.globals=j9)(hek:env.scope.kind=.function)(hew:env.kindOf "w"=ac .local)(hm:m "w"=ac (.ref l))(hFl:F l=ac (dg vs kk))(hv:∀i v,vs[i]? =ac v->∃a t ws k,v=.ref a/\F a=ac (gA (.int (ks i:Int) t::ws) k)/\ks i<10000)(hsn:scope.names=[((".0":aL),dh.local),("tup",dh.local),("str",NameKind.globalImplicit)])(hsk:scope.kind=.function)(hsc:scope.isCoroutine=am)(hp:mX pos=am)(hh:A.handled=ae)(room:A.depth<C4)(h:∀a C I s5,(∀b o,s.heap.get? b=ac o->b≠t.2.1->s5.heap.get? b=ac o)->s5.os=s.os->s.heap.objs.size<=C->s.heap.objs.size<=I->s.toks<=s5.toks->Kq (bL w os lam sp ns).prog (bL w os lam sp ns).w A a env.locals [C,I] vs.length ks s5->
   (∀s',(∀b o,b≠env.locals->b≠C->b≠I->s5.heap.get? b=ac o->s'.heap.get? b=ac o)->s'.os=s.os->tJ s'.gens->s5.toks<=s'.toks->∃F',Pass (bL w os lam sp ns) F s0 F' s')->Q (.ref a) s5):
  aG (aQ (bL w os lam sp ns).prog (bL w os lam sp ns).w) A (eval (.GeneratorExp (.Call (.Name "str" p1) [.Subscript (.Name "tup" p2) (.Constant (.int 0) j p3) p4] [] p5) [⟨.Name "tup" p6,.Name "w" p7,[],0⟩] scope pos) env) Q aU s:=by
 have hpt:nv t∈(bL w os lam sp ns).tabs:=OE ht;refine bu (I8 t ht) λn1 n2 n3=>?_;have std0:je (bL w os lam sp ns) s0.heap:=λa o e=>hf.sat a o (hf.base a o e);refine aw (Ji (h:=s.heap) (λa o e=>aB a o (std0 a o e))) λmg q1'=>ay q1' λhmg hb=>?_;clear q1';refine bu (hf.tabs _ hpt) λt1 t2 q2'=>aw q2' λps q0'=>bu q0' λt3 t4 t5=>?_;clear q2' q0';have htr:sr ps.toList:=by
  refine d4 t3 λo vs file tf q1'=>d4 q1' λflags tg inF text q2'=>bV q2' λtt op q0'=>gY q0' λf1 f2 f3 f4 f5 q1'=>gY q1' λf6 f7 f8 f9 f10 f11=>?_;clear t3 q1' q2' q0';exact f10
 have qe:env.qual++("<genexpr>":aL)=(nv t).e pos:=by
  refine af hq ?_;refine(?_:_=ao t.2.2++(".<locals>.":aL)++ @aN (λO=>aL) "<genexpr>" "<lambda>" (mX pos));refine af hp ?_;rfl
 have hl:s.heap.IsList l vs.toArray:=⟨_,aB _ _ (hf.sat _ _ hFl),rfl,_,rfl⟩;have hLlt:@vU Nat _ env.locals s.heap.objs.size:=hns.lt;have hfree:∀x∈scope.names,x.2≠.free:=by refine af hsn ?_;decide
 have hcell:∀x∈scope.names,x.2≠.cell:=by refine af hsn ?_;decide
 have lt:∀{b:Nat} {o},s0.heap.get? b=ac o->@vU Nat _ b s.heap.objs.size:=λe=>jy (aB _ _ e);have nL:∀{b o},s0.heap.get? b=ac o->b≠env.locals:=λe q=>by rw [q,hL]at e;exact aW e
 have FP:∀{b o},F b=ac o->b≠t.2.1:=λe q=>by have:=t1;rw [q]at e;rw [show(nv t).P=t.2.1 from rfl,e]at this;cases this
 have nlim:s.heap.NoLimit:=(Ch s0.heap std0).keeps aB;refine cn (oC (bZ s.toks) (wpAny_GeneratorExp_make (Q:=λv s'=>s.toks<=s'.toks->Q v s') (E:=aU) hsc (closureFor_none hfree) hcell (by refine af hsn ?_;rfl) hsk room ?_ λx=>rfl)) (λv s' q=>q.2 q.1) λO O q=>q.2;refine rY (vD hek hew hns hm (Hx hl ⟨nlim.push _,?_⟩));have fin:∀(code:aF)(s3:aC),(∀b o,s.heap.get? b=ac o->b≠t.2.1->s3.heap.get? b=ac o)->s3.heap.get? s.heap.objs.size=ac {cls:=.type "list_iterator",data:=.fields #[.ref l,.int 0 0]}->s.heap.objs.size<s3.heap.objs.size->s3.os=s.os->s3.gens=s.gens->
   (∀s',(∀b o,b≠env.locals->b≠s3.heap.objs.size->b≠s.heap.objs.size->s3.heap.get? b=ac o->s'.heap.get? b=ac o)->(∃a o,s0.heap.get? a=ae/\s'.heap.get? a=ac o/\s3.heap.objs.size<=a)->s'.os=s.os->tJ s'.gens->s.toks<=s'.toks->∃F',Pass (bL w os lam sp ns) F s0 F' s')->
   aG (aQ (bL w os lam sp ns).prog (bL w os lam sp ns).w) A (builtinsFor env.globals env.builtins) (λbi s₄=>∀h',h'.Ns s₄.heap.objs.size (λy=>if y=".0" then ac (.ref s.heap.objs.size)else ae)->mO s₄.heap.objs.size (s₄.heap.push {cls:=.type "frame",data:=.dict #[]}) h'->
     s.toks<=s₄.toks+1+1+1->Q (.ref h'.objs.size) {s₄ with
      gens:=s₄.gens.push (.fresh (.compStart (.GeneratorExp (.Call (.Name "str" p1) [.Subscript (.Name "tup" p2) (.Constant (.int 0) j p3) p4] [] p5) [⟨.Name "tup" p6,.Name "w" p7,[],0⟩] scope pos) 0 (.ref s.heap.objs.size) .none (Al scope [] s₄.heap.objs.size code bi env))),
      toks:=s₄.toks+1+1+1,
      heap:=h'.push {cls:=.type "generator",data:=.fields #[.int s₄.gens.size 0,.str "<genexpr>" (s₄.toks+1),.str (env.qual++"<genexpr>") (s₄.toks+1+1)]}}) aU s3:=by
  intro code s3 k3 hI3 hs3 o3 gC T3;refine bV (hb t.2.1 n1) λbm ob q2'=>gY q2' λhbm hne0 hnem hneP hbo q0'=>bu q0' λhcls hdict hdata=>?_;clear q2' q0';refine aw (Ch s0.heap std0) λmc q0'=>ay q0' λz0 hmc=>gB z0 λoc esc epc q1'=>dH q1' λec hec hec2 hec3=>?_;clear q0' z0 q1';have ec3:=k3 _ _ (aB _ _ ec) λq=>by
   have d9:=t4.2;rw [show(nv t).P=Ak from q.symm,ec]at d9;cases d9;cases hec
  have hmg3:s3.heap.Ns env.globals mg:=by refine af h1 ?_;exact hmg.extBut (λb o n e=>k3 b o e n) (r9 n2)
  refine wpAny_builtinsFor hmg3 hbm hne0 (k3 _ _ hbo hneP) hcls hdict hdata ?_;intro h' hn' hs' htk';have hsz:h'.objs.size=s3.heap.objs.size+1:=by rw [hs'.1,nM]
  have keep':∀b o,s3.heap.get? b=ac o->h'.get? b=ac o:=λb o e=>hs'.extBut b o (iP (jy e)) (eN _ e);have keep5:∀b o,s3.heap.get? b=ac o->(h'.push {cls:=.type "generator",data:=.fields #[.int s3.gens.size 0,.str "<genexpr>" (s3.toks+1),.str (env.qual++"<genexpr>") (s3.toks+1+1)]}).get? b=ac o:=λb o e=>eN _ (keep' b o e);have haC:h'.objs.size≠s3.heap.objs.size:=by rw [hsz];exact Og _
  have cl3:@vU Nat _ Ak s.heap.objs.size:=lt ec;have hmem:∀b:Nat,b<s3.heap.objs.size->b≠env.locals->b∈(bP s3.heap.objs.size).filter (· ≠env.locals):=λb h1 h2=>OS.mpr ⟨qt.mpr h1,decide_eq_true h2⟩;have hmem':∀b∈(bP s3.heap.objs.size).filter (· ≠env.locals),@vU Nat _ b s3.heap.objs.size/\b≠env.locals:=λb h=>⟨qt.mp (OS.mp h).1,of_decide_eq_true (OS.mp h).2⟩;have hIm:∀b∈[s.heap.objs.size],b∈(bP s3.heap.objs.size).filter (· ≠env.locals):=λb hb=>by
   rw [dm]at hb;(symm;subst hb);exact hmem _ hs3 (sf hLlt)
  have Fin3:∀b o,F b=ac o->s3.heap.get? b=ac o:=λb o e=>k3 _ _ (aB _ _ (hf.sat _ _ e)) (FP e);have nl3:s3.heap.NoLimit:=⟨mc,⟨oc,esc,epc,ec3,hec,hec2,hec3⟩,hmc⟩;have hsub:∀b∈[s.heap.objs.size,l],b∈(bP s3.heap.objs.size).filter (· ≠env.locals):=λb hb=>by
   rcases cI.mp hb with rfl|hb
   ·exact hIm _ (dm.mpr rfl)
   ·rw [dm]at hb
    (symm;subst hb);exact hmem _ (jy (Fin3 _ _ hFl)) (nL (hf.sat _ _ hFl))
  have jY:s.heap.objs.size≠l:=sf (lt (hf.sat _ _ hFl));have W0:∀A':cH,A'.handled=ae->Walks (bL w os lam sp ns).prog (bL w os lam sp ns).w A' s.heap.objs.size ((bP s3.heap.objs.size).filter (· ≠env.locals)) [s.heap.objs.size] vs.toArray.size (λi v=>vs.toArray[i]? =ac v) _:=λA' hA=>(Hy hA s.heap.objs.size l (r9 jY) vs.toArray).mono_fp hsub;have hQG:QuietGen (bL w os lam sp ns).prog (bL w os lam sp ns).w (Al scope [] s3.heap.objs.size code qn env) "tup" [] (.Call (.Name "str" p1) [.Subscript (.Name "tup" p2) (.Constant (.int 0) j p3) p4] [] p5) ((bP s3.heap.objs.size).filter (· ≠env.locals)) [s.heap.objs.size] (λi v=>vs.toArray[i]? =ac v) (λO=>ag) (λi y=>∃u,y=.str (toS (fD 5 (ks i))) u) (h'.push {cls:=.type "generator",data:=.fields #[.int s3.gens.size 0,.str "<genexpr>" (s3.toks+1),.str (env.qual++"<genexpr>") (s3.toks+1+1)]}):=by
   refine⟨λA' E' i v s2 m2 O O O O O=>cq ⟨rfl,_,_,rfl,λO O e=>e⟩,λA' E' i v s2 m2 O hP O hn2 hm2 hkeep=>?_⟩;have zq:=(hv i v (by simpa using hP));refine d4 zq λa tt ws kk q2'=>bu q2' λz0 hFa hlt4=>?_;clear zq q2';subst z0;have FF:∀b o,F b=ac o->s2.heap.get? b=ac o:=λb o e=>hkeep b (hmem _ (jy (Fin3 _ _ e)) (nL (hf.sat _ _ e))) (λq=>by rw [dm]at q;exact iP (lt (hf.sat _ _ e)) q) o (keep5 _ _ (Fin3 _ _ e));have ek:∀x,(Al scope [] s3.heap.objs.size code qn env).kindOf x=scope.names.lookup x:=λO=>rfl;exact P4 (λb o e=>FF b o (hf.base b o e)) h1 rfl hsk (by rw [ek,hsn];rfl) (by rw [ek,hsn];rfl) hn2 hm2 (FF _ _ hFa) hlt4
  have bare5:tJ (s3.gens.push (.fresh (.compStart (.GeneratorExp (.Call (.Name "str" p1) [.Subscript (.Name "tup" p2) (.Constant (.int 0) j p3) p4] [] p5) [⟨.Name "tup" p6,.Name "w" p7,[],0⟩] scope pos) 0 (.ref s.heap.objs.size) .none (Al scope [] s3.heap.objs.size code qn env)))):=AllBare.push (by refine af gC (af hg ?_);exact hf.gens) rfl;have WS:=WalksS.genexpQ (prog:=(bL w os lam sp ns).prog) (w:=(bL w os lam sp ns).w) (A:=A.in4) hh h'.objs.size s3.gens.size s3.heap.objs.size ((bP s3.heap.objs.size).filter (· ≠env.locals)) [s.heap.objs.size] (λO=>ag) vs.toArray.size (λi y=>∃u,y=.str (toS (fD 5 (ks i))) u) haC (λq=>by have:=(hmem' _ q).1;lia) hIm room (hmem _ (vy cl3 hs3) (nL ec)) (iP (vy cl3 hs3)) (λq=>by rw [dm]at q;exact iP cl3 q);have GA:=GenAt.fresh (prog:=(bL w os lam sp ns).prog) (w:=(bL w os lam sp ns).w) (A:=A.in4) (cenv:=Al scope [] s3.heap.objs.size code qn env) (a:=h'.objs.size) (g:=s3.gens.size) (px:=p6) (pos:=pos) (scope:=scope) (iter:=.Name "w" p7) (m:=λy=>if y=".0" then ac (.ref s.heap.objs.size)else ae)
   (s:={s3 with gens:=s3.gens.push (.fresh (.compStart (.GeneratorExp (.Call (.Name "str" p1) [.Subscript (.Name "tup" p2) (.Constant (.int 0) j p3) p4] [] p5) [⟨.Name "tup" p6,.Name "w" p7,[],0⟩] scope pos) 0 (.ref s.heap.objs.size) .none (Al scope [] s3.heap.objs.size code qn env))),toks:=s3.toks+1+1+1,heap:=h'.push {cls:=.type "generator",data:=.fields #[.int s3.gens.size 0,.str "<genexpr>" (s3.toks+1),.str (env.qual++"<genexpr>") (s3.toks+1+1)]}})
   hh W0 (λO=>ag) (λi y=>∃u,y=.str (toS (fD 5 (ks i))) u) (by refine(?_:scope.names.lookup _=_);refine af hsn ?_;rfl) (by refine(?_:(scope.kind== .class||(scope.kind== .module&&_))=am);refine af hsk ?_;rfl) hsc (λq=>vt _ (hmem' _ q).1) hQG ⟨_,_,_,fZ _ rfl,rfl,rfl,rfl⟩ (Array.getElem?_push_size ..)
   ⟨⟨_,keep5 _ _ hI3,rfl,rfl⟩,⟨_,keep5 _ _ (Fin3 _ _ hFl),rfl,_,rfl⟩⟩ (hn'.push _) (nl3.keeps keep5)
  have z2:@vU Nat _ s3.heap.objs.size (h'.objs.size+1):=by lia
  have z3:∀b:Nat,b<s3.heap.objs.size->b<h'.objs.size+1:=λb h=>by lia
  have z4:@vU Nat _ env.locals h'.objs.size:=by lia
  have z5:@vU Nat _ s.heap.objs.size h'.objs.size:=by lia
  have z6:@LE.le Nat _ s3.heap.objs.size h'.objs.size:=by lia
  have fr5:s0.heap.get? h'.objs.size=ae:=by
   cases q:s0.heap.get? h'.objs.size with
   |none=>rfl
   |some o=>
    have:=lt q;lia
  rw [Ql,eO,oJ]at WS;rw [eO]at GA;refine h _ s3.heap.objs.size s.heap.objs.size _ (λb o e n=>keep5 _ _ (k3 _ _ e n)) o3 (lW hs3) (bZ _) htk' ⟨⟨_,_,_,WS,GA,λi s' st=>st.1.typeIs,ck,λb hb=>?_,λhb=>?_⟩,bare5⟩ λs' k' o' g' t'=>?_
  ·refine(?_:b<(h'.push _).objs.size)
   rw [nM];rcases cI.mp hb with rfl|hb
   ·exact mP _
   ·rcases cI.mp hb with rfl|hb
    ·exact z2
    ·exact z3 _ (hmem' _ hb).1
  ·rcases cI.mp hb with q|hb
   ·exact iP z4 q
   ·rcases cI.mp hb with q|hb
    ·exact iP (vy hLlt hs3) q
    ·exact(hmem' _ hb).2 rfl
  ·exact T3 s' (λb o n1 n2 n3 e=>k' b o n1 n2 n3 (keep5 _ _ e)) ⟨h'.objs.size,_,fr5,k' _ _ (sf z4) haC (sf z5) (fZ _ rfl),z6⟩ o' g' (bM htk' t')
 cases ha:rU pos ps.toList with
 |some cv=>
  refine wpAny_genexprCode_hit hc (t3.keeps λb o e=>eN _ (aB b o e)) ha (fin cv _ (λb o e O=>eN _ e) (fZ _ rfl) (by refine(?_:_<(s.heap.push _).objs.size);rw [nM];exact mP _) rfl rfl λs' k' O o' g' t'=>?_);have kept:∀b o,s0.heap.get? b=ac o->s'.heap.get? b=ac o:=λb o e=>k' b o (nL e) (λq=>by have:=lt e;rw [q]at this;change(s.heap.push _).objs.size<_ at this;rw [nM]at this;lia) (iP (lt e)) (eN _ (aB b o e));exact⟨F,.rfl,(hf.bare g').keeps ⟨kept,o'.trans ho,rfl,bM htk t'⟩,λb o e O=>kept b o e,λO O e=>.inl e⟩
 |none=>
  refine wpAny_genexprCodeX hc (t3.keeps λb o e=>eN _ (aB b o e)) (t4.keeps λb o e=>eN _ (aB b o e)) ha λc' h' tk hx hge hlt hcode hrec htab O=>?_;have hge:@vU Nat _ s.heap.objs.size c':=by
   change(s.heap.push _).objs.size<=c' at hge;rw [nM]at hge;exact hge
  have hPs:=lt t4.2;refine d4 hrec λc1 oc ws tq q1'=>dH q1' λe1 e2 e3 d9=>?_;clear hrec q1';cases e1;refine fin (.ref c') _ (λb o e n=>hx b o n (eN _ e)) (hx _ _ (sf hPs) (fZ _ rfl)) (kA hge (lW hlt)) rfl rfl λs' k' ⟨f,fo,f1,f2,f3⟩ o' g' t'=>?_;have nC:∀{b:Nat},b<s.heap.objs.size->b≠h'.objs.size:=λh q=>by lia
  have n4:∀b o,b≠t.2.1->s0.heap.get? b=ac o->s'.heap.get? b=ac o:=λb o n e=>k' b o (nL e) (nC (lt e)) (iP (lt e)) (hx b o n (eN _ (aB b o e)));have fr:s0.heap.get? c'=ae:=by
   cases q:s0.heap.get? c' with
   |none=>rfl
   |some o=>
    have:=lt q;lia
  have P1:=@J5 _ _ _ (nv t) ((nv t).e pos) c' f oc ws fo tq s' _ pos hf hpt (λp' hp' e=>by
   refine aw (jD.mp hp') λt' q0'=>ay q0' λht' z1=>?_;clear q0';subst z1;exact af (n3 t' ht' e) rfl) (abh t3 t4) htr (λp2 e=>by
   refine(?_:ao t.2.2++(".<locals>.":aL)++ @aN (λO=>aL) "<genexpr>" "<lambda>" (mX p2)=ao t.2.2++(".<locals>.":aL)++ @aN (λO=>aL) "<genexpr>" "<lambda>" (mX pos));unfold mX;exact af e rfl) t5 n4 fr f1 (λq=>by rw [q]at f3;exact absurd hlt (vL.mpr f3))
   (k' _ _ (λq=>by rw [<-q]at hLlt;lia) (iP hlt) (sf hge) e2) e3 (by exact af d9 (af qe rfl)) f2 (k' _ _ (nL t4.2) (nC hPs) (iP hPs) htab.2) (o'.trans ho) g' (bM htk t')
  exact⟨_,P1⟩
theorem Sb{sep:T}{ys:List T}(h:(ys.map fF).sum+ys.length*sep.length<=1000000):JoinOk (toS sep) (ys.map toS)=ag:=by
 unfold JoinOk;rw [List.foldl_toArray];have aux:∀(ys:List T)(n:Nat),NJ (λa b=>a+tL b+tL (toS sep)) n (ys.map toS)=n+((ys.map fF).sum+ys.length*sep.length):=λys=>by
  induction ys with
  |nil=>exact λn=>by simp
  |cons y r ih=>
   intro n;rw [qm,NK,ih,fH,fH,qm,OR,kb,HJ];lia
 rw [aux,iA];unfold ZV;rw [decide_eq_false (by rw [gM];lia)];rfl
theorem Bt{Q:aF->aC->Prop}{s:aC}(h:∀t k,s.toks<=k->Q (.str x t) {s with toks:=k}):aG M A (eval (.Constant (.str x) k pos) env) Q E s:=Dm (h _ _ (mK _))
theorem GC{Q:aF->aC->Prop}{s:aC}(h:∀t' k,s.toks<=k->Q (.str (toS (x++y)) t') {s with toks:=k})(hs:x.length+y.length<=1000000):aG (aQ prog w) A (ln .Add (.str (toS x) t) (.str (toS y) u)) Q aU s:=
 cn (oC (bZ s.toks) (SB.add (Q:=λv s'=>s.toks<=s'.toks->Q v s') (λt' k aB=>by rw [rM];exact h t' k aB) (by rw [fH,fH,gM];exact bM hs (ik 1000000 15777216)))) (λv s' q=>q.2 q.1) λO O q=>q.2
theorem YH{env:gX}{p5 p6:eF}{s:aC}(hek:env.scope.kind=.function)(e2:env.kindOf x=ac .local)(hn:s.heap.Ns env.locals m)(h2:m x=ac v)(hx:(x==("__debug__":aL))=am)(hl:(p5.endLine==p6.line)=ag)(h:∀t k,s.toks<=k->aG (aQ prog w) A (call (.builtin "str.join") [.str c2 t,v]) Q aU {s with toks:=k}):aG (aQ prog w) A (eval (.Call (.Attribute (.Constant (.str c2) j2 p4) "join" p5) [.Name x p7] [] p6) env) Q aU s:=by
 refine @D8 (.Constant (.str c2) j2 p4) [.Name x p7] _ _ _ "join" _ _ _ _ _ rfl rfl rfl hl (Bt λt2 k2 hk2 pl=>?_);have z1:Ae "str"/\kD "str" "join" "str.join"/\sj (.builtin "str.join")=pure (.type "method_descriptor"):=⟨vN,aaT,aaU⟩;refine yN z1 ⟨zN _ _ _,λb e=>(nomatch e)⟩ (yH rfl ?_);refine(?_:aG _ _ (spliced [(am,eval (.Name x p7) env)]) _ _ _);exact xG (rY (vD hek e2 hn h2 (Dj (h t2 k2 hk2))) hx)
theorem JD(sep:T)(ys:List T)(n:Nat)(h:∀y∈ys,y.length<=n):(ys.map fF).sum+ys.length*sep.length<=ys.length*(n+sep.length):=by
 induction ys with
 |nil=>simp
 |cons y r ih=>
  rw [qm,OR,kb,HJ,HJ];have:=ih λz hz=>h z (cW _ hz);have:=h y ck;lia
def WV(s5:aC)(L C I:bw)(x:T)(fl:Flow)(s':aC):Prop:=(∃t',fl=.ret (.str (toS x) t'))/\(∀b o,b≠L->b≠C->b≠I->s5.heap.get? b=ac o->s'.heap.get? b=ac o)/\s'.os=s5.os/\tJ s'.gens
theorem XI{env:gX}{C I k6:Nat}{h6:cY}{p5 p6:eF}(X:Kq prog w A a env.locals [C,I] n ks s5)(aB:∀b o,b≠env.locals->s5.heap.get? b=ac o->h6.get? b=ac o)(hz:h6.objs.size=s5.heap.objs.size)(htk:s5.toks<=k6)(hn:h6.Ns env.locals m6)(h1:m6 "prefix"=ac (.str (toS pre) tp))(h2:m6 "firsts"=ac (.ref a))(hp:pre.length<=12)(hn1:n<=1000)(hek:env.scope.kind=.function)(e1:env.kindOf "prefix"=ac .local)(e2:env.kindOf "firsts"=ac .local)(hl:(p5.endLine==p6.line)=ag)(hc1:c1=toS [32])(hc2:c2=toS [44,32]):
  aG (aQ prog w) A (execs [.Return (ac (.BinOp (.BinOp (.Name "prefix" p1) .Add (.Constant (.str c1) j1 p2) p3) .Add (.Call (.Attribute (.Constant (.str c2) j2 p4) "join" p5) [.Name "firsts" p7] [] p6) p8)) p9] env)
   (WV s5 env.locals C I (pre++[32]++cy [44,32] ((bP n).map λi=>fD 5 (ks i)))) aU {s5 with heap:=h6,toks:=k6}:=by
 obtain⟨⟨fp,g,St,W,st,hT,ha,hfp,hL⟩,bare⟩:=X;have W:=W.in4_2;(symm;subst hc1 hc2);have hmem:∀y∈(bP n).map λi=>fD 5 (ks i),y.length<=5:=λy hy=>by
  refine aw (jD.mp hy) λi q1'=>ay q1' λO z1=>?_;clear q1';subst z1;exact DE 5 _
 have hjl:=JD [44,32] _ 5 hmem;rw [gj,oJ]at hjl;have hjl:(((bP n).map λi=>fD 5 (ks i)).map fF).sum+n*2<=n*7:=hjl;refine zV (aak (zR (zR (rY (vD hek e1 hn h1 (Bt λt0 k0 hk0=>?_)) (by left)))));refine GC (λt1 k1 hk1=>?_) (by refine(?_:pre.length+1<=_);exact mH hp (of_decide_eq_true (id (tN ag))));refine YH hek e2 hn h2 (by left) hl λt2 k2 hk2=>?_;have hk2:s5.toks<=k2:=bM htk (bM hk0 (bM hk1 hk2));refine(?_:aG _ _ _ _ _ {s5 with heap:=h6,toks:=k2});refine SC.joinGen W hT (W.frame 0 s5 h6 k2 st hk2 λb hb o e=>aB b o (λq=>hL (q▸hb)) e) (λb hb=>by refine(?_:b<h6.objs.size);refine af hz ?_;exact hfp b hb) ha (λi v ⟨_,_,u,e⟩=>⟨_,u,e⟩) (λs' lt hm hacc=>?_) (bM hn1 (by refine af gM ?_;decide));have hlt:lt.map (·.1)=((bP n).map λi=>fD 5 (ks i)).map toS:=by
  apply abj;intro j;have hsz:lt.length=n:=by simpa [strValues]using hacc.1
  by_cases hj:j<n
  ·have hj':j<lt.length:=hsz▸hj
   have zq:=(hacc.2 j (.str lt[j].1 lt[j].2) (by simp [strValues,rX hj']));refine aw zq λi q2'=>ay q2' λhi q0'=>aw q0' λu hv=>?_;clear zq q2' q0';rw [rX (by refine af oJ ?_;exact hj),List.getElem_range]at hi;cases hi;injection hv with h1 _
   simp [rX hj',hj,h1]
  ·exact af (vT (by simpa [hsz]using sq hj)) (af (vT (by simpa using sq hj)) rfl)
 have e:Ot (toS [44,32]) (((bP n).map λi=>fD 5 (ks i)).map toS)=toS (cy [44,32] ((bP n).map λi=>fD 5 (ks i))):=(Ou _ _).trans (yh _ _);refine af hlt (af e ?_);refine⟨Sb (by rw [gj,oJ];refine(?_:_+n*2<=_);lia),λt' k=>?_⟩;refine GC (λt3 k3 O=>?_) ?_
 ·exact⟨⟨t3,rfl⟩,λb o n1 n2 n3 e=>hm.heap b o (λq=>by simp only [cI,oE,or_false]at q;exact q.elim n2 n3) (aB b o n1 e),hm.os,hm.gens.bare bare⟩
 ·have:=Ge [44,32] ((bP n).map λi=>fD 5 (ks i))
  rw [gj,oJ]at this;have this:(cy [44,32] ((bP n).map λi=>fD 5 (ks i))).length<=(((bP n).map λi=>fD 5 (ks i)).map fF).sum+2*n:=this;refine af gx ?_;refine(?_:pre.length+1+_<=_);lia
theorem Ye:∀{vs:List aF} {l:List T},yP rows=ac l->br G F vs rows->∃zs:List Nat,l=zs.map (fD 5)/\zs.length=vs.length/\∀i v,vs[i]? =ac v->∃a t ws k,v=.ref a/\F a=ac (gA (.int ((zs.getD i 0:Nat):Int) t::ws) k)/\zs.getD i 0<10000:=by
 induction rows with
 |nil=>
  intro vs l h r;refine bG h ?_;refine af r.nil_er ?_;exact⟨[],rfl,rfl,λi v e=>by exact aW e⟩
 |cons d rows ih=>
  intro vs l h r;refine rR h λes e h=>?_;(symm;subst e);induction es using dD with
  |nil=>exact aW h
  |cons e es=>
   refine jw h λi n e1 h=>qK h λk e2 h=>bj h λhb h=>aX h λaY e3 h=>r.cons_er λv ws ev rd rr=>?_;refine bG h ?_;(symm;subst e1 e2 ev);refine aw (ih e3 rr) λzs q0'=>bu q0' λbC q2 q3=>?_;clear q0';refine rd.tup_el λa us m d9 hF r4=>r4.cons_er λu us' e5 r5 O=>r5.int_el λt e6 O=>?_;(symm;subst d9 e5 e6);refine⟨k::zs,congrArg (fD 5 k::·) bC,congrArg (· +1) q2,λj v hj=>?_⟩;induction j using j8 with
   |zero=>refine bG hj ?_;exact⟨a,t,us',m,rfl,hF,ll hb⟩
   |succ j=>exact q3 j v hj
theorem U0{α β:Type}(f:α->β)(z:α)(zs:List α):(bP zs.length).map (λi=>f (zs.getD i z))=zs.map f:=by
 apply abj;intro j;by_cases h:j<zs.length
 ·refine af (Hw) (af (Hw) (af (List.getElem?_range h) (af (rX h) ?_)))
  refine(?_:ac (f (zs.getD j z))=ac (f zs[j]));rw [aay,rX h];rfl
 ·have h:=sq h
  rw [vT (by rw [gj,oJ];exact h),vT (by rw [gj];exact h)]
theorem YI:(cw "format_witnesses").body=[.Assign [.Name "firsts" ⟨166,4,166,10⟩] (.GeneratorExp (.Call (.Name "str" ⟨166,14,166,17⟩) [.Subscript (.Name "tup" ⟨166,18,166,21⟩) (.Constant (.int 0) 0 ⟨166,22,166,23⟩) ⟨166,18,166,24⟩] [] ⟨166,14,166,25⟩) [⟨.Name "tup" ⟨166,30,166,33⟩,.Name "w" ⟨166,37,166,38⟩,[],0⟩] ⟨.function,[(".0",.local),("tup",.local),("str",.globalImplicit)],ag,am,[]⟩ ⟨166,13,166,39⟩) ⟨166,4,166,39⟩,
  .Assign [.Name "prefix" ⟨167,4,167,10⟩] (.Constant (.str "at tab size") 0 ⟨167,13,167,26⟩) ⟨167,4,167,26⟩,
  .If (.Compare (.Call (.Name "len" ⟨168,7,168,10⟩) [.Name "w" ⟨168,11,168,12⟩] [] ⟨168,7,168,13⟩) [.Gt] [.Constant (.int 1) 0 ⟨168,16,168,17⟩] ⟨168,7,168,17⟩) [.Assign [.Name "prefix" ⟨169,8,169,14⟩] (.BinOp (.Name "prefix" ⟨169,17,169,23⟩) .Add (.Constant (.str "s") 0 ⟨169,26,169,29⟩) ⟨169,17,169,29⟩) ⟨169,8,169,29⟩] [] ⟨168,4,169,29⟩,
  .Return (ac (.BinOp (.BinOp (.Name "prefix" ⟨170,11,170,17⟩) .Add (.Constant (.str " ") 0 ⟨170,20,170,23⟩) ⟨170,11,170,23⟩) .Add (.Call (.Attribute (.Constant (.str ", ") 0 ⟨170,26,170,30⟩) "join" ⟨170,26,170,35⟩) [.Name "firsts" ⟨170,36,170,42⟩] [] ⟨170,26,170,43⟩) ⟨170,11,170,43⟩)) ⟨170,4,170,43⟩]:=by left
theorem zA:(cw "format_witnesses").names=[(ao "w",.local),(ao "firsts",.local),(ao "prefix",.local),(ao "len",.globalImplicit)]:=by left
theorem KK:(cw "format_witnesses").params=[("w":aL)]:=by left
theorem Ul(P:aM):v6 P "len" (.builtin "len")=ag:=by left
noncomputable def aB(s:aC)(h:cY)(k:Nat):aC:={s with heap:=h,toks:=k}
theorem GU{env:gX}{h:cY}{k:Nat}{Q:Unit->aC->Prop}(hl:env.kindOf x=ac .local)(hn:h.Ns env.locals m)(hp:(env.scope.kind== .class||(env.scope.kind== .module&&env.locals !=env.globals))=am)(q:∀h',h'.Ns env.locals (λy=>if y=x then ac v else m y)->mO env.locals h h'->Q () (aB s h' (k+1))):aG M A (NY env x v) Q E (aB s h k):=
 Z7 (s:=aB s h k) hl hn (λh' a b=>q h' a b) hp
theorem Wd{env:gX}{h:cY}{k:Nat}(hl:env.kindOf x=ac .local)(hn:h.Ns env.locals m)(hp:(env.scope.kind== .class||(env.scope.kind== .module&&env.locals !=env.globals))=am)(q:∀t h' k',h'.Ns env.locals (λy=>if y=x then ac (.str c t)else m y)->mO env.locals h h'->k<=k'->aG M A (execs rest env) Q aU (aB s h' k')):aG M A (execs (.Assign [.Name x p] (.Constant (.str c) j p2) p3::rest) env) Q aU (aB s h k):=
 zV (OT (Bt λt k1 h1=>GU (s:=s) (h:=h) (k:=k1) hl hn hp λh' a b=>q t h' _ a b (tO h1)))
theorem Th{env:gX}{h:cY}{k:Nat}{Q:Flow->aC->Prop}(hc:c'=toS c)(hek:env.scope.kind=.function)(hl:env.kindOf x=ac .local)(hx:(x==("__debug__":aL))=am)(hn:h.Ns env.locals m)(hm:m x=ac (.str (toS y) tp))(hs:y.length+c.length<=1000000)(hp:(env.scope.kind== .class||(env.scope.kind== .module&&env.locals !=env.globals))=am)(q:∀t h' k',h'.Ns env.locals (λz=>if z=x then ac (.str (toS (y++c)) t)else m z)->mO env.locals h h'->k<=k'->Q .next (aB s h' k')):aG (aQ prog w) A (execs [.Assign [.Name x p] (.BinOp (.Name x p2) .Add (.Constant (.str c') j p3) p4) p4] env) Q aU (aB s h k):=by
 subst hc;exact zV (OT (zR (rY (vD (s:=aB s h k) hek hl hn hm (Bt λt1 k1 h1=>GC (s:=aB s h k1) (λt2 k2 h2=>GU (s:=s) (h:=h) (k:=k2) hl hn hp λh' a b=>zU (q t2 h' _ a b (tO (bM h1 h2)))) hs)) hx)))
theorem Td{env:gX}{k:Nat}{w:b7}(hek:env.scope.kind=.function)(hlw:env.kindOf x=ac .local)(hx:(x==("__debug__":aL))=am)(hlg:env.kindOf "len"=ac .globalImplicit)(X:(dJ w.params).In h)(hg:env.globals=j9)(hb:env.builtins=qn)(hn:h.Ns env.locals m)(hm:m x=ac (.ref l))(hL:h.get? l=ac (dg vs kk))(hv:vs.length<=1000)(q:∀k',k<=k'->@aN (λO=>Prop) (aG (aQ prog w) A (execs rest env) Q aU (aB s h k')) (aG (aQ prog w) A (execs b1 env) (λf s'=>match f with|.next=>aG (aQ prog w) A (execs rest env) Q aU s'|f=>Q f s') aU (aB s h k')) (eK 1 vs.length)):
  aG (aQ prog w) A (execs (.If (.Compare (.Call (.Name "len" p1) [.Name x p2] [] p3) [.Gt] [.Constant (.int 1) j p4] p5) b1 [] p6::rest) env) Q aU (aB s h k):=by
 refine zV (wpAny_If (Z8 (Call_Name1 (abi hek hlg (KA (s:=aB s h k) X (Ul _) hg hb (PySem.callWith_builtin1 (rY (vD (s:=aB s h k) hek hlw hn hm (aas (items:=vs.toArray) ⟨_,hL,rfl,kk,rfl⟩ ?_ (Db (P.gt_int ?_)))) hx)))))))
 ·refine af eO ?_;lia
 ·refine NP ?_
  have q:=q (k+1+1+1) (by lia);have e:az ((vs.toArray.size:Int)>1)=eK 1 vs.length:=by
   refine af eO ?_;cases z:eK 1 vs.length with
   |true=>have:=ll z;exact decide_eq_true (by exact Int.lt_of_toNat_lt this)
   |false=>exact decide_eq_false λh=>by rw [show eK 1 vs.length=ag from lw (by exact(λ{m n}=>OK.mp) h)]at z;cases z
  refine af e ?_;cases z:eK 1 vs.length with
  |true=>rw [z]at q;exact q
  |false=>rw [z]at q;exact zU q
theorem Xg{w:b7}{os:dl}{lam:aK->Option T}{sp:Nat->List ak->Option ak}{ns:List ak->Option ak}{A:cH}{F:bn}{s:aC}{vs:List aF}{ds:List ak}{d:ak}{K k:Nat}(hr:bX K A)(hf:bD (bL w os lam sp ns) F s)(r:br (bL w os lam sp ns) F vs ds)(h:pi k ds=ac d):
  lr (aQ (bL w os lam sp ns).prog (bL w os lam sp ns).w) A (.call ((bL w os lam sp ns).val (.fn k)) ⟨vs,[]⟩) (λr s'=>∃v,r=.ok (.ret v)/\be (Pass (bL w os lam sp ns) F s) F (aZ (bL w os lam sp ns) d) v s') s:=by
 unfold pi at h;refine bj h λek h=>fy h λd0 e0 h=>iI h λrows e1 h=>bj h λhb h=>aX h λl hl hh=>?_;cases f0 ek;(symm;subst e0 e1);refine bG hh ?_;refine r.cons_er λv ws ev rd rr=>?_;cases rr.nil_er;subst ev;refine rd.list_el λa us m ea hF ra=>?_;subst ea;refine aw (Ye hl ra) λzs q2'=>bu q2' λbC q2 q3=>?_;clear q2';refine aw (@TA w os lam sp ns) λfd fa=>?_;have std:je (bL w os lam sp ns) s.heap:=λa o e=>hf.sat a o (hf.base a o e);have kk:∀y,(dY fd s.heap.objs.size 200).kindOf y=ba y (cw "format_witnesses").names:=λy=>by rw [yK,<-fa.names];rfl
 have kl:∀y v,ba y (cw "format_witnesses").names=v->(dY fd s.heap.objs.size 200).kindOf y=v:=λy v e=>(kk y).trans e;refine af fa.val ?_;refine Hc (n:=0) IF fa (hr.mono (eG _)) hf (by refine af KK ?_;rfl) λs1 ht x=>?_;refine aw fa.tab λp q1'=>bu q1' λhp ec eq=>?_;clear q1';refine aw (jD.mp hp) λt q0'=>ay q0' λhtm z1=>?_;clear q0';subst z1;have hm0:vO (dY fd s.heap.objs.size 200).kindOf ((cw "format_witnesses").params.zip [.ref a]) (λO=>ae) "w"=ac (.ref a):=by
  refine af KK ?_;exact(congrFun (if_pos (kl _ _ (by refine af zA ?_;left))) _).trans (if_pos rfl)
 have lnew:s.heap.get? (dY fd s.heap.objs.size 200).locals=ae:=Af (bZ _);have nP:(dY fd s.heap.objs.size 200).locals≠t.2.1:=λq=>hf.notab lnew _ hp q.symm;have hl1:(dY fd s.heap.objs.size 200).kindOf "firsts"=ac .local:=kl _ _ (by refine af zA ?_;left);have hl2:(dY fd s.heap.objs.size 200).kindOf "prefix"=ac .local:=kl _ _ (by refine af zA ?_;left);have hlw:(dY fd s.heap.objs.size 200).kindOf "w"=ac .local:=kl _ _ (by refine af zA ?_;left);have hlg:(dY fd s.heap.objs.size 200).kindOf "len"=ac .globalImplicit:=kl _ _ (by refine af zA ?_;left);have hek:(dY fd s.heap.objs.size 200).scope.kind=.function:=fa.kind;have hsp:((dY fd s.heap.objs.size 200).scope.kind== .class||((dY fd s.heap.objs.size 200).scope.kind== .module&&(dY fd s.heap.objs.size 200).locals !=(dY fd s.heap.objs.size 200).globals))=am:=by refine af hek ?_;rfl
 have x':=x.toInCall;clear x hp;generalize he:dY fd s.heap.objs.size 200=env at*;have hg:env.globals=j9:=by refine af he.symm ?_;exact fa.glob
 have hbu:env.builtins=qn:=by refine af he.symm ?_;exact fa.bui
 refine af YI ?_;refine zV (OT (YZ (l:=a) (kk:=m) (ks:=λi=>zs.getD i 0) htm hf x'.keep (by refine bV x'.done λO O q2'=>ay q2' λz0 O=>?_;clear q2';subst z0;rfl) (by refine bV x'.done λO O q1'=>ay q1' λz0 O=>?_;clear q1';subst z0;rfl) ht lnew x'.ns (by refine af he.symm ?_;exact ec) (by refine af he.symm ?_;exact eq) hg hek hlw hm0 hF q3 (by left) rfl rfl (by left) hr.hh (by have:=hr.depth;refine af Du ?_;refine(?_:A.depth+1<1000);lia) λga C I s5 k5 o5 hC hI ht5 GR close=>?_));have hn5:=x'.ns.extBut (λb o n e=>k5 b o e n) nP;refine GU (s:=s5) (h:=s5.heap) (k:=s5.toks) hl1 hn5 hsp λh6 hn6 hs6=>?_;refine Wd hl2 hn6 hsp λt2 h7 k7 hn7 hs7 hk7=>?_;have hpre:("at tab size":aL)=toS [97,116,32,116,97,98,32,115,105,122,101]:=by left
 rw [hpre]at hn7;have kp7:∀b o,b≠env.locals->s5.heap.get? b=ac o->h7.get? b=ac o:=λb o n e=>hs7.extBut b o n (hs6.extBut b o n e);have kF:∀b o,F b=ac o->h7.get? b=ac o:=λb o e=>kp7 b o (λq=>by have:=hf.sat b o e;rw [q,lnew]at this;exact aW this) (k5 b o (x'.keep b o (hf.sat b o e)) λq=>by have:=(hf.tabs _ (OE htm)).1;rw [show(nv t).P=b from q.symm,e]at this;cases this);have huv:us.length<=1000:=by refine af ra.length ?_;exact gy hb
 have fin:∀{h8:cY} {k8:Nat} {m8:aL->Option aF} {pre:T} {tp:fh},(∀b o,b≠env.locals->s5.heap.get? b=ac o->h8.get? b=ac o)->h8.objs.size=s5.heap.objs.size->s5.toks<=k8->h8.Ns env.locals m8->m8 "prefix"=ac (.str (toS pre) tp)->m8 "firsts"=ac (.ref ga)->pre.length<=12->
   pre=[97,116,32,116,97,98,32,115,105,122,101]++ @aN (λO=>T) [] [115] (eK 1 us.length)->aG (aQ (bL w os lam sp ns).prog (bL w os lam sp ns).w) (A.deeper env) (execs [.Return (ac (.BinOp (.BinOp (.Name "prefix" ⟨170,11,170,17⟩) .Add (.Constant (.str " ") 0 ⟨170,20,170,23⟩) ⟨170,11,170,23⟩) .Add (.Call (.Attribute (.Constant (.str ", ") 0 ⟨170,26,170,30⟩) "join" ⟨170,26,170,35⟩) [.Name "firsts" ⟨170,36,170,42⟩] [] ⟨170,26,170,43⟩) ⟨170,11,170,43⟩)) ⟨170,4,170,43⟩] env) (λfl s'=>∃v,(.ok (.ret (match fl with|.ret v=>v|_=>.none)):vG)=.ok (.ret v)/\be (Pass (bL w os lam sp ns) F s) F (aZ (bL w os lam sp ns) (.str (kg l) 8192)) v s') aU (aB s5 h8 k8):=by
  intro h8 k8 m8 pre tp q1' q2' q3' q4' q5' q6' q7' q8';refine cn (oC (bZ (aB s5 h8 k8).toks) (Q:=λfl s'=>k8<=s'.toks->∃v,(.ok (.ret (match fl with|.ret v=>v|_=>.none)):vG)=.ok (.ret v)/\be (Pass (bL w os lam sp ns) F s) F (aZ (bL w os lam sp ns) (.str (kg l) 8192)) v s') (cn (XI GR q1' q2' q3' q4' q5' q6' q7' huv hek hl2 hl1 rfl (by left) (by left)) (λfl s' q ht'=>?_) λO O z=>z)) (λO O q=>q.2 q.1) λO O z=>z.2;refine dH q λz0 a1 a2 a3=>aw z0 λt' e=>?_;clear q z0;refine aw (close s' a1 (a2.trans o5) a3 (bM q3' ht')) λF' ps=>?_;subst e;have e1:l.length=us.length:=by rw [bC,gj,q2]
  have e2:(bP us.length).map (λi=>fD 5 (zs.getD i 0))=l:=by refine af q2.symm (af bC ?_);exact U0 (fD 5) 0 zs
  have e3:pre++[32]++cy [44,32] ((bP us.length).map λi=>fD 5 (zs.getD i 0))=kg l:=by
   rw [e2,q8',<-e1];unfold kg;rw [ja,ja];rfl
  refine af e3 ?_;have hj:=Ge [44,32] l;have hs:=JD [44,32] l 5 λy hy=>by rw [bC]at hy;refine aw (jD.mp hy) λz q0'=>ay q0' λO z1=>?_;clear q0';subst z1;exact DE 5 z
  rw [e1]at hj hs;have hj:(cy [44,32] l).length<=(l.map fF).sum+2*us.length:=hj;have hs:(l.map fF).sum+us.length*2<=us.length*7:=hs;refine⟨_,rfl,F',ps.le,ps,aH.str ?_ ?_⟩
  ·refine af e3.symm (af e2 (af gx (af gx ?_)))
   refine(?_:pre.length+1+_<=_);lia
  ·refine af e3.symm (af e2 (af q8' ?_))
   exact((wj _ rfl).append (by cases eK 1 us.length<;>exact wj _ rfl)).append (wj [32] rfl)|>.append (Jd (wj _ rfl) _ λy hy=>by rw [bC]at hy;refine aw (jD.mp hy) λz q2'=>ay q2' λO z1=>?_;clear q2';subst z1;exact Mn 5 z)
 refine Td hek hlw (by left) hlg (λb o e=>kF b o (hf.base b o e)) hg hbu hn7 (l:=a) ?_ (kF _ _ hF) huv λk9 hk9=>?_
 ·exact(if_neg (by decide)).trans ((if_neg (by decide)).trans hm0)
 ·cases hz:eK 1 us.length with
  |false=>exact fin kp7 (by exact af hs7.1 (af hs6.1 rfl)) (bM (vF hk7) hk9) hn7 (if_pos rfl) ((if_neg (by decide)).trans (if_pos rfl)) (by decide) (by refine af hz ?_;rfl)
  |true=>
   refine Th (c:=[115]) (y:=[97,116,32,116,97,98,32,115,105,122,101]) (by left) hek hl2 (by left) hn7 (if_pos rfl) (by decide) hsp λt9 h9 k10 hn9 hs9 hk10=>?_;exact fin (λb o n e=>hs9.extBut b o n (kp7 b o n e)) (by exact af hs9.1 (af hs7.1 (af hs6.1 rfl))) (bM (bM (vF hk7) hk9) hk10) hn9 (if_pos rfl) ((if_neg (by decide)).trans ((if_neg (by decide)).trans (if_pos rfl))) (by decide) (by exact af hz rfl)
theorem TC:zg:=⟨λ_ _ _ _=>Ra,λ_ _ _ _ _ _ H=>PS H⟩
theorem aby{w:b7}{os:dl}:pR (fL w os pi sC) 1:=Lj TC (λA F s k vs ds d R hf r h=>Xg R hf r h) λA F s vs ds d R hf r h=>aW h
theorem abo(is:List Int)(h:is.length<=63):(run (oi km jJ wZ) Au).call 281 [.list (yU is)]=ac (.bool ag):=
 Tw (λd hd=>let⟨i,_,e⟩:=jD.mp hd;⟨i,_,e.symm⟩) (by unfold yU;rw [gj];exact lw (bM h (by decide)))
theorem abv:aaX.wellSaid=ag:=by left
end
end Mine
theorem PySem.Challenge.cw_xt0018_01_holds : PySem.Challenge.rw_xt0018_01.Holds := by
 w_on
 refine holds_law Mine.abv fun said=> ?_
 refine holds_openX (q:=Mine.w0) (loose:=Mine.Bq) (Xt:=Mine.Ja) (XP:=XL Mine.w0 []) (Yf:=X.obsZ (List.range 282)) (Ya:=X.valZ Mine.qT 282 900) (N:=3852) Mine.abB (fun s e=>xl_of s (Bool.and_eq_true_iff.mp e).1) XL.keeps (by rfl) (by rfl) (by rfl) (fun s e=>recFacts_of (Bool.and_eq_true_iff.mp e).2) (by rfl) (by first|assumption|decide+kernel) (by decide+kernel) ⟨rfl,rfl,rfl,rfl,rfl,by decide+kernel⟩ ?hw ?hc
 case hw=>w_witness2
 exact Mine.abK (fun w os=>Mine.abH Mine.TC Mine.aby) Mine.abo rfl
