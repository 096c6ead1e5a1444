import PyProof.Rows.All
import Wide.All
import OpenK.AllK
import Wide.FinOn
import KE.KNestM
import KE.KDictList
import KE.KDictSum
import PyProof.InstEq
import PyProof.EqAt
import KE.KMethU
import KE.KTryMore
import KE.KRevIter
import KE.KPar
import PyProof.ExcInit
import PyProof.ExcBaseAll.Exception
import PyProof.ExcBaseAll.TypeError
import PyProof.InstStoreFacts
import Lean
import PySem.Challenge.RW_jb0048_01
open Array renaming length_toList->G9,getElem?_toList->He,getElem?_eq_some_iff->HF,any_toList->IS,getElem?_eq_none->Jd,toList_inj->Jo,toList_append->Jv,getElem?_eq_none_iff->Jx,getElem?_eq_getElem->JB,toList_push->JE
open Bool renaming false_eq_true->Hq,and_eq_true->Hs,false_ne_true->HG,eq_false_iff->ID,false_or->I9,eq_iff_iff->Ja,not_eq_true'->Jk,not_eq_true->JO,or_eq_true->JT,not_true->Ka
open Int renaming toNat_of_nonneg->Ho,lt_of_le_of_lt->Hu,toNat->Hy,toNat_natCast->HB,ofNat_lt->H0,eq_ofNat_of_zero_le->Ii,ofNat_le->Im,natCast_nonneg->Iq,le_of_eq->IX,lt_of_lt_of_le->IZ,ofNat_inj->Jp,le_trans->Jy,toNat_lt_toNat->Jz,toNat_le->JQ,le_of_lt->JR,lt_trans->JS,sub_sub->J7,ofNat_sub->J8,lt_irrefl->J9,not_lt->Kd
open List renaming prefix_append->GV,prefix_refl->GX,mem_singleton->GY,mem_cons->G0,mem_map->G1,getElem?_eq_getElem->G3,getElem?_eq_some_iff->G4,length_map->G6,length_append->G7,mem_append->G8,getElem?_append_left->Ha,map_cons->Hc,all_eq_true->Hd,range->Hf,getElem?_map->Hg,getElem?_append_right->Hh,zipWith->Hi,getElem?_eq_none_iff->Hj,map_append->Hp,length_cons->Ht,filterMap_cons_some->Hv,filter_cons->Hw,map_map->Hx,length_range->HA,map_congr_left->HC,mem_filter->HD,filterMap_append->HH,isEmpty_iff->HJ,filterMap_cons_none->HL,mem_filterMap->HM,length_singleton->HO,length_eq_zero_iff->HP,lookup->HQ,append_nil->HR,nodup_cons->HS,zip->HT,mem_append_left->HU,mem_of_getElem?->HV,length->HW,length_filter_le->H1,not_mem_nil->H8,mem_range->H9,flatMap_cons->Ia,nodup_iff_pairwise_ne->Ib,mapM_cons->Ie,mem_of_mem_head?->Ig,pairwise_cons->Ih,head?->Ij,mem_of_find?_eq_some->Ik,filterMap_eq_map->Ip,length_filterMap_le->Ir,map->It,mem_range'_1->Iu,size_toArray->Iv,filter_eq_self->Iw,drop_eq_getElem_cons->Iy,mem_of_mem_take->IA,append_assoc->IB,find?_append->IC,getElem?_range->IE,filterMap_cons->IF,filter_append->IG,filterMap_map->IH,find?_cons->IL,getElem?_eq_none->IM,length_filter_lt_length_iff_exists->IN,any_cons->IQ,any_eq_true->IR,cons_append->IT,mem_flatMap->IU,range'->IV,length_reverse->IW,getElem?_cons_zero->I8,find?_some->Jb,drop_eq_nil_of_le->Je,singleton_sublist->Jf,length_eq_one_iff->Jg,pairwise_map->Ji,ext_getElem?->Jj,flatten_cons->Jl,Nodup->Jq,length_nil->Jt,forIn_cons->Ju,getD_eq_getElem?_getD->Jw,findIdx?_eq_none_iff->JA,filterMap_eq_nil_iff->JC,getElem?_set->JF,reverse_cons->JG,nodup_append->JI,getElem_mem->JL,length_take->JM,foldl_cons->JX,length_set->JY,filterMap->J0,head?_map->J6
open Nat renaming le_of_not_lt->GU,le_refl->GW,lt_of_not_le->GZ,le_trans->G2,lt_of_lt_of_le->G5,ne_of_lt->Hb,le_of_lt->Hk,lt_irrefl->Hl,casesAuxOn->Hn,not_lt->Hr,lt_succ_of_lt->Hz,ne_of_gt->HE,lt_succ_self->HI,zero_le->HK,le_of_eq->HN,lt_of_le_of_lt->HX,le_antisymm->HZ,le_of_ble_eq_true->Il,not_lt_zero->Io,mul_le_mul_right->Iz,le_of_sub_eq_zero->IJ,le_succ->IK,add_sub_of_le->IP,lt_trans->IY,add_right_comm->I0,lt_of_lt_of_eq->I7,ne_of_beq_eq_false->Jc,le_of_lt_succ->Jh,sub_eq_zero_of_le->Jm,sub_eq_iff_eq_add->Jn,mul_le_mul_left->Jr,add_le_add_left->Js,le_succ_of_le->JD,le_of_succ_le->JH,add_assoc->JJ,min_le_right->JK,succ_le_succ->JN,zero_add->JP,succ_mul->JV,strongRecOn->JW,ble->Kb
open Option renaming some->Hm,isSome_iff_exists->HY,map_eq_some_iff->Ic,map_some->JU,map->JZ
open PyProof.Rows renaming AllBare->NV,spliced_none->NE,spliced_more->Mw,evalArgs_nil3->N6,Subscript_->OF,wpAny_release'->Nb
open PySem renaming Params->Ko,wpAny->Kg,World->Lw,SetTable->KZ,Program->Lb,intKind->KU,intKind_is->Lg,Around->Kw,Shared->Ki,model->Ku,setAddHashed->Og,wpAny_holding->Km,wpAny_bind->Ke,wpAny_setState_of->KM,wpAny_rule->LH,wpAny_pure->Kf,wpAny_storeSet_of->MF,fits_of_scanBound->ML,typeLookup_type->Lk,builtinLookup_eq_fast->KR,isSubtype_type->Lr,entryFor->MP,table->Oa,Builtin->KV,entryFor_alias->Nf,entryFor_of_tree->MO,argsOk->NN,signature?_of->Nk,wpAny_askSetting->Lq,pyIter->Mz,wpAny_pyIter_slot->NA,wpAny_call_entry->KC,wpAny_setEntries_of->Nj,wpAny_setEpoch_of->Nz,wpAny_newObj_type->Kx,unsupported->Mn,pyNext->Mm,wpAny_attempt->MN,wpAny_callSpecial?_slot->KD,wpAny_fieldsOf->Nd,wpAny_setField->Li,rawInt->Lx,newExc->OB,firstArgMember->Mg,wpAny_of_eq->Ll,raiseNew->NF,wpAny_handled->N3,wpAny_throw->ME,wpAny_isInstance->LQ,isSubtype_stop->NZ,wpAny_specialOf->MX,wpAny_typeOf->Mb,codeAny->Ly,codeAny_builtin->KG,plainId_quiet->LB,codeAny_of_tree->Mt,checkBuiltinCall->NM,sub_set_self->ND,wpAny_alloc->MH,wpAny_call->LK,codeAny_mono->KO,codeAny_call_builtin->LP,wpAny_pyIter_list->MG,wpAny_runValue->Na,sizeLine->Le,sizeLine_eq->MJ,wpAny_mono->Kl,ItemsOf->Om,DictEntry->Od,FuncData->NJ,sysModules->Oz,mainGlobals->Lv,builtinsNs->N1,wpAny_loadName_local->LJ,PyData->N2,Operator->Ov,NameKind->K0,Scope->MZ,Comprehension->No,Keyword->NI,truthy->Ms,wpAny_truthy_bool->Mc,isInstance->Nt,typeOf->NX,compareOp->MQ,isNot_none->OC,valueAt->Ng,typeLookup->MT,setAttr->NT,wpAny_loadPart->Md,aRefKeyMayBeTheName->Mu,wpAny_load->Oy,stored->Nq,setItem->Of,getMethod_builtin->Mf,call_meetsIn->MV,wpAny_field->KA,updateField->Op,isTrue->NY,starEach->Ky,backTo->La,callWith->LA,attributeBase->Nm,backToKw->MC,keywordEach->LO,standAt->Me,methodCall->MU,wpAny_standAt->Kq,methodCallForm->MA,methodCallPos->LX,setFlight->Ml,cameBackBy->OE,bindName->Ou,wpAny_execs_nil->Mr,notedBy->MK,letOwnedTupleGo->NQ,assign->Nu,cellsFrom->L8,pushCells->Lf,pushCells_keeps->MY,relabel->Nh,mem_of_lookup->N5,foldedSetIterable->NH,comprehension->Nl,slot_listiter_next->My,wpAny_seqItems->Mx,updateSeq->N9,wpAny_updateSeq->MW,wpAny_letGo->On,GenState->Ox,arm_eval_Attribute->Nv,wpAny_Name->Np,wpAny_letTemporaryGo->Nc,wpAny_Slice->Oo,firstIterPos->Oj,isExcClass->OD,raiseStmt->Oc,wpAny_listPart->NW,swappedStores->N4,wpAny_Assign_stores->Lp,bindL->MB,bindArgs->MR,wpAny_execs_cons->NK,refuseLoop->Nr,excClassObj->NP,wpAny_loadPart_at->NB,nsFind->OA
open PySem.Around renaming under_plainId->KL
open PySem.Builtin.Frozenset renaming addrOf->Lu,updateFrom->LS,copyOf->Ma
open PySem.Builtin.List renaming listLengthHint->Lm,listExtendWith->Ld,listSameRef->Mk,listItems->Mq
open PySem.Builtin.Range renaming rangeFitsLong->KP
open PySem.Builtin.Tuple renaming tupleExact->Lz
open PySem.Calls renaming evalArgs_plain->Mh,callWith_builtin->Lo
open PySem.Code renaming quiet_builtin->Mp
open PySem.Heap renaming SameBut->KF,get?_update_self->Kn,get?_push_size->Kk,ExtBut->Nw,lt_size->Kj,get?_push_of_some->Kh,size_push->Kv,get?_update_other->Kt
open PySem.Heap.SameBut renaming refl->Mj,update->Ks
open PySem.NameKind renaming free->Kz,cell->LG
open PySem.Obj renaming putSet->LD,mapFields->NR,isFreed_of_fields->KQ,data_mapFields->KN,cls_mapFields->LY,putName->Ny,mapSeq->Ls
open PySem.PyData renaming eqv->Lh,canLay0->LW,depth->Ln,int->Nx,canLayAll0->M0,depthAll->Mi,keyHash->KY,list->LR,eqvAll->KW
open PySem.SetTable renaming below->KJ,laid->MS,sizeAbove->KB,grown->LV,fill->Mo,turns->Nn,insertAt->LU
open PySem.Shared renaming TypeIs->Mv
open PySem.Str renaming ofString->Kp
open PySem.Value renaming none->Kr,type->MD,ref->KI
open PySem.W renaming findIn->KS,mroIn->Oq,instObj->Ni,InstAt->Lj,tabObj->Oe,codeHdIn->N0,Looks->MM,looks_findIn->Oh,takerIn->NS,looks_clsIn->NO,keepIn->LC,plainGet->LL,specialIn->LZ,handedIn->Os,takesIn->NC,recIn->Ob,cellAt->Ol,get_own->Oi,emptyDict->NL,callWith_of->Ot,ghostOf->NU
open PySem.W.Looks renaming here->N8,ld->Ow
open PySem.pickOrder renaming go->NG
open PySem PySem.W PySem.Calls PyProof.Rows PySem.Spec
set_option Elab.async false
set_option maxRecDepth 100000
set_option autoImplicit true
set_option linter.unusedVariables false
set_option maxHeartbeats 8000000
set_option bootstrap.genMatcherCode false
set_option compiler.extract_closed false
set_option genSizeOf false
namespace Mine
local macro_rules (kind:=Lean.Parser.Command.declaration)|d=>do
 if d.getPos?.isNone then Lean.Macro.throwUnsupported
 let e:=d.rewriteBottomUp fun|.atom _ v=>.atom .none v|.ident _ r v p=>.ident .none r v p|.node _ k a=>.node .none k a|x=>x
 let e:=if d[0][1].isNone&&(d[1].isOfKind `Lean.Parser.Command.definition||d[1].isOfKind `Lean.Parser.Command.abbrev)then e.modifyArg 0 (·.setArg 4 (Lean.mkNullNode #[.node .none `Lean.Parser.Command.noncomputable #[.atom .none "noncomputable"]])) else e
 return if d[1][1][0].getId==`hd.tw then Lean.mkNullNode (d[1][2][0][0][1].getArgs.map fun x=>e.modifyArg 1 fun y=>(y.setArg 1 (y[1].setArg 0 (Lean.mkIdent (`hd++x.getId)))).setArg 2 (y[2].setArg 0 Lean.mkNullNode)) else e
local macro_rules |`(!$n:num)=>match n.getNat with|0=>`(by kernel_rfl)|1=>`(by walk_at "v")|2=>`(by walk_at "l")|3=>`(by decide)|_=>`(by decide +kernel)
local macro_rules |`(tactic|intros)=>`(tactic|repeat walk_at "s")
namespace Internal
theorem Rz {c:Prop} {h:Decidable c} (n:¬c) {α:Sort u} {a b:α}:(if c then a else b)=b:=if_neg n
theorem RA {c:Prop} {h:Decidable c} (n:c) {α:Sort u} {a b:α}:(if c then a else b)=a:=if_pos n
set_option genSizeOfSpec false
set_option genInjectivity false
inductive LT where
 |v (i:Nat)
 |k (n:Nat)
 |a (x y:LT)
 |m (n:Nat) (x:LT)
 |r (x:LT) (n:Nat)
def LT.ev (c:List Nat):LT->Nat
 |.v i=>c.getD i 0
 |.k n=>n
 |.a x y=>x.ev c+y.ev c
 |.m n x=>n*x.ev c
 |.r x n=>x.ev c*n
inductive LF where
 |le (x y:LT)
 |lt (x y:LT)
 |eq (x y:LT)
 |nle (x y:LT)
 |nlt (x y:LT)
def LF.den (c:List Nat):LF->Prop
 |.le x y=>x.ev c≤y.ev c
 |.lt x y=>x.ev c<y.ev c
 |.eq x y=>x.ev c=y.ev c
 |.nle x y=>¬x.ev c≤y.ev c
 |.nlt x y=>¬x.ev c<y.ev c
def LF.sides:LF->List (LT×LT)
 |.le x y=>[(x,y)]
 |.lt x y=>[(.a x (.k 1),y)]
 |.eq x y=>[(x,y),(y,x)]
 |.nle x y=>[(.a y (.k 1),x)]
 |.nlt x y=>[(y,x)]
def sC:List Nat->List Nat->List Nat
 |[],q=>q
 |p,[]=>p
 |x::p,y::q=>(x+y)::sC p q
def kZ:Nat->List Nat
 |0=>[1]
 |n+1=>0::kZ n
def dA:List Nat->List Nat->Nat
 |x::c,p::q=>p*x+dA c q
 |_,_=>0
def LT.po:LT->Nat×List Nat
 |.v i=>(0,kZ i)
 |.k n=>(n,[])
 |.a x y=>(x.po.1+y.po.1,sC x.po.2 y.po.2)
 |.m n x=>(n*x.po.1,x.po.2.map (n*·))
 |.r x n=>(n*x.po.1,x.po.2.map (n*·))
theorem ie (c:List Nat):dA c []=0:=by cases c<;>rfl
theorem lc:∀(c p q:List Nat),dA c (sC p q)=dA c p+dA c q
 |[],p,q=>by cases p<;>cases q<;>rfl
 |x::c,[],q=>(JP _).symm
 |x::c,y::p,[]=>(Nat.add_zero _).symm
 |x::c,y::p,z::q=>(congrArg ((y+z)*x+·) (lc c p q)).trans (by rw [Nat.add_mul];exact Nat.add_add_add_comm _ _ _ _)
theorem jw:∀(c:List Nat) (i:Nat),dA c (kZ i)=c.getD i 0
 |[],i=>by cases i<;>rfl
 |x::c,0=>by show 1*x+dA c []=x;rw [ie,Nat.one_mul];rfl
 |x::c,i+1=>by show 0*x+dA c (kZ i)=_;rw [jw c i,Nat.zero_mul,JP];rfl
theorem ii (n:Nat):∀(c p:List Nat),dA c (p.map (n*·))=n*dA c p
 |[],p=>by cases p<;>rfl
 |x::c,[]=>rfl
 |x::c,y::p=>by show n*y*x+dA c (p.map (n*·))=n*(y*x+dA c p);rw [ii n c p,Nat.mul_add,Nat.mul_assoc]
theorem LT.ev_po (c:List Nat):∀t:LT,t.ev c=t.po.1+dA c t.po.2
 |.v i=>by show _=0+dA c (kZ i);rw [jw,JP];rfl
 |.k n=>by show _=n+dA c [];rw [ie];rfl
 |.a x y=>by show x.ev c+y.ev c=_+dA c (sC _ _);rw [lc,ev_po c x,ev_po c y];exact Nat.add_add_add_comm _ _ _ _
 |.m n x=>by show n*x.ev c=_+dA c (It _ _);rw [ii,ev_po c x,Nat.mul_add];rfl
 |.r x n=>by show x.ev c*n=_+dA c (It _ _);rw [ii,ev_po c x,Nat.mul_comm,Nat.mul_add];rfl
def lLe:List Nat->List Nat->Bool
 |[],_=>true
 |x::p,[]=>x==0&&lLe p []
 |x::p,y::q=>Kb x y&&lLe p q
theorem mI:∀(c p q:List Nat),lLe p q=true->dA c p≤dA c q
 |[],p,q,_=>by cases p<;>exact HK _
 |x::c,[],q,_=>HK _
 |x::c,y::p,[],h=>by
  obtain ⟨h1,h2⟩:=(Hs _ _).mp h
  have:=mI c p [] h2
  rw [ie] at this
  show y*x+dA c p≤0
  rw [beq_iff_eq.mp h1,Nat.zero_mul,JP];exact this
 |x::c,y::p,z::q,h=>by
  obtain ⟨h1,h2⟩:=(Hs _ _).mp h
  exact Nat.add_le_add (Iz x (Il h1)) (mI c p q h2)
def lf:List (LT×LT)->List Nat->LT×LT
 |s::l,n::ms=>(.a (.m n s.1) (lf l ms).1,.a (.m n s.2) (lf l ms).2)
 |_,_=>(.k 0,.k 0)
theorem n5 (c:List Nat):∀(l:List (LT×LT)) (ms:List Nat),(∀s∈l,s.1.ev c≤s.2.ev c)->(lf l ms).1.ev c≤(lf l ms).2.ev c
 |[],_,_=>GW _
 |_::_,[],_=>GW _
 |s::l,n::ms,h=>Nat.add_le_add (Jr n (h s (.head _))) (n5 c l ms λt ht=>h t (.tail _ ht))
def vz (c:List Nat):List LF->Prop
 |[]=>False
 |f::l=>f.den c->vz c l
def gn:List LF->List (LT×LT)
 |[]=>[]
 |f::l=>f.sides++gn l
theorem LF.ok (c:List Nat):∀f:LF,f.den c->∀s∈f.sides,s.1.ev c≤s.2.ev c
 |.le x y,h,s,e=>by cases GY.mp e;exact h
 |.lt x y,h,s,e=>by cases GY.mp e;exact h
 |.eq x y,h,s,e=>by
  rcases G0.mp e with rfl|e
  ·exact HN h
  cases GY.mp e;exact HN h.symm
 |.nle x y,h,s,e=>by cases GY.mp e;exact GZ h
 |.nlt x y,h,s,e=>by cases GY.mp e;exact GU h
theorem n6 (c:List Nat):∀l:List LF,(¬∀s∈gn l,s.1.ev c≤s.2.ev c)->vz c l
 |[],h=>h λs e=>nomatch e
 |f::l,h=>λhf=>n6 c l λhl=>h λs e=>(G8.mp e).elim (f.ok c hf s) (hl s)
def Bc (l:List LF) (ms:List Nat):Bool:=Nat.blt (lf (gn l) ms).2.po.1 (lf (gn l) ms).1.po.1&&lLe (lf (gn l) ms).2.po.2 (lf (gn l) ms).1.po.2
theorem la (c:List Nat) (l:List LF) (ms:List Nat) (h:Bc l ms=true):vz c l:=n6 c l λhs=>by
 obtain ⟨h1,h2⟩:=(Hs _ _).mp h
 have:=n5 c _ ms hs
 rw [LT.ev_po,LT.ev_po] at this
 exact absurd this (Nat.not_le_of_lt (Nat.add_lt_add_of_lt_of_le (Il h1) (mI c _ _ h2)))
theorem w0 {a b:Nat} (h0:a<b+1) (h1:¬a=b):a<b:=Nat.lt_of_le_of_ne (Jh h0) h1
theorem w1 {a b c:Nat} (h0:a<b) (h1:c<a):c<b:=GZ (la [a,b,c] [.lt (.v 0) (.v 1),.lt (.v 2) (.v 0),.le (.v 1) (.v 2)] [1,1,1] rfl h0 h1)
theorem w2 {a:Nat}:a≤a+1:=GU (la [a] [.lt (.a (.v 0) (.k 1)) (.v 0)] [1] rfl)
theorem w3 {a b:Nat} (h0:a≤b):a≤b+1:=GU (la [a,b] [.le (.v 0) (.v 1),.lt (.a (.v 1) (.k 1)) (.v 0)] [1,1] rfl h0)
theorem w4 {a:Nat} (h0:a≤7):a≤100000:=GU (la [a] [.le (.v 0) (.k 7),.lt (.k 100000) (.v 0)] [1,1] rfl h0)
theorem w5 {a:Nat}:0≤(↑a:Int):=Iq a
theorem w6 {a:Nat} (h0:a<a):False:=la [a] [.lt (.v 0) (.v 0)] [1] rfl h0
theorem w7 {a:Nat} (h0:a≤1000):a≤100000:=GU (la [a] [.le (.v 0) (.k 1000),.lt (.k 100000) (.v 0)] [1,1] rfl h0)
theorem w8 {a b:Nat} (h0:a<b):a≠b:=la [a,b] [.lt (.v 0) (.v 1),.eq (.v 0) (.v 1)] [1,0,1] rfl h0
theorem w9 {a b:Nat} (h0:a<b) (h1:b≤a):False:=la [a,b] [.lt (.v 0) (.v 1),.le (.v 1) (.v 0)] [1,1] rfl h0 h1
theorem w10 {a:Nat}:a<a+1:=GZ (la [a] [.le (.a (.v 0) (.k 1)) (.v 0)] [1] rfl)
theorem w11 {a b c:Nat} (h0:a=b) (h1:c<a):c≠b:=la [a,b,c] [.eq (.v 0) (.v 1),.lt (.v 2) (.v 0),.eq (.v 2) (.v 1)] [1,0,1,0,1] rfl h0 h1
theorem w12 {a b c:Nat} (h0:a≤b+1) (h1:c<a):c≤b:=GU (la [a,b,c] [.le (.v 0) (.a (.v 1) (.k 1)),.lt (.v 2) (.v 0),.lt (.v 1) (.v 2)] [1,1,1] rfl h0 h1)
theorem w13 {a b:Nat} (h0:a≤7) (h1:b<a):b<100000:=GZ (la [a,b] [.le (.v 0) (.k 7),.lt (.v 1) (.v 0),.le (.k 100000) (.v 1)] [1,1,1] rfl h0 h1)
theorem w14 {a b:Nat} (h0:a≤b) (h1:b<a):False:=la [a,b] [.le (.v 0) (.v 1),.lt (.v 1) (.v 0)] [1,1] rfl h0 h1
theorem w15 {a:Nat}:a≠a+1:=la [a] [.eq (.v 0) (.a (.v 0) (.k 1))] [0,1] rfl
theorem w16 {a:Nat} (h0:a≤0):a=0:=HZ (GU (la [a] [.le (.v 0) (.k 0),.lt (.k 0) (.v 0)] [1,1] rfl h0)) (GU (la [a] [.le (.v 0) (.k 0),.lt (.v 0) (.k 0)] [0,1] rfl h0))
theorem w17 {a b c:Nat} (h0:a<b) (h1:c≤a):c<b:=GZ (la [a,b,c] [.lt (.v 0) (.v 1),.le (.v 2) (.v 0),.le (.v 1) (.v 2)] [1,1,1] rfl h0 h1)
theorem w18 {a b c:Nat} (h0:a=b) (h1:c<a):c≠b+1:=la [a,b,c] [.eq (.v 0) (.v 1),.lt (.v 2) (.v 0),.eq (.v 2) (.a (.v 1) (.k 1))] [1,0,1,0,1] rfl h0 h1
theorem w19 {a b:Nat} (h0:a<b):a+1≤b:=GU (la [a,b] [.lt (.v 0) (.v 1),.lt (.v 1) (.a (.v 0) (.k 1))] [1,1] rfl h0)
theorem w20 {a b:Nat} (h0:a<b):a<b+1:=GZ (la [a,b] [.lt (.v 0) (.v 1),.le (.a (.v 1) (.k 1)) (.v 0)] [1,1] rfl h0)
theorem w21 {a b:Nat} (h0:a≤3) (h1:b=a):b≤3:=GU (la [a,b] [.le (.v 0) (.k 3),.eq (.v 1) (.v 0),.lt (.k 3) (.v 1)] [1,1,0,1] rfl h0 h1)
theorem w22 {a b:Nat} (h0:a≤b):a+1≤b+1:=GU (la [a,b] [.le (.v 0) (.v 1),.lt (.a (.v 1) (.k 1)) (.a (.v 0) (.k 1))] [1,1] rfl h0)
theorem w23 {a b:Nat} (h0:¬a<b) (h1:a-b=0):a=b:=HZ (IJ h1) (GU h0)
theorem w24 {a b:Nat} (h0:¬a<b):b≤a:=GU (la [a,b] [.nlt (.v 0) (.v 1),.lt (.v 0) (.v 1)] [1,1] rfl h0)
theorem w25 {a:Nat} {b:Int} {c:Nat} (h0:(↑a:Int)<b) (h1:c≤a):(↑c:Int)<b:=Hu (Im.mpr h1) h0
theorem w26 {a:Int} (h0:0≤a∧a<7):a.toNat<7:=H0.mp (Hu (IX (Ho h0.1)) h0.2)
theorem w27 {a b c:Nat} (h0:a-b=c+1):a-(b+1)=c:=(congrArg Nat.pred h0:_)
theorem w28 {a b c:Nat} (h0:a-b=c+1):b<a:=Nat.lt_of_sub_eq_succ h0
theorem w29 {a b c:Nat} (h0:a<b) (h1:b≤c):¬c=a:=la [a,b,c] [.lt (.v 0) (.v 1),.le (.v 1) (.v 2),.eq (.v 2) (.v 0)] [1,1,1,0] rfl h0 h1
theorem w30 {a b c:Nat} (h0:a=b) (h1:c<a):c≠b+2:=la [a,b,c] [.eq (.v 0) (.v 1),.lt (.v 2) (.v 0),.eq (.v 2) (.a (.v 1) (.k 2))] [1,0,1,0,1] rfl h0 h1
theorem w31 {a b c:Nat} (h0:a=b) (h1:c<b):c<a:=GZ (la [a,b,c] [.eq (.v 0) (.v 1),.lt (.v 2) (.v 1),.le (.v 0) (.v 2)] [0,1,1,1] rfl h0 h1)
theorem w32 {a b:Nat} (h0:a<b):a≤b:=GU (la [a,b] [.lt (.v 0) (.v 1),.lt (.v 1) (.v 0)] [1,1] rfl h0)
theorem w33 {a b:Nat} (h0:a<b):b-(a+1)<b-a:=Nat.sub_succ_lt_self b a h0
theorem w34 {a b:Nat} (h0:a=b):a≤b:=GU (la [a,b] [.eq (.v 0) (.v 1),.lt (.v 1) (.v 0)] [1,0,1] rfl h0)
theorem w35 {a b:Nat} (h0:a≤100000) (h1:b<a):(↑b:Int)<1000000:=H0.mpr (G5 h1 (G2 h0 !3))
theorem w36 {a:Nat}: -1000000<(↑a:Int):=IZ (!3) (Iq a)
theorem w37 {a:Nat}:a≤a+10:=GU (la [a] [.lt (.a (.v 0) (.k 10)) (.v 0)] [1] rfl)
theorem w38 {a:Int} (h0:¬0≤a):a<0:=Int.lt_of_not_ge h0
theorem w39 {a b c d e:Nat} (h0:a=b+2) (h1:c<b) (h2:a≤d) (h3:d≤e):c≤e:=GU (la [a,b,c,d,e] [.eq (.v 0) (.a (.v 1) (.k 2)),.lt (.v 2) (.v 1),.le (.v 0) (.v 3),.le (.v 3) (.v 4),.lt (.v 4) (.v 2)] [0,1,1,1,1,1] rfl h0 h1 h2 h3)
theorem w40 {a b c d:Nat} (h0:a≤b) (h1:c≤d):a+c≤d+b:=GU (la [a,b,c,d] [.le (.v 0) (.v 1),.le (.v 2) (.v 3),.lt (.a (.v 3) (.v 1)) (.a (.v 0) (.v 2))] [1,1,1] rfl h0 h1)
theorem w41 {a b c:Nat} (h0:a<b+1) (h1:c<a):c<b+1:=GZ (la [a,b,c] [.lt (.v 0) (.a (.v 1) (.k 1)),.lt (.v 2) (.v 0),.le (.a (.v 1) (.k 1)) (.v 2)] [1,1,1] rfl h0 h1)
theorem w42 {a b c:Nat} (h0:a=b+(c+1)):b<a:=GZ (la [a,b,c] [.eq (.v 0) (.a (.v 1) (.a (.v 2) (.k 1))),.le (.v 0) (.v 1)] [0,1,1] rfl h0)
theorem w43 {a b c:Nat} (h0:a=b+5) (h1:a≤c):b≤c:=GU (la [a,b,c] [.eq (.v 0) (.a (.v 1) (.k 5)),.le (.v 0) (.v 2),.lt (.v 2) (.v 1)] [0,1,1,1] rfl h0 h1)
theorem w44 {a b c:Nat} (h0:a≤3) (h1:a=b+(c+1)):b≤2:=GU (la [a,b,c] [.le (.v 0) (.k 3),.eq (.v 0) (.a (.v 1) (.a (.v 2) (.k 1))),.lt (.k 2) (.v 1)] [1,0,1,1] rfl h0 h1)
theorem w45 {a b c:Nat} (h0:a≤b):a≤b+c:=GU (la [a,b,c] [.le (.v 0) (.v 1),.lt (.a (.v 1) (.v 2)) (.v 0)] [1,1] rfl h0)
theorem w46 {a b c:Nat} (h0:a≤b) (h1:b=c) (h2:c≤7):a≤100000:=GU (la [a,b,c] [.le (.v 0) (.v 1),.eq (.v 1) (.v 2),.le (.v 2) (.k 7),.lt (.k 100000) (.v 0)] [1,1,0,1,1] rfl h0 h1 h2)
theorem w47 {a b c:Nat} (h0:a≤b) (h1:b≤3*c) (h2:0<c):a+1≤c*4:=GU (la [a,b,c] [.le (.v 0) (.v 1),.le (.v 1) (.m 3 (.v 2)),.lt (.k 0) (.v 2),.lt (.r (.v 2) 4) (.a (.v 0) (.k 1))] [1,1,1,1] rfl h0 h1 h2)
theorem w48 {a b c:Nat} (h0:a≤b) (h1:c+1<a):b≠c:=la [a,b,c] [.le (.v 0) (.v 1),.lt (.a (.v 2) (.k 1)) (.v 0),.eq (.v 1) (.v 2)] [1,1,1,0] rfl h0 h1
theorem w49 {a b c:Nat} (h0:a≤b) (h1:c+1<a):b≠c+1:=la [a,b,c] [.le (.v 0) (.v 1),.lt (.a (.v 2) (.k 1)) (.v 0),.eq (.v 1) (.a (.v 2) (.k 1))] [1,1,1,0] rfl h0 h1
theorem w50 {a b c:Nat} (h0:a≤b) (h1:c+60*b+10*10<9900):c+60*a+10*10<9900:=HX (Nat.add_le_add_right (Js (Jr 60 h0) c) _) h1
theorem w51 {a b c:Nat} (h0:a≤b) (h1:c+8*b+10<1000):c+8*a+10<1000:=HX (Nat.add_le_add_right (Js (Jr 8 h0) c) _) h1
theorem w52 {a b c:Nat} (h0:a≤b) (h1:c<a):b≠c:=la [a,b,c] [.le (.v 0) (.v 1),.lt (.v 2) (.v 0),.eq (.v 1) (.v 2)] [1,1,1,0] rfl h0 h1
theorem w53 {a b c:Nat} (h0:a≤b) (h1:c<a):c≤b:=GU (la [a,b,c] [.le (.v 0) (.v 1),.lt (.v 2) (.v 0),.lt (.v 1) (.v 2)] [1,1,1] rfl h0 h1)
theorem w54 {a b:Nat} {c:Int} (h0:a≤7) (h1:b<a) (h2:0≤c∧c<(↑b:Int)):0≤c∧c<7:=⟨h2.1,IZ h2.2 (Im.mpr (G2 (Hk h1) h0))⟩
theorem w55 {a b:Nat} (h0:(↑a:Int)=(↑b:Int)):b=a:=Jp.mp (id (Eq.symm h0))
theorem w56 {a b:Nat} (h0:0≤(↑a:Int)∧(↑a:Int)<(↑b:Int)):a<b:=H0.mp h0.2
theorem w57 {a b:Nat} (h0:a+60*b+10*20<9900):a+64<9900:=GZ (la [a,b] [.lt (.a (.a (.v 0) (.m 60 (.v 1))) (.m 10 (.k 20))) (.k 9900),.le (.k 9900) (.a (.v 0) (.k 64))] [1,1] rfl h0)
theorem w58 {a b:Nat} (h0:a-b=0):a≤b:=IJ h0
theorem w59 {a b:Nat} (h0:a-b=0) (h1:b≤a):b=a:=HZ h1 (IJ h0)
theorem w60 {a b:Nat} (h0:a<b):a+1+(b-(a+1))=b:=IP h0
theorem w61 {a b:Nat} (h0:a<b) (h1:a=b):False:=la [a,b] [.lt (.v 0) (.v 1),.eq (.v 0) (.v 1)] [1,0,1] rfl h0 h1
theorem w62 {a b:Nat} (h0:a<b) (h1:b≤7):a+(7-a)=7:=IP (G2 (Hk h0) h1)
theorem w63 {a b:Nat} (h0:a<b) (h1:b≤7):a+1+(6-a)=7:=(JJ a 1 (6-a)).trans ((congrArg (a+·) (Nat.add_comm 1 (6-a))).trans ((JJ _ _ _).symm.trans (congrArg (·+1) (IP (Jh (G5 h0 h1))))))
theorem w64 {a b:Nat} (h0:a<b):¬a=b+1:=la [a,b] [.lt (.v 0) (.v 1),.eq (.v 0) (.a (.v 1) (.k 1))] [1,0,1] rfl h0
theorem w65 {a b:Nat} (h0:a<b):¬b+1=a:=la [a,b] [.lt (.v 0) (.v 1),.eq (.a (.v 1) (.k 1)) (.v 0)] [1,1,0] rfl h0
theorem w66 {a b:Nat} (h0:a<b):¬b=a:=la [a,b] [.lt (.v 0) (.v 1),.eq (.v 1) (.v 0)] [1,1,0] rfl h0
theorem w67 {a b:Nat} (h0:a=b):b≤a:=GU (la [a,b] [.eq (.v 0) (.v 1),.lt (.v 0) (.v 1)] [0,1,1] rfl h0)
theorem w68 {a b:Nat} (h0:a≤10) (h1:b=a):b≤10:=GU (la [a,b] [.le (.v 0) (.k 10),.eq (.v 1) (.v 0),.lt (.k 10) (.v 1)] [1,1,0,1] rfl h0 h1)
theorem w69 {a b:Nat} (h0:a≤b):(↑a:Int)≤(↑b:Int):=Im.mpr h0
theorem w70 {a b:Nat} (h0:a≤b):a<b+1:=GZ (la [a,b] [.le (.v 0) (.v 1),.le (.a (.v 1) (.k 1)) (.v 0)] [1,1] rfl h0)
theorem w71 {a b:Nat} (h0:a≤b):a≤b:=GU (la [a,b] [.le (.v 0) (.v 1),.lt (.v 1) (.v 0)] [1,1] rfl h0)
theorem w72 {a b:Nat} (h0:a≤b):max 0 (min (↑a:Int) (↑b:Int))=(↑a:Int):=(Int.max_eq_right (Int.le_min.mpr ⟨Iq a,Iq b⟩)).trans (Int.min_eq_left (Im.mpr h0))
theorem w73 {a:Nat}:(↑a:Int)+1=(↑(a+1):Int):=Int.ofNat_add_one_out a
theorem w74 {a:Nat} (h0:0<a):(↑a:Int)≠0:=Int.natCast_ne_zero_iff_pos.mpr h0
theorem w75 {a:Nat}:0≤(↑a:Int)∧(↑a:Int)≤(↑a:Int):=⟨Iq a,Int.le_refl _⟩
theorem w76 {a:Nat}:a+1≠a:=la [a] [.eq (.a (.v 0) (.k 1)) (.v 0)] [1,0] rfl
theorem w77 {a:Nat} (h0:a<20):a<30:=GZ (la [a] [.lt (.v 0) (.k 20),.le (.k 30) (.v 0)] [1,1] rfl h0)
theorem w78 {a:Nat} (h0:a≤1000):a≤16777216+1:=GU (la [a] [.le (.v 0) (.k 1000),.lt (.a (.k 16777216) (.k 1)) (.v 0)] [1,1] rfl h0)
theorem w79 {a:Nat} (h0:a≤3):a≤1000:=GU (la [a] [.le (.v 0) (.k 3),.lt (.k 1000) (.v 0)] [1,1] rfl h0)
theorem w80 {a:Nat} (h0:a≤40):a≤100:=GU (la [a] [.le (.v 0) (.k 40),.lt (.k 100) (.v 0)] [1,1] rfl h0)
theorem w81 {a:Nat} (h0:a≤4):a≤100:=GU (la [a] [.le (.v 0) (.k 4),.lt (.k 100) (.v 0)] [1,1] rfl h0)
theorem w82 {a:Nat} (h0:a≤50000):a≤100000:=GU (la [a] [.le (.v 0) (.k 50000),.lt (.k 100000) (.v 0)] [1,1] rfl h0)
theorem w83 {a:Nat} (h0:a≤7):a≤16777216:=GU (la [a] [.le (.v 0) (.k 7),.lt (.k 16777216) (.v 0)] [1,1] rfl h0)
theorem w84 {a:Nat} (h0:a≤999):a<100000:=GZ (la [a] [.le (.v 0) (.k 999),.le (.k 100000) (.v 0)] [1,1] rfl h0)
theorem w85 {a:Nat}:a≤a+100:=GU (la [a] [.lt (.a (.v 0) (.k 100)) (.v 0)] [1] rfl)
theorem w86 {a:Int} {b:Nat} {c:Int} (h0:0≤a∧a<(↑b:Int)) (h1:0≤c∧c≤(↑a.toNat:Int)):0≤c∧c<(↑b:Int):=⟨h1.1,Hu h1.2 (Hu (IX (Ho h0.1)) h0.2)⟩
theorem w87 {a b:Int} (h0:0≤a∧a<7) (h1:b.toNat=a.toNat) (h2:0≤b∧b<7):a=b:=(Ho h0.1).symm.trans ((congrArg Nat.cast h1.symm).trans (Ho h2.1))
theorem w88 {a b:Int} (h0:a≠b) (h1:0≤a∧a<7) (h2:0≤b∧b<7):¬a.toNat=b.toNat:=λh=>h0 ((Ho h1.1).symm.trans ((congrArg Nat.cast h).trans (Ho h2.1)))
theorem w89 {a:Int} (h0:0≤a∧a<7):(↑a.toNat:Int)=a:=Ho h0.1
theorem w90 {a:Int} (h0:0≤a∧a<7):a.toNat<0+7:=H0.mp (Hu (IX (Ho h0.1)) h0.2)
theorem w91 {a:Int} (h0:0≤a):a=(↑a.toNat:Int):=Int.eq_natCast_toNat.mpr h0
theorem w92 {a:Int} (h0:0≤a) (h1:a≤100000): -9223372036854775808≤a∧a<9223372036854775808:=⟨Jy (!3) h0,Hu h1 !3⟩
theorem w93 {a b c d e f:Nat} (h0:a+b≤c) (h1:d=a) (h2:e=b) (h3:c≤f):d+e≤f:=GU (la [a,b,c,d,e,f] [.le (.a (.v 0) (.v 1)) (.v 2),.eq (.v 3) (.v 0),.eq (.v 4) (.v 1),.le (.v 2) (.v 5),.lt (.v 5) (.a (.v 3) (.v 4))] [1,1,0,1,0,1,1] rfl h0 h1 h2 h3)
theorem w94 {a b c d e:Nat} (h0:a+b≤c) (h1:d=a) (h2:c≤e):d≤e:=GU (la [a,b,c,d,e] [.le (.a (.v 0) (.v 1)) (.v 2),.eq (.v 3) (.v 0),.le (.v 2) (.v 4),.lt (.v 4) (.v 3)] [1,1,0,1,1] rfl h0 h1 h2)
theorem w95 {a b c d e:Nat} (h0:a=b) (h1:c=d+b) (h2:e+a=c):e=d:=HZ (GU (la [a,b,c,d,e] [.eq (.v 0) (.v 1),.eq (.v 2) (.a (.v 3) (.v 1)),.eq (.a (.v 4) (.v 0)) (.v 2),.lt (.v 3) (.v 4)] [0,1,1,0,1,0,1] rfl h0 h1 h2)) (GU (la [a,b,c,d,e] [.eq (.v 0) (.v 1),.eq (.v 2) (.a (.v 3) (.v 1)),.eq (.a (.v 4) (.v 0)) (.v 2),.lt (.v 4) (.v 3)] [1,0,0,1,0,1,1] rfl h0 h1 h2))
theorem w96 {a b c d e:Nat} (h0:a≤b+2) (h1:c≤a+1) (h2:d≤c+1) (h3:e≤d+1):e≤b+5:=GU (la [a,b,c,d,e] [.le (.v 0) (.a (.v 1) (.k 2)),.le (.v 2) (.a (.v 0) (.k 1)),.le (.v 3) (.a (.v 2) (.k 1)),.le (.v 4) (.a (.v 3) (.k 1)),.lt (.a (.v 1) (.k 5)) (.v 4)] [1,1,1,1,1] rfl h0 h1 h2 h3)
theorem w97 {a b c d e:Nat} (h0:a≤b) (h1:b=c) (h2:c<a):d=e:=HZ (GU (la [a,b,c,d,e] [.le (.v 0) (.v 1),.eq (.v 1) (.v 2),.lt (.v 2) (.v 0),.lt (.v 4) (.v 3)] [1,1,0,1,0] rfl h0 h1 h2)) (GU (la [a,b,c,d,e] [.le (.v 0) (.v 1),.eq (.v 1) (.v 2),.lt (.v 2) (.v 0),.lt (.v 3) (.v 4)] [1,1,0,1,0] rfl h0 h1 h2))
theorem w98 {a b c d e:Nat} (h0:a≤b) (h1:b≤c) (h2:d=c) (h3:d≤e):a≤e:=GU (la [a,b,c,d,e] [.le (.v 0) (.v 1),.le (.v 1) (.v 2),.eq (.v 3) (.v 2),.le (.v 3) (.v 4),.lt (.v 4) (.v 0)] [1,1,0,1,1,1] rfl h0 h1 h2 h3)
theorem w99 {a b c d e:Nat} (h0:a≤b) (h1:c=b) (h2:c<a):d=e:=HZ (GU (la [a,b,c,d,e] [.le (.v 0) (.v 1),.eq (.v 2) (.v 1),.lt (.v 2) (.v 0),.lt (.v 4) (.v 3)] [1,0,1,1,0] rfl h0 h1 h2)) (GU (la [a,b,c,d,e] [.le (.v 0) (.v 1),.eq (.v 2) (.v 1),.lt (.v 2) (.v 0),.lt (.v 3) (.v 4)] [1,0,1,1,0] rfl h0 h1 h2))
theorem Bd {a b c d:Nat} (h0:a+60*b+10*20<9900) (h1:c=0):a+1+min d c<9900:=HX (Js (G2 (JK d c) (HN h1)) (a+1)) (GZ (la [a,b] [.lt (.a (.a (.v 0) (.m 60 (.v 1))) (.k 200)) (.k 9900),.le (.k 9900) (.a (.a (.v 0) (.k 1)) (.k 0))] [1,1] rfl h0))
theorem Be {a b c d:Nat} (h0:a+b≤c):min d a-0+b+(min a a-d)≤c+1:=(Nat.le_total d a).elim (λh=>by rw [Nat.min_eq_left h,Nat.min_self,Nat.sub_zero,I0,IP h];exact JD h0) (λh=>by rw [Nat.min_eq_right h,Nat.min_self,Nat.sub_zero,Jm h];exact JD h0)
theorem Bg {a b c d:Nat} (h0:a<b) (h1:b<c) (h2:c≤d):a≤d:=GU (la [a,b,c,d] [.lt (.v 0) (.v 1),.lt (.v 1) (.v 2),.le (.v 2) (.v 3),.lt (.v 3) (.v 0)] [1,1,1,1] rfl h0 h1 h2)
theorem Bh {a b c d:Nat} (h0:a=b+2) (h1:c<b) (h2:a≤d):c≤d:=GU (la [a,b,c,d] [.eq (.v 0) (.a (.v 1) (.k 2)),.lt (.v 2) (.v 1),.le (.v 0) (.v 3),.lt (.v 3) (.v 2)] [0,1,1,1,1] rfl h0 h1 h2)
theorem GF {a b c d:Nat} (h0:a=b) (h1:a=c+(d+1)):c<b:=GZ (la [a,b,c,d] [.eq (.v 0) (.v 1),.eq (.v 0) (.a (.v 2) (.a (.v 3) (.k 1))),.le (.v 1) (.v 2)] [1,0,0,1,1] rfl h0 h1)
theorem Bi {a b c d:Nat} (h0:a=b) (h1:a≤c) (h2:c≤d):b≤d:=GU (la [a,b,c,d] [.eq (.v 0) (.v 1),.le (.v 0) (.v 2),.le (.v 2) (.v 3),.lt (.v 3) (.v 1)] [0,1,1,1,1] rfl h0 h1 h2)
theorem Bj {a b c d:Nat} (h0:a=b) (h1:c=b) (h2:d-a=0) (h3:a≤d):d=c:=(HZ h3 (IJ h2)).symm.trans (h0.trans h1.symm)|>.symm▸rfl
theorem Bk {a b c d:Nat} (h0:a≤16384) (h1:b+c=a) (h2:d≤c):b+d≤16384:=GU (la [a,b,c,d] [.le (.v 0) (.k 16384),.eq (.a (.v 1) (.v 2)) (.v 0),.le (.v 3) (.v 2),.lt (.k 16384) (.a (.v 1) (.v 3))] [1,1,0,1,1] rfl h0 h1 h2)
theorem Bl {a b c d:Nat} (h0:a≤20) (h1:b≤a+2) (h2:c≤b+1) (h3:d≤c+1):d≤90:=GU (la [a,b,c,d] [.le (.v 0) (.k 20),.le (.v 1) (.a (.v 0) (.k 2)),.le (.v 2) (.a (.v 1) (.k 1)),.le (.v 3) (.a (.v 2) (.k 1)),.lt (.k 90) (.v 3)] [1,1,1,1,1] rfl h0 h1 h2 h3)
theorem Bm {a b c d:Nat} (h0:a≤50000) (h1:b≤c) (h2:a=c+(d+1)):b<50000:=GZ (la [a,b,c,d] [.le (.v 0) (.k 50000),.le (.v 1) (.v 2),.eq (.v 0) (.a (.v 2) (.a (.v 3) (.k 1))),.le (.k 50000) (.v 1)] [1,1,0,1,1] rfl h0 h1 h2)
theorem Bn {a b c d:Nat} (h0:a≤50000) (h1:b≤c) (h2:a=c+(d+1)):b≤50000:=GU (la [a,b,c,d] [.le (.v 0) (.k 50000),.le (.v 1) (.v 2),.eq (.v 0) (.a (.v 2) (.a (.v 3) (.k 1))),.lt (.k 50000) (.v 1)] [1,1,0,1,1] rfl h0 h1 h2)
theorem Bo {a b c d:Nat} (h0:a≤7) (h1:b=c) (h2:d=c) (h3:d<a):b≤6:=GU (la [a,b,c,d] [.le (.v 0) (.k 7),.eq (.v 1) (.v 2),.eq (.v 3) (.v 2),.lt (.v 3) (.v 0),.lt (.k 6) (.v 1)] [1,1,0,0,1,1,1] rfl h0 h1 h2 h3)
theorem Bp {a b c d:Nat} (h0:a≤b∧b<a+(c+1)) (h1:b<d) (h2:a≤d∧d<a+(c+1)):a+1≤d∧d<a+1+c:=⟨HX h0.1 h1,I7 h2.2 (I0 a c 1)⟩
theorem Bq {a b c d:Nat} (h0:a≤b) (h1:b+(c+1)≤d):a≤d:=GU (la [a,b,c,d] [.le (.v 0) (.v 1),.le (.a (.v 1) (.a (.v 2) (.k 1))) (.v 3),.lt (.v 3) (.v 0)] [1,1,1] rfl h0 h1)
theorem Br {a b c d:Nat} (h0:a≤b) (h1:c<d):a+c<b+d:=GZ (la [a,b,c,d] [.le (.v 0) (.v 1),.lt (.v 2) (.v 3),.le (.a (.v 1) (.v 3)) (.a (.v 0) (.v 2))] [1,1,1] rfl h0 h1)
theorem Bs {a b c d:Nat} (h0:a≤b) (h1:c<d):c+a<d+b:=GZ (la [a,b,c,d] [.le (.v 0) (.v 1),.lt (.v 2) (.v 3),.le (.a (.v 3) (.v 1)) (.a (.v 2) (.v 0))] [1,1,1] rfl h0 h1)
theorem Bt {a b c d:Nat} (h0:a≤b) (h1:c≤d):c+a≤b+d:=GU (la [a,b,c,d] [.le (.v 0) (.v 1),.le (.v 2) (.v 3),.lt (.a (.v 1) (.v 3)) (.a (.v 2) (.v 0))] [1,1,1] rfl h0 h1)
theorem Bu {a b c d:Nat} (h0:a≤b) (h1:c≤d):c+a≤d+b:=GU (la [a,b,c,d] [.le (.v 0) (.v 1),.le (.v 2) (.v 3),.lt (.a (.v 3) (.v 1)) (.a (.v 2) (.v 0))] [1,1,1] rfl h0 h1)
theorem Bv {a b c:Nat} (h0:(a+b)*5<(c-1)*3):a*5<(c-1)*3:=HX (Iz 5 (Nat.le_add_right a b)) h0
theorem GG {a b c:Nat} (h0:(↑a:Int)+1+(↑b:Int)<(↑c:Int)):a+1+b<c:=H0.mp h0
theorem GH {a b c:Nat} (h0:(↑a:Int)≤(↑b:Int)+1+(↑c:Int)):¬b+1+c<a:=Hr.mpr (Im.mp (Jy h0 (IX rfl)))
theorem Bw {a b c:Nat} (h0:10≤a) (h1:b+8*c+a<1000):b+1<1000:=GZ (la [a,b,c] [.le (.k 10) (.v 0),.lt (.a (.a (.v 1) (.m 8 (.v 2))) (.v 0)) (.k 1000),.le (.k 1000) (.a (.v 1) (.k 1))] [1,1,1] rfl h0 h1)
theorem Bx {a b c:Nat} (h0:15≤a) (h1:b+60*c+10*a<9900):b+1+60*c+10*10<9900:=GZ (la [a,b,c] [.le (.k 15) (.v 0),.lt (.a (.a (.v 1) (.m 60 (.v 2))) (.m 10 (.v 0))) (.k 9900),.le (.k 9900) (.a (.a (.a (.v 1) (.k 1)) (.m 60 (.v 2))) (.m 10 (.k 10)))] [10,1,1] rfl h0 h1)
theorem By {a b c:Nat} (h0:15≤a) (h1:b+8*c+a<1000):b+1+8*c+10<1000:=GZ (la [a,b,c] [.le (.k 15) (.v 0),.lt (.a (.a (.v 1) (.m 8 (.v 2))) (.v 0)) (.k 1000),.le (.k 1000) (.a (.a (.a (.v 1) (.k 1)) (.m 8 (.v 2))) (.k 10))] [1,1,1] rfl h0 h1)
theorem Bz {a b c:Nat} (h0:a+60*b+10*20<9900) (h1:c≤a+8):c+100<9900:=GZ (la [a,b,c] [.lt (.a (.a (.v 0) (.m 60 (.v 1))) (.m 10 (.k 20))) (.k 9900),.le (.v 2) (.a (.v 0) (.k 8)),.le (.k 9900) (.a (.v 2) (.k 100))] [1,1,1] rfl h0 h1)
theorem BA {a b c:Nat} (h0:a+8*b+20<1000) (h1:c≤a+1):c+8<1000:=GZ (la [a,b,c] [.lt (.a (.a (.v 0) (.m 8 (.v 1))) (.k 20)) (.k 1000),.le (.v 2) (.a (.v 0) (.k 1)),.le (.k 1000) (.a (.v 2) (.k 8))] [1,1,1] rfl h0 h1)
theorem BB {a b c:Nat} (h0:a+b≤10000) (h1:c<b):a+1+c≤10000:=GU (la [a,b,c] [.le (.a (.v 0) (.v 1)) (.k 10000),.lt (.v 2) (.v 1),.lt (.k 10000) (.a (.a (.v 0) (.k 1)) (.v 2))] [1,1,1] rfl h0 h1)
theorem BC {a b c:Nat} (h0:a+b≤7) (h1:c<b):a+1+c≤7:=GU (la [a,b,c] [.le (.a (.v 0) (.v 1)) (.k 7),.lt (.v 2) (.v 1),.lt (.k 7) (.a (.a (.v 0) (.k 1)) (.v 2))] [1,1,1] rfl h0 h1)
theorem BD {a b c:Nat} (h0:a+b≤7) (h1:c<b):c≤100000:=GU (la [a,b,c] [.le (.a (.v 0) (.v 1)) (.k 7),.lt (.v 2) (.v 1),.lt (.k 100000) (.v 2)] [1,1,1] rfl h0 h1)
theorem BE {a b c:Nat} (h0:a+b≤7) (h1:c<b):c≤7:=GU (la [a,b,c] [.le (.a (.v 0) (.v 1)) (.k 7),.lt (.v 2) (.v 1),.lt (.k 7) (.v 2)] [1,1,1] rfl h0 h1)
theorem BF {a b c:Nat} (h0:a+b≤c):a≤c:=GU (la [a,b,c] [.le (.a (.v 0) (.v 1)) (.v 2),.lt (.v 2) (.v 0)] [1,1] rfl h0)
theorem BG {a b c:Nat} (h0:a<b+1) (h1:0≤(↑c:Int)∧(↑c:Int)<(↑a:Int)):c<b:=H0.mp (IZ h1.2 (Im.mpr (Jh h0)))
theorem BH {a b c:Nat} (h0:a<b+1) (h1:c<a):c<b:=GZ (la [a,b,c] [.lt (.v 0) (.a (.v 1) (.k 1)),.lt (.v 2) (.v 0),.le (.v 1) (.v 2)] [1,1,1] rfl h0 h1)
theorem BJ {a b c:Nat} (h0:a<b):7-c+a<7-c+b:=Nat.add_lt_add_left h0 (7-c)
theorem BK {a b c:Nat} (h0:a<b) (h1:a=c) (h2:b≤c):False:=la [a,b,c] [.lt (.v 0) (.v 1),.eq (.v 0) (.v 2),.le (.v 1) (.v 2)] [1,0,1,1] rfl h0 h1 h2
theorem BL {a b c:Nat} (h0:a<b) (h1:a≤b∧b<a+(c+1)):a+1≤b∧b<a+1+c:=⟨h0,I7 h1.2 (I0 a c 1)⟩
theorem BM {a b c:Nat} (h0:a<b) (h1:b<c):a<c:=GZ (la [a,b,c] [.lt (.v 0) (.v 1),.lt (.v 1) (.v 2),.le (.v 2) (.v 0)] [1,1,1] rfl h0 h1)
theorem BN {a b c:Nat} (h0:a<b) (h1:b≤7):7-b+c<7-a+c:=I7 (Nat.add_lt_add_right (Nat.sub_lt_sub_left (G5 h0 h1) h0) c) rfl
theorem BO {a b c:Nat} (h0:a<b) (h1:b≤7) (h2:c<a):c<6:=GZ (la [a,b,c] [.lt (.v 0) (.v 1),.le (.v 1) (.k 7),.lt (.v 2) (.v 0),.le (.k 6) (.v 2)] [1,1,1,1] rfl h0 h1 h2)
theorem BP {a b c:Nat} (h0:a<b) (h1:b≤7) (h2:c≤a+1):c≤1000:=GU (la [a,b,c] [.lt (.v 0) (.v 1),.le (.v 1) (.k 7),.le (.v 2) (.a (.v 0) (.k 1)),.lt (.k 1000) (.v 2)] [1,1,1,1] rfl h0 h1 h2)
theorem BQ {a b c:Nat} (h0:a<b) (h1:c<a+1):c<b:=GZ (la [a,b,c] [.lt (.v 0) (.v 1),.lt (.v 2) (.a (.v 0) (.k 1)),.le (.v 1) (.v 2)] [1,1,1] rfl h0 h1)
theorem BR {a b c:Nat} (h0:a<b) (h1:c=a):c<b:=GZ (la [a,b,c] [.lt (.v 0) (.v 1),.eq (.v 2) (.v 0),.le (.v 1) (.v 2)] [1,1,0,1] rfl h0 h1)
theorem BS {a b c:Nat} (h0:a<b) (h1:c=b):a<c:=GZ (la [a,b,c] [.lt (.v 0) (.v 1),.eq (.v 2) (.v 1),.le (.v 2) (.v 0)] [1,0,1,1] rfl h0 h1)
theorem BT {a b c:Nat} (h0:a<b) (h1:c≤a+1) (h2:b≤7):c≤1000:=GU (la [a,b,c] [.lt (.v 0) (.v 1),.le (.v 2) (.a (.v 0) (.k 1)),.le (.v 1) (.k 7),.lt (.k 1000) (.v 2)] [1,1,1,1] rfl h0 h1 h2)
theorem BU {a b c:Nat} (h0:a<b) (h1:c≤a) (h2:b<c):False:=la [a,b,c] [.lt (.v 0) (.v 1),.le (.v 2) (.v 0),.lt (.v 1) (.v 2)] [1,1,1] rfl h0 h1 h2
theorem BV {a b c:Nat} (h0:a<b) (h1:c≤a):c≤b:=GU (la [a,b,c] [.lt (.v 0) (.v 1),.le (.v 2) (.v 0),.lt (.v 1) (.v 2)] [1,1,1] rfl h0 h1)
theorem BW {a b c:Nat} (h0:a=b+1) (h1:c<b):c+1<a:=GZ (la [a,b,c] [.eq (.v 0) (.a (.v 1) (.k 1)),.lt (.v 2) (.v 1),.le (.v 0) (.a (.v 2) (.k 1))] [0,1,1,1] rfl h0 h1)
theorem BX {a b c:Nat} (h0:a=b+5) (h1:a≤c):b<c:=GZ (la [a,b,c] [.eq (.v 0) (.a (.v 1) (.k 5)),.le (.v 0) (.v 2),.le (.v 2) (.v 1)] [0,1,1,1] rfl h0 h1)
theorem BY {a b c:Nat} (h0:a=b∧c=b):a≤b:=HN h0.1
theorem BZ {a b c:Nat} (h0:a=b∧c=b):c≤b:=HN h0.2
theorem B0 {a b c:Nat} (h0:a=b) (h1:(↑c:Int)≤(↑b:Int)):c≤a:=Im.mp (h0▸h1)
theorem B4 {a b c:Nat} (h0:a=b) (h1:a≤c):b≤c+1:=GU (la [a,b,c] [.eq (.v 0) (.v 1),.le (.v 0) (.v 2),.lt (.a (.v 2) (.k 1)) (.v 1)] [0,1,1,1] rfl h0 h1)
theorem B5 {a b c:Nat} (h0:a=b) (h1:b≤c):a≤c:=GU (la [a,b,c] [.eq (.v 0) (.v 1),.le (.v 1) (.v 2),.lt (.v 2) (.v 0)] [1,0,1,1] rfl h0 h1)
theorem B6 {a b c:Nat} (h0:a=b) (h1:c=b):c-a=0:=Jm (HN (h1.trans h0.symm))
theorem B7 {a b c:Nat} (h0:a≤1000) (h1:a=b+(c+1)):b≤1000:=GU (la [a,b,c] [.le (.v 0) (.k 1000),.eq (.v 0) (.a (.v 1) (.a (.v 2) (.k 1))),.lt (.k 1000) (.v 1)] [1,0,1,1] rfl h0 h1)
theorem B8 {a b c:Nat} (h0:a≤20) (h1:b≤a+2) (h2:c≤b+1):c≤100:=GU (la [a,b,c] [.le (.v 0) (.k 20),.le (.v 1) (.a (.v 0) (.k 2)),.le (.v 2) (.a (.v 1) (.k 1)),.lt (.k 100) (.v 2)] [1,1,1,1] rfl h0 h1 h2)
theorem B9 {a b c:Nat} (h0:a≤2) (h1:b≤c+1) (h2:c≤a+1):b≤4:=GU (la [a,b,c] [.le (.v 0) (.k 2),.le (.v 1) (.a (.v 2) (.k 1)),.le (.v 2) (.a (.v 0) (.k 1)),.lt (.k 4) (.v 1)] [1,1,1,1] rfl h0 h1 h2)
theorem Ca {a b c:Nat} (h0:a≤b*16384) (h1:c≤16384):c+a≤b*16384+16384:=GU (la [a,b,c] [.le (.v 0) (.r (.v 1) 16384),.le (.v 2) (.k 16384),.lt (.a (.r (.v 1) 16384) (.k 16384)) (.a (.v 2) (.v 0))] [1,1,1] rfl h0 h1)
theorem Cb {a b c:Nat} (h0:a≤b+100) (h1:b+60*c+10*20<9900):a+60*c+10*10<9900:=GZ (la [a,b,c] [.le (.v 0) (.a (.v 1) (.k 100)),.lt (.a (.a (.v 1) (.m 60 (.v 2))) (.m 10 (.k 20))) (.k 9900),.le (.k 9900) (.a (.a (.v 0) (.m 60 (.v 2))) (.m 10 (.k 10)))] [1,1,1] rfl h0 h1)
theorem Cc {a b c:Nat} (h0:a≤b+10) (h1:b+8*c+20<1000):a+8*c+10<1000:=GZ (la [a,b,c] [.le (.v 0) (.a (.v 1) (.k 10)),.lt (.a (.a (.v 1) (.m 8 (.v 2))) (.k 20)) (.k 1000),.le (.k 1000) (.a (.a (.v 0) (.m 8 (.v 2))) (.k 10))] [1,1,1] rfl h0 h1)
theorem Cd {a b c:Nat} (h0:a≤b+1) (h1:a=c+1):c≤b:=GU (la [a,b,c] [.le (.v 0) (.a (.v 1) (.k 1)),.eq (.v 0) (.a (.v 2) (.k 1)),.lt (.v 1) (.v 2)] [1,0,1,1] rfl h0 h1)
theorem Ce {a b c:Nat} (h0:a≤b+5) (h1:b≤20) (h2:c≤a+1):c≤60:=GU (la [a,b,c] [.le (.v 0) (.a (.v 1) (.k 5)),.le (.v 1) (.k 20),.le (.v 2) (.a (.v 0) (.k 1)),.lt (.k 60) (.v 2)] [1,1,1,1] rfl h0 h1 h2)
theorem Cf {a b c:Nat} (h0:a≤b∧b<a+(c+1)) (h1:¬b=a):a+1≤b∧b<a+1+c:=⟨Nat.lt_of_le_of_ne h0.1 (Ne.symm h1),I7 h0.2 (I0 a c 1)⟩
theorem Cg {a b c:Nat} (h0:a≤b) (h1:0<c):a+1≤c+b:=GU (la [a,b,c] [.le (.v 0) (.v 1),.lt (.k 0) (.v 2),.lt (.a (.v 2) (.v 1)) (.a (.v 0) (.k 1))] [1,1,1] rfl h0 h1)
theorem Ch {a b c:Nat} (h0:a≤b):a≤c+b:=GU (la [a,b,c] [.le (.v 0) (.v 1),.lt (.a (.v 2) (.v 1)) (.v 0)] [1,1] rfl h0)
theorem Ci {a b c:Nat} (h0:a≤b) (h1:b+(c+1)≤1000):a<100000:=GZ (la [a,b,c] [.le (.v 0) (.v 1),.le (.a (.v 1) (.a (.v 2) (.k 1))) (.k 1000),.le (.k 100000) (.v 0)] [1,1,1] rfl h0 h1)
theorem Cj {a b c:Nat} (h0:a≤b) (h1:b+1≤c):a≤c:=GU (la [a,b,c] [.le (.v 0) (.v 1),.le (.a (.v 1) (.k 1)) (.v 2),.lt (.v 2) (.v 0)] [1,1,1] rfl h0 h1)
theorem Ck {a b c:Nat} (h0:a≤b) (h1:b<c):a<c:=GZ (la [a,b,c] [.le (.v 0) (.v 1),.lt (.v 1) (.v 2),.le (.v 2) (.v 0)] [1,1,1] rfl h0 h1)
theorem Cm {a b c:Nat} (h0:a≤b) (h1:b=c) (h2:c<a):False:=la [a,b,c] [.le (.v 0) (.v 1),.eq (.v 1) (.v 2),.lt (.v 2) (.v 0)] [1,1,0,1] rfl h0 h1 h2
theorem Cn {a b c:Nat} (h0:a≤b) (h1:b≤c):a≤c:=GU (la [a,b,c] [.le (.v 0) (.v 1),.le (.v 1) (.v 2),.lt (.v 2) (.v 0)] [1,1,1] rfl h0 h1)
theorem Co {a b c:Nat} (h0:a≤b) (h1:b≤c):a≤c+1:=GU (la [a,b,c] [.le (.v 0) (.v 1),.le (.v 1) (.v 2),.lt (.a (.v 2) (.k 1)) (.v 0)] [1,1,1] rfl h0 h1)
theorem Cp {a b c:Nat} (h0:a≤b) (h1:c+1<a):¬c=b:=la [a,b,c] [.le (.v 0) (.v 1),.lt (.a (.v 2) (.k 1)) (.v 0),.eq (.v 2) (.v 1)] [1,1,0,1] rfl h0 h1
theorem Cq {a b c:Nat} (h0:a≤b):c+a≤c+b:=GU (la [a,b,c] [.le (.v 0) (.v 1),.lt (.a (.v 2) (.v 1)) (.a (.v 2) (.v 0))] [1,1] rfl h0)
theorem Cr {a b c:Nat} (h0:a≤b) (h1:c<a):c<b:=GZ (la [a,b,c] [.le (.v 0) (.v 1),.lt (.v 2) (.v 0),.le (.v 1) (.v 2)] [1,1,1] rfl h0 h1)
theorem Cs {a b c:Nat} (h0:a≤b) (h1:c≤b):max a c≤b:=Nat.max_le_of_le_of_le h0 h1
theorem Ct {a b c:Nat} (h0:a≤b):min (↑c:Int).toNat a≤b:=G2 (JK _ _) h0
theorem Cu {a b c:Nat} (h0:¬(a+b)*5≥c*3):(a+b)*5<c*3:=GZ h0
theorem Cv {a b c:Nat} (h0:¬a<min b b-c):b≤c+a:=Nat.sub_le_iff_le_add'.mp (Nat.min_self b▸GU h0)
theorem Cw {a b:Nat} {c:Int} (h0:a≤b+1) (h1:0≤c∧c<(↑a:Int)):c.toNat≤b:=JQ.mpr (Int.le_of_lt_add_one (IZ h1.2 (Im.mpr h0)))
theorem Cy {a b:Nat}:(↑(a+1+b):Int)=(↑a:Int)+1+(↑b:Int):=Nat.ToInt.add_congr rfl rfl
theorem Cz {a b:Nat}:(↑a:Int)+1+(↑b:Int)=(↑(a+1+b):Int):=Int.mem_toNat?.mp rfl
theorem CA {a b:Nat} (h0:(↑a:Int)-1-(↑b:Int)=(↑(a-1-b):Int)):(↑(a-1-b):Int)-1=(↑a:Int)-1-(↑(b+1):Int):=(congrArg (·-1) h0.symm).trans ((J7 _ _ _).trans rfl)
theorem CB {a b:Nat}:(↑a:Int)<(↑(a+(b+1)):Int):=Int.lt.intro rfl
theorem CC {a b:Nat} (h0:(↑a:Int)<(↑b:Int)):a<b:=H0.mp h0
theorem CD {a b:Nat} (h0:(↑a:Int)=(↑b:Int)):a=b:=Jp.mp h0
theorem CE {a b:Nat} (h0:a+(b+1)≤16384):a+(b+1)≤100000:=GU (la [a,b] [.le (.a (.v 0) (.a (.v 1) (.k 1))) (.k 16384),.lt (.k 100000) (.a (.v 0) (.a (.v 1) (.k 1)))] [1,1] rfl h0)
theorem CF {a b:Nat}:a+1+b≤a+(b+1):=GU (la [a,b] [.lt (.a (.v 0) (.a (.v 1) (.k 1))) (.a (.a (.v 0) (.k 1)) (.v 1))] [1] rfl)
theorem CG {a b:Nat} (h0:a+1≤b):a<b:=GZ (la [a,b] [.le (.a (.v 0) (.k 1)) (.v 1),.le (.v 1) (.v 0)] [1,1] rfl h0)
theorem CH {a b:Nat} (h0:a+2≤b):a≤b+1:=GU (la [a,b] [.le (.a (.v 0) (.k 2)) (.v 1),.lt (.a (.v 1) (.k 1)) (.v 0)] [1,1] rfl h0)
theorem CI {a b:Nat} (h0:a+60*(b+2)+10*10<9900):a+3+60*b+10*20<9900:=GZ (la [a,b] [.lt (.a (.a (.v 0) (.m 60 (.a (.v 1) (.k 2)))) (.m 10 (.k 10))) (.k 9900),.le (.k 9900) (.a (.a (.a (.v 0) (.k 3)) (.m 60 (.v 1))) (.m 10 (.k 20)))] [1,1] rfl h0)
theorem CJ {a b:Nat} (h0:a+60*b+10*20<9900):a+1<9900:=GZ (la [a,b] [.lt (.a (.a (.v 0) (.m 60 (.v 1))) (.m 10 (.k 20))) (.k 9900),.le (.k 9900) (.a (.v 0) (.k 1))] [1,1] rfl h0)
theorem CK {a b:Nat} (h0:a+8*(b+2)+10<1000):a+1+8*b+20<1000:=GZ (la [a,b] [.lt (.a (.a (.v 0) (.m 8 (.a (.v 1) (.k 2)))) (.k 10)) (.k 1000),.le (.k 1000) (.a (.a (.a (.v 0) (.k 1)) (.m 8 (.v 1))) (.k 20))] [1,1] rfl h0)
theorem CM {a b:Nat} (h0:a+8*(b+2)+10<1000):a<1000:=GZ (la [a,b] [.lt (.a (.a (.v 0) (.m 8 (.a (.v 1) (.k 2)))) (.k 10)) (.k 1000),.le (.k 1000) (.v 0)] [1,1] rfl h0)
theorem CN {a b:Nat} (h0:a+8*b+20<1000):a<1000:=GZ (la [a,b] [.lt (.a (.a (.v 0) (.m 8 (.v 1))) (.k 20)) (.k 1000),.le (.k 1000) (.v 0)] [1,1] rfl h0)
theorem CO {a b:Nat} (h0:a+b≤10000):a<100000:=GZ (la [a,b] [.le (.a (.v 0) (.v 1)) (.k 10000),.le (.k 100000) (.v 0)] [1,1] rfl h0)
theorem CP {a b:Nat} (h0:a+b≤10000):a≤20000:=GU (la [a,b] [.le (.a (.v 0) (.v 1)) (.k 10000),.lt (.k 20000) (.v 0)] [1,1] rfl h0)
theorem CQ {a b:Nat} (h0:a<b):(↑b:Int)-1-(↑a:Int)=(↑(b-1-a):Int):=(congrArg (·-(a:Int)) (J8 (HX (HK a) h0)).symm).trans (J8 (Nat.le_pred_of_lt h0)).symm
theorem CR {a b:Nat} (h0:a<b):a<b:=GZ (la [a,b] [.lt (.v 0) (.v 1),.le (.v 1) (.v 0)] [1,1] rfl h0)
theorem CS {a b:Nat} (h0:a<b):b=b-1+1:=(Nat.sub_add_cancel (HX (HK a) h0)).symm
theorem CT {a b:Nat} (h0:a<b):b≠a:=la [a,b] [.lt (.v 0) (.v 1),.eq (.v 1) (.v 0)] [1,1,0] rfl h0
theorem CU {a b:Nat} (h0:a<b):¬a=b:=la [a,b] [.lt (.v 0) (.v 1),.eq (.v 0) (.v 1)] [1,0,1] rfl h0
theorem CV {a b:Nat} (h0:a=b+1):0<a:=GZ (la [a,b] [.eq (.v 0) (.a (.v 1) (.k 1)),.le (.v 0) (.k 0)] [0,1,1] rfl h0)
theorem CW {a b:Nat} (h0:a=b+1):b≤a:=GU (la [a,b] [.eq (.v 0) (.a (.v 1) (.k 1)),.lt (.v 0) (.v 1)] [0,1,1] rfl h0)
theorem CX {a b:Nat} (h0:a=b):(↑a:Int)=(↑b:Int):=Jp.mpr h0
theorem CY {a b:Nat} (h0:a=b) (h1:a<b):False:=la [a,b] [.eq (.v 0) (.v 1),.lt (.v 0) (.v 1)] [0,1,1] rfl h0 h1
theorem CZ {a b:Nat} (h0:a=b) (h1:b<a):False:=la [a,b] [.eq (.v 0) (.v 1),.lt (.v 1) (.v 0)] [1,0,1] rfl h0 h1
theorem C1 {a b:Nat} (h0:a≤10000) (h1:b≤a):0+b≤10000:=GU (la [a,b] [.le (.v 0) (.k 10000),.le (.v 1) (.v 0),.lt (.k 10000) (.a (.k 0) (.v 1))] [1,1,1] rfl h0 h1)
theorem C2 {a b:Nat} (h0:a≤1000) (h1:b≤a):b≤100000:=GU (la [a,b] [.le (.v 0) (.k 1000),.le (.v 1) (.v 0),.lt (.k 100000) (.v 1)] [1,1,1] rfl h0 h1)
theorem C5 {a b:Nat} (h0:a≤100) (h1:b≤a+1):b≤1000:=GU (la [a,b] [.le (.v 0) (.k 100),.le (.v 1) (.a (.v 0) (.k 1)),.lt (.k 1000) (.v 1)] [1,1,1] rfl h0 h1)
theorem C7 {a b:Nat} (h0:a≤10) (h1:b=a):b≤1000:=GU (la [a,b] [.le (.v 0) (.k 10),.eq (.v 1) (.v 0),.lt (.k 1000) (.v 1)] [1,1,0,1] rfl h0 h1)
theorem C8 {a b:Nat} (h0:a≤10) (h1:b=a):b≤100000:=GU (la [a,b] [.le (.v 0) (.k 10),.eq (.v 1) (.v 0),.lt (.k 100000) (.v 1)] [1,1,0,1] rfl h0 h1)
theorem C9 {a b:Nat} (h0:a≤20) (h1:b≤a+1):b≤100:=GU (la [a,b] [.le (.v 0) (.k 20),.le (.v 1) (.a (.v 0) (.k 1)),.lt (.k 100) (.v 1)] [1,1,1] rfl h0 h1)
theorem Da {a b:Nat} (h0:a≤20) (h1:b≤a+1):b≤40:=GU (la [a,b] [.le (.v 0) (.k 20),.le (.v 1) (.a (.v 0) (.k 1)),.lt (.k 40) (.v 1)] [1,1,1] rfl h0 h1)
theorem Db {a b:Nat} (h0:a≤20) (h1:b≤a+2):b≤90:=GU (la [a,b] [.le (.v 0) (.k 20),.le (.v 1) (.a (.v 0) (.k 2)),.lt (.k 90) (.v 1)] [1,1,1] rfl h0 h1)
theorem Dc {a b:Nat} (h0:a≤2) (h1:b≤a*16384):b+1≤32769:=GU (la [a,b] [.le (.v 0) (.k 2),.le (.v 1) (.r (.v 0) 16384),.lt (.k 32769) (.a (.v 1) (.k 1))] [16384,1,1] rfl h0 h1)
theorem Dd {a b:Nat} (h0:a≤2) (h1:b≤a+1):b≤100:=GU (la [a,b] [.le (.v 0) (.k 2),.le (.v 1) (.a (.v 0) (.k 1)),.lt (.k 100) (.v 1)] [1,1,1] rfl h0 h1)
theorem De {a b:Nat} (h0:a≤32769) (h1:b≤16384):a+b≤100000:=GU (la [a,b] [.le (.v 0) (.k 32769),.le (.v 1) (.k 16384),.lt (.k 100000) (.a (.v 0) (.v 1))] [1,1,1] rfl h0 h1)
theorem Df {a b:Nat} (h0:a≤3) (h1:b=a):b≤8:=GU (la [a,b] [.le (.v 0) (.k 3),.eq (.v 1) (.v 0),.lt (.k 8) (.v 1)] [1,1,0,1] rfl h0 h1)
theorem Dg {a b:Nat} (h0:a≤40) (h1:b≤a+1):b≤100:=GU (la [a,b] [.le (.v 0) (.k 40),.le (.v 1) (.a (.v 0) (.k 1)),.lt (.k 100) (.v 1)] [1,1,1] rfl h0 h1)
theorem Dh {a b:Nat} (h0:a≤4) (h1:b≤a+1):b≤60:=GU (la [a,b] [.le (.v 0) (.k 4),.le (.v 1) (.a (.v 0) (.k 1)),.lt (.k 60) (.v 1)] [1,1,1] rfl h0 h1)
theorem Di {a b:Nat} (h0:a≤6):b+2+4*a≤b+26:=GU (la [a,b] [.le (.v 0) (.k 6),.lt (.a (.v 1) (.k 26)) (.a (.a (.v 1) (.k 2)) (.m 4 (.v 0)))] [4,1] rfl h0)
theorem Dj {a b:Nat} (h0:a≤7) (h1:b<a):(↑b:Int)<7:=H0.mpr (G5 h1 h0)
theorem Dk {a b:Nat} (h0:a≤7) (h1:b<a):b+1≤7:=GU (la [a,b] [.le (.v 0) (.k 7),.lt (.v 1) (.v 0),.lt (.k 7) (.a (.v 1) (.k 1))] [1,1,1] rfl h0 h1)
theorem Dl {a b:Nat} (h0:a≤7) (h1:b<a):b<7:=GZ (la [a,b] [.le (.v 0) (.k 7),.lt (.v 1) (.v 0),.le (.k 7) (.v 1)] [1,1,1] rfl h0 h1)
theorem Dm {a b:Nat} (h0:a≤7) (h1:b<a):b≤100000:=GU (la [a,b] [.le (.v 0) (.k 7),.lt (.v 1) (.v 0),.lt (.k 100000) (.v 1)] [1,1,1] rfl h0 h1)
theorem Dn {a b:Nat} (h0:a≤7) (h1:b<a):b≤7:=GU (la [a,b] [.le (.v 0) (.k 7),.lt (.v 1) (.v 0),.lt (.k 7) (.v 1)] [1,1,1] rfl h0 h1)
theorem Do {a b:Nat} (h0:a≤7) (h1:b=a):b≤100000:=GU (la [a,b] [.le (.v 0) (.k 7),.eq (.v 1) (.v 0),.lt (.k 100000) (.v 1)] [1,1,0,1] rfl h0 h1)
theorem Dp {a b:Nat}:a≤a+2+4*b+2:=GU (la [a,b] [.lt (.a (.a (.a (.v 0) (.k 2)) (.m 4 (.v 1))) (.k 2)) (.v 0)] [1] rfl)
theorem Dq {a b:Nat} (h0:a≤b*1000) (h1:b*1000≤10*1000):a≤10000:=GU (la [a,b] [.le (.v 0) (.r (.v 1) 1000),.le (.r (.v 1) 1000) (.m 10 (.k 1000)),.lt (.k 10000) (.v 0)] [1,1,1] rfl h0 h1)
theorem GJ {a b:Nat} (h0:a≤b+1):a+1≤b+1+1:=GU (la [a,b] [.le (.v 0) (.a (.v 1) (.k 1)),.lt (.a (.a (.v 1) (.k 1)) (.k 1)) (.a (.v 0) (.k 1))] [1,1] rfl h0)
theorem Dr {a b:Nat} (h0:a≤b+1):a+1≤b+2:=GU (la [a,b] [.le (.v 0) (.a (.v 1) (.k 1)),.lt (.a (.v 1) (.k 2)) (.a (.v 0) (.k 1))] [1,1] rfl h0)
theorem Ds {a b:Nat} (h0:a≤b+1):a≤b+5:=GU (la [a,b] [.le (.v 0) (.a (.v 1) (.k 1)),.lt (.a (.v 1) (.k 5)) (.v 0)] [1,1] rfl h0)
theorem Dt {a b:Nat} (h0:a≤b+5) (h1:b≤20):a≤100:=GU (la [a,b] [.le (.v 0) (.a (.v 1) (.k 5)),.le (.v 1) (.k 20),.lt (.k 100) (.v 0)] [1,1,1] rfl h0 h1)
theorem Du {a b:Nat} (h0:a≤b):a<0+(b+1):=GZ (la [a,b] [.le (.v 0) (.v 1),.le (.a (.k 0) (.a (.v 1) (.k 1))) (.v 0)] [1,1] rfl h0)
theorem Dv {a b:Nat} (h0:a≤b):a≤b+2:=GU (la [a,b] [.le (.v 0) (.v 1),.lt (.a (.v 1) (.k 2)) (.v 0)] [1,1] rfl h0)
theorem Dw {a b:Nat} (h0:a≤b) (h1:b≤a):(↑a:Int)-1-(↑b:Int)= -1:=by cases HZ h0 h1;rw [J7,Int.add_comm 1,<-J7,Int.sub_self];rfl
theorem Dx {a b:Nat} (h0:a≤b) (h1:b≤a):b=a:=HZ (GU (la [a,b] [.le (.v 0) (.v 1),.le (.v 1) (.v 0),.lt (.v 0) (.v 1)] [0,1,1] rfl h0 h1)) (GU (la [a,b] [.le (.v 0) (.v 1),.le (.v 1) (.v 0),.lt (.v 1) (.v 0)] [1,0,1] rfl h0 h1))
theorem Dy {a b:Nat}:min a b+(b-a+1)=b+1:=(Nat.le_total a b).elim (λh=>by rw [Nat.min_eq_left h];exact congrArg (·+1) (IP h)) (λh=>by rw [Nat.min_eq_right h,Jm h])
theorem Dz {a b:Nat} (h0:¬(a+0)*5≥b*3):a*5<b*3:=GZ h0
theorem DA {a b:Nat}:¬(a≤b∧b<a+0):=λh=>Hl b (G5 h.2 h.1)
theorem DB {a b:Nat} (h0:¬a<b) (h1:a<b+1):a=b:=HZ (GU (la [a,b] [.nlt (.v 0) (.v 1),.lt (.v 0) (.a (.v 1) (.k 1)),.lt (.v 1) (.v 0)] [0,1,1] rfl h0 h1)) (GU (la [a,b] [.nlt (.v 0) (.v 1),.lt (.v 0) (.a (.v 1) (.k 1)),.lt (.v 0) (.v 1)] [1,0,1] rfl h0 h1))
theorem DC {a b:Nat} (h0:¬a<b) (h1:¬b=a):¬a<b+1:=λh=>h1 (HZ (GU h0) (Jh h))
theorem DD {a b:Nat} (h0:¬a≤b):b<a:=GZ (la [a,b] [.nle (.v 0) (.v 1),.le (.v 0) (.v 1)] [1,1] rfl h0)
theorem DF {a:Nat} {b:Int} {c:Nat} (h0:a≤7) (h1:b=(↑c:Int)) (h2:c<a):0≤b∧b<7:=⟨h1▸Iq c,h1▸H0.mpr (G5 h2 h0)⟩
theorem DG {a:Nat} {b:Int} (h0:a<b.toNat):0<b-(↑a:Int):=Int.sub_pos.mpr (Int.lt_toNat.mp h0)
theorem DH {a:Nat} (h0:(a=7∨a=15)∨a=31):a=7∨a=15∨a=31:=or_assoc.mp h0
theorem DI {a:Nat}:(↑(1+a):Int)=1+(↑a:Int):=Nat.ToInt.add_congr rfl rfl
theorem DJ {a:Nat} (h0:(↑a:Int)-1=(↑(a-1):Int)):a-1<a:=Nat.sub_lt (Nat.pos_of_ne_zero λe=>by rw [e] at h0;cases h0) !3
theorem DK {a:Nat} (h0:(↑a:Int)=1):a=1:=Jp.mp h0
theorem DL {a:Nat} (h0:0<a∧a≤7):a<1+7:=Nat.lt_succ_of_le h0.2
theorem DM {a:Nat} (h0:0<a):0<(↑a:Int):=Int.natCast_pos.mpr h0
theorem DN {a:Nat} (h0:0≤(↑a:Int)∧(↑a:Int)<(↑a:Int)):False:=J9 _ h0.2
theorem DO {a:Nat}:1≤1+a:=GU (la [a] [.lt (.a (.k 1) (.v 0)) (.k 1)] [1] rfl)
theorem DP {a:Nat} (h0:1≤a):(↑a:Int)-1=(↑(a-1):Int):=(J8 h0).symm
theorem DQ {a:Nat}:10*(a+15)=10*(a+15)-1+1:=rfl
theorem DR {a:Nat} (h0:a*5<15*3):a+0≤15:=GU (la [a] [.lt (.r (.v 0) 5) (.m 15 (.k 3)),.lt (.k 15) (.a (.v 0) (.k 0))] [1,3] rfl h0)
theorem DS {a:Nat} (h0:a*5<15*3):a+1+0≤15:=GU (la [a] [.lt (.r (.v 0) 5) (.m 15 (.k 3)),.lt (.k 15) (.a (.a (.v 0) (.k 1)) (.k 0))] [1,3] rfl h0)
theorem DU {a:Nat} (h0:a*5<31*3):a+0≤31:=GU (la [a] [.lt (.r (.v 0) 5) (.m 31 (.k 3)),.lt (.k 31) (.a (.v 0) (.k 0))] [1,3] rfl h0)
theorem DV {a:Nat} (h0:a*5<31*3):a+1+0≤31:=GU (la [a] [.lt (.r (.v 0) 5) (.m 31 (.k 3)),.lt (.k 31) (.a (.a (.v 0) (.k 1)) (.k 0))] [1,3] rfl h0)
theorem DW {a:Nat} (h0:a*5<7*3):a+0≤7:=GU (la [a] [.lt (.r (.v 0) 5) (.m 7 (.k 3)),.lt (.k 7) (.a (.v 0) (.k 0))] [1,3] rfl h0)
theorem DX {a:Nat} (h0:a*5<7*3):a+1+0≤7:=GU (la [a] [.lt (.r (.v 0) 5) (.m 7 (.k 3)),.lt (.k 7) (.a (.a (.v 0) (.k 1)) (.k 0))] [1,3] rfl h0)
theorem DY {a:Nat} (h0:a+1≤7):(↑a:Int)<7:=Int.lt_toNat.mp h0
theorem DZ {a:Nat}:a+1≤a+100:=GU (la [a] [.lt (.a (.v 0) (.k 100)) (.a (.v 0) (.k 1))] [1] rfl)
theorem D0 {a:Nat} (h0:a+8<1000):a<1000:=GZ (la [a] [.lt (.a (.v 0) (.k 8)) (.k 1000),.le (.k 1000) (.v 0)] [1,1] rfl h0)
theorem D1 {a:Nat} (h0:a-1=15):¬a>16777216:=λh=>by rw [Jn (G2 (!3) (Hk h))] at h0;rw [h0] at h;exact absurd h !3
theorem D2 {a:Nat} (h0:a-1=31):¬a>16777216:=λh=>by rw [Jn (G2 (!3) (Hk h))] at h0;rw [h0] at h;exact absurd h !3
theorem D3 {a:Nat} (h0:a-1=7):¬a>16777216:=λh=>by rw [Jn (G2 (!3) (Hk h))] at h0;rw [h0] at h;exact absurd h !3
theorem D4 {a:Nat} (h0:a<50000):a<100000:=GZ (la [a] [.lt (.v 0) (.k 50000),.le (.k 100000) (.v 0)] [1,1] rfl h0)
theorem D5 {a:Nat} (h0:a<7):a<0+7:=GZ (la [a] [.lt (.v 0) (.k 7),.le (.a (.k 0) (.k 7)) (.v 0)] [1,1] rfl h0)
theorem D6 {a:Nat} (h0:a=1):a=1:=HZ (GU (la [a] [.eq (.v 0) (.k 1),.lt (.k 1) (.v 0)] [1,0,1] rfl h0)) (GU (la [a] [.eq (.v 0) (.k 1),.lt (.v 0) (.k 1)] [0,1,1] rfl h0))
theorem D7 {a:Nat}:a≠a+2:=la [a] [.eq (.v 0) (.a (.v 0) (.k 2))] [0,1] rfl
theorem D8 {a:Nat} (h0:a≤1000):1+a≤100000:=GU (la [a] [.le (.v 0) (.k 1000),.lt (.k 100000) (.a (.k 1) (.v 0))] [1,1] rfl h0)
theorem D9 {a:Nat} (h0:a≤1000):a<100000:=GZ (la [a] [.le (.v 0) (.k 1000),.le (.k 100000) (.v 0)] [1,1] rfl h0)
theorem Ea {a:Nat} (h0:a≤20):a≤100:=GU (la [a] [.le (.v 0) (.k 20),.lt (.k 100) (.v 0)] [1,1] rfl h0)
theorem Eb {a:Nat} (h0:a≤2):a≤100:=GU (la [a] [.le (.v 0) (.k 2),.lt (.k 100) (.v 0)] [1,1] rfl h0)
theorem Ec {a:Nat} (h0:a≤3):a≤100000:=GU (la [a] [.le (.v 0) (.k 3),.lt (.k 100000) (.v 0)] [1,1] rfl h0)
theorem Ed {a:Nat} (h0:a≤3):a≤64:=GU (la [a] [.le (.v 0) (.k 3),.lt (.k 64) (.v 0)] [1,1] rfl h0)
theorem Ee {a:Nat} (h0:a≤3):a≤9:=GU (la [a] [.le (.v 0) (.k 3),.lt (.k 9) (.v 0)] [1,1] rfl h0)
theorem GK {a:Nat} (h0:a≤4):a+1≤5:=GU (la [a] [.le (.v 0) (.k 4),.lt (.k 5) (.a (.v 0) (.k 1))] [1,1] rfl h0)
theorem Eg {a:Nat} (h0:a≤4):a≤20:=GU (la [a] [.le (.v 0) (.k 4),.lt (.k 20) (.v 0)] [1,1] rfl h0)
theorem Eh {a:Nat} (h0:a≤50000):a+1≤100000:=GU (la [a] [.le (.v 0) (.k 50000),.lt (.k 100000) (.a (.v 0) (.k 1))] [1,1] rfl h0)
theorem GL {a:Nat} (h0:a≤5):a+1≤6:=GU (la [a] [.le (.v 0) (.k 5),.lt (.k 6) (.a (.v 0) (.k 1))] [1,1] rfl h0)
theorem GM {a:Nat} (h0:a≤5):a≤100:=GU (la [a] [.le (.v 0) (.k 5),.lt (.k 100) (.v 0)] [1,1] rfl h0)
theorem Ei {a:Nat} (h0:a≤62):a≤99999:=GU (la [a] [.le (.v 0) (.k 62),.lt (.k 99999) (.v 0)] [1,1] rfl h0)
theorem Ej {a:Nat} (h0:a≤63):a≤100000:=GU (la [a] [.le (.v 0) (.k 63),.lt (.k 100000) (.v 0)] [1,1] rfl h0)
theorem GN {a:Nat} (h0:a≤6):a+1≤7:=GU (la [a] [.le (.v 0) (.k 6),.lt (.k 7) (.a (.v 0) (.k 1))] [1,1] rfl h0)
theorem GO {a:Nat} (h0:a≤6):a≤100:=GU (la [a] [.le (.v 0) (.k 6),.lt (.k 100) (.v 0)] [1,1] rfl h0)
theorem Ek {a:Nat} (h0:a≤7):a+1<4096:=GZ (la [a] [.le (.v 0) (.k 7),.le (.k 4096) (.a (.v 0) (.k 1))] [1,1] rfl h0)
theorem El {a:Nat} (h0:a≤7):a<0+8:=GZ (la [a] [.le (.v 0) (.k 7),.le (.a (.k 0) (.k 8)) (.v 0)] [1,1] rfl h0)
theorem Em {a:Nat} (h0:a≤7):a<1+7:=GZ (la [a] [.le (.v 0) (.k 7),.le (.a (.k 1) (.k 7)) (.v 0)] [1,1] rfl h0)
theorem En {a:Nat} (h0:a≤7):a<4096:=GZ (la [a] [.le (.v 0) (.k 7),.le (.k 4096) (.v 0)] [1,1] rfl h0)
theorem Eo {a:Nat} (h0:a≤7):a<64:=GZ (la [a] [.le (.v 0) (.k 7),.le (.k 64) (.v 0)] [1,1] rfl h0)
theorem Ep {a:Nat} (h0:a≤7):a≤20:=GU (la [a] [.le (.v 0) (.k 7),.lt (.k 20) (.v 0)] [1,1] rfl h0)
theorem Er {a:Nat} (h0:a≤7):a≤40:=GU (la [a] [.le (.v 0) (.k 7),.lt (.k 40) (.v 0)] [1,1] rfl h0)
theorem Es {a:Nat} (h0:a≤90):a≤100:=GU (la [a] [.le (.v 0) (.k 90),.lt (.k 100) (.v 0)] [1,1] rfl h0)
theorem Et {a:Nat}:a≤a:=GU (la [a] [.lt (.v 0) (.v 0)] [1] rfl)
theorem Eu {a:Nat}:a≤a+2:=GU (la [a] [.lt (.a (.v 0) (.k 2)) (.v 0)] [1] rfl)
theorem Ew {a:Nat}:min 1 a≤1:=Nat.min_le_left 1 a
theorem Ex {a:Nat} (h0:¬(↑63:Int)<(↑a:Int)):a≤63:=Im.mp (Kd.mp h0)
theorem Ey {a:Nat}:¬(↑a:Int)<0:=Int.not_ofNat_neg a
theorem Ez {a:Int} {b c:Nat} (h0:a=(↑b:Int)) (h1:a=(↑c:Int)):b=c:=Jp.mp (h0.symm.trans h1)
theorem EA {a:Int} {b:Nat} (h0:0≤a∧a<(↑b:Int)):0≤a∧a≤(↑b:Int):=⟨h0.1,JR h0.2⟩
theorem EB {a:Int} {b:Nat} (h0:0≤a∧a<(↑b:Int)):a=max a 0:=(Int.max_eq_left h0.1).symm
theorem ED {a:Int} {b:Nat} (h0:0≤a∧a<(↑b:Int)):a.toNat<b:=H0.mp (Hu (IX (Ho h0.1)) h0.2)
theorem EF {a:Int} {b:Nat} (h0:0≤a∧a<(↑b:Int)):a.toNat≤b:=JQ.mpr (JR h0.2)
theorem EG {a:Int} {b:Nat}:a-(↑b:Int)-1=a-(↑(b+1):Int):=(J7 a b 1).trans rfl
theorem EH {a:Int} {b:Nat} (h0:a<(↑4:Int)) (h1:a=(↑b:Int)):b≤3:=Im.mp (Int.le_of_lt_add_one (h1▸h0))
theorem EJ {a:Int} {b:Nat} (h0:a<(↑7:Int)) (h1:a=(↑b:Int)):1+b≤7:=Nat.add_comm 1 b▸H0.mp (h1▸h0)
theorem EK {a:Int} {b:Nat} (h0:a=(↑b:Int)):0≤a∧a≤(↑b:Int):=by subst h0;exact ⟨Iq b,Int.le_refl _⟩
theorem EL {a:Int} {b:Nat} (h0:a≤(↑b:Int)):a.toNat≤b:=JQ.mpr h0
theorem EM {a:Int} {b:Nat} (h0:a.toNat≤b):a-(↑b:Int)≤0:=Int.sub_nonpos_of_le (JQ.mp h0)
theorem EN {a:Int} {b:Nat} (h0:¬0≤a) (h1: -(↑b:Int)≤a):0≤a+(↑b:Int)∧a+(↑b:Int)<(↑b:Int):=⟨by have:=Int.add_le_add_right h1 (b:Int);rwa [Int.add_left_neg] at this,by have:=Int.add_lt_add_right (Int.not_le.mp h0) (b:Int);rwa [Int.zero_add] at this⟩
theorem EO {a b:Int} {c:Nat} (h0:0≤a∧a≤(↑b.toNat:Int)) (h1:0≤b∧b<(↑c:Int)):0≤a∧a≤(↑c:Int):=⟨h0.1,Jy h0.2 (Jy (IX (Ho h1.1)) (JR h1.2))⟩
theorem EP {a b c:Int} (h0:a<b) (h1:b<c):a<c:=JS h0 h1
theorem EQ {a b:Int} (h0:0≤a) (h1:a<b):a.toNat<b.toNat:=(Jz (Hu h0 h1)).mpr h1
theorem ER {a b:Int} (h0:0≤a) (h1:¬b<a) (h2:¬b=a):¬b.toNat=a.toNat:=λh=>h2 ((Ho (Jy h0 (Kd.mp h1))).symm.trans ((congrArg Nat.cast h).trans (Ho h0)))
theorem ES {a b:Int} (h0:a<b) (h1:0≤a∧a<7):a.toNat<b.toNat:=(Jz (Hu h1.1 h0)).mpr h0
theorem ET {a b:Int} (h0:a<b) (h1:0≤a∧a<7):¬a.toNat=b.toNat:=λh=>Hb ((Jz (Hu h1.1 h0)).mpr h0) h
theorem EU {a b:Int} (h0:a<b):a≠b:=Int.ne_of_lt h0
theorem EV {a b:Int} (h0:a<b) (h1:b<a):a=b:=absurd h0 (Int.lt_asymm h1)
theorem EW {a b:Int} (h0:a<b):¬b<a:=Int.lt_asymm h0
theorem EX {a b:Int} (h0:a<b):¬b=a:=Int.ne_of_gt h0
theorem EY {a b:Int} (h0:a=b):a.toNat=b.toNat:=congrArg Hy h0
theorem EZ {a b:Int} (h0:a=b):¬a.toNat<b.toNat:=h0▸Hl _
theorem E0 {a b:Int} (h0:a.toNat=b.toNat) (h1:0≤a) (h2:0≤b):a=b:=(Ho h1).symm.trans ((congrArg Nat.cast h0).trans (Ho h2))
theorem E3 {a b:Int} (h0:¬a<b) (h1:¬a=b):b<a:=Int.lt_iff_le_and_ne.mpr ⟨Kd.mp h0,Ne.symm h1⟩
theorem E4 {a b:Int} (h0:¬a<b):¬a.toNat<b.toNat:=λh=>h0 (Int.lt_of_not_ge λg=>Hl _ (G5 h (Int.toNat_le_toNat g)))
theorem E5 {a:Int} (h0:0≤a∧a<7):0≤a.toNat∧a.toNat<0+7:=⟨HK _,H0.mp (Hu (IX (Ho h0.1)) h0.2)⟩
theorem E6 {a:Int} (h0:0≤a) (h1:¬0<a):0=a:=Int.le_antisymm h0 (Kd.mp h1)
theorem E7 {a:Int} (h0:0≤a):¬a<0:=Int.not_lt_of_ge h0
theorem E8 {a:Int}:a-0=a:=Int.sub_zero a
theorem GQ {a:Int} (h0:a.natAbs<1000000):a.natAbs<1073741824:=IY h0 !3
theorem E9 {a:Int}:¬a<a:=J9 a
theorem nNS {α:Type _} {a:α} {C:Prop} (h:none=some a):C:=nomatch h
theorem nSN {α:Type _} {a:α} {C:Prop} (h:some a=none):C:=nomatch h
theorem nFT {C:Prop} (h:false=true):C:=nomatch h
theorem nTF {C:Prop} (h:true=false):C:=nomatch h
theorem nNe {C:Prop} {a b:Nat} (h:a=b) (k:Nat.beq a b=false):C:=absurd h (Jc k)
theorem ay {α:Type _} {a b:α} (h:some a=some b):a=b:=Hm.inj h
@[elab_as_elim] theorem rwl {α:Sort _} {a b:α} {motive:α->Prop} (h:a=b) (m:motive b):motive a:=h▸m
@[elab_as_elim] theorem rwr {α:Sort _} {a b:α} {motive:α->Prop} (h:a=b) (m:motive a):motive b:=h▸m
@[elab_as_elim] theorem Lc {α:Type _} {motive:List α->Prop} (t:List α) (nil:motive []) (cons:∀(head:α) (tail:List α),motive (head::tail)):motive t:=match t with
 |[]=>nil
 |a::l=>cons a l
set_option genInjectivity true
local macro_rules | `(tactic| rw $s:rwRuleSeq) => do
 let mut t <-`(tactic|try with_reducible rfl)
 for a in s.raw[1].getSepArgs.reverse do
  let i:=Lean.mkIdent (if a[0].isNone then `rwl else `rwr)
  t <-`(tactic|((first|refine$i:term ($(⟨a[1]⟩) ..) ?_|rewrite [$(⟨a⟩)]);$t:tactic))
 return t
local macro_rules | `(tactic| have $d:letDecl) => if d.raw[0].isOfKind `Lean.Parser.Term.letIdDecl then `(tactic| haveI $d:letDecl) else Lean.Macro.throwUnsupported
local macro_rules | `(tactic| show $t) => `(tactic| refine (?_ : $t))
local macro_rules | `(tactic| decide) => `(tactic| exact of_decide_eq_true rfl)
theorem passK {T:Prop} {K:Ko->Frag} (_:K=K) (_:True) (h:T):T:=h
local macro_rules | `(tactic| o_head ($f $k $a $e)) => `(tactic| refine Mine.Internal.passK (K := $k) rfl ?hw ?hc)
local macro_rules | `(tactic| w_witness2) => `(tactic| trivial)
open_top hk for (PySem.Challenge.rw_jb0048_01.row)
inductive P8 (a1 a2 a3:Prop):Prop
 |mk (h1:a1) (h2:a2) (h3:a3)
inductive QK (a1 a2 a3 a4:Prop):Prop
 |mk (h1:a1) (h2:a2) (h3:a3) (h4:a4)
inductive Q6 (a1 a2 a3 a4 a5:Prop):Prop
 |mk (h1:a1) (h2:a2) (h3:a3) (h4:a4) (h5:a5)
inductive Rp (a1 a2 a3 a4 a5 a6:Prop):Prop
 |mk (h1:a1) (h2:a2) (h3:a3) (h4:a4) (h5:a5) (h6:a6)
inductive Ry (a1 a2 a3 a4 a5 a6 a7:Prop):Prop
 |mk (h1:a1) (h2:a2) (h3:a3) (h4:a4) (h5:a5) (h6:a6) (h7:a7)
inductive Rx (a1 a2 a3 a4 a5 a6 a7 a8:Prop):Prop
 |mk (h1:a1) (h2:a2) (h3:a3) (h4:a4) (h5:a5) (h6:a6) (h7:a7) (h8:a8)
inductive Ex2 {t1 t2:Type} (p:t1->t2->Prop):Prop
 |mk (x1:t1) (x2:t2) (h:p x1 x2)
inductive Ex3 {t1 t2 t3:Type} (p:t1->t2->t3->Prop):Prop
 |mk (x1:t1) (x2:t2) (x3:t3) (h:p x1 x2 x3)
inductive Ex4 {t1 t2 t3 t4:Type} (p:t1->t2->t3->t4->Prop):Prop
 |mk (x1:t1) (x2:t2) (x3:t3) (x4:t4) (h:p x1 x2 x3 x4)
inductive Ex5 {t1 t2 t3 t4 t5:Type} (p:t1->t2->t3->t4->t5->Prop):Prop
 |mk (x1:t1) (x2:t2) (x3:t3) (x4:t4) (x5:t5) (h:p x1 x2 x3 x4 x5)
inductive Ex6 {t1 t2 t3 t4 t5 t6:Type} (p:t1->t2->t3->t4->t5->t6->Prop):Prop
 |mk (x1:t1) (x2:t2) (x3:t3) (x4:t4) (x5:t5) (x6:t6) (h:p x1 x2 x3 x4 x5 x6)
theorem sD (h:∀Q' E',(∀a s,Q a s->Q' a s)->(∀e s,E e s->E' e s)->Kg M A t Q' E' s):Kg M A t Q E s:=h Q E (λ_ _ z=>z) λ_ _ z=>z
def jY:List Nat->List (List Nat)
 |[]=>[[]]
 |x::r=>jY r++(jY r).map (x::·)
theorem mJ (h:l.Sublist xs):l∈jY xs:=by
 induction h with
 |slnil=>exact .head _
 |cons x _ ih=>exact HU _ ih
 |cons_cons x _ ih=>exact List.mem_append_right _ (G1.mpr ⟨_,ih,rfl⟩)
def lh:List (List Nat):=jY (IV 0 7)
theorem oQ (n a:Nat) (l:List Nat) (hp:l.Pairwise (·<·)) (h:∀x∈l,a≤x∧x<a+n):l.Sublist (IV a n):=by
 induction n generalizing a l with
 |zero=>induction l using Lc with
  |nil=>exact List.nil_sublist _
  |cons x r=>exact absurd (h x (.head _)) (DA)
 |succ n ih=>induction l using Lc with
  |nil=>exact List.nil_sublist _
  |cons x r=>
   rw [List.range'_succ]
   have hx:=h x (.head _)
   have hr:=Ih.mp hp
   by_cases e:x=a
   ·subst e
    exact (ih (x+1) r hr.2 λy hy=>by have:=hr.1 y hy;have:=h y (.tail _ hy);exact BL ‹_› this).cons_cons x
   refine (ih (a+1) (x::r) hp λy hy=>?_).cons a
   rcases G0.mp hy with rfl|hy
   ·exact Cf hx e
   have:=hr.1 y hy;have:=h y (.tail _ hy);exact Bp hx ‹_› this
structure PQ (ns:List Int):Prop where
 rise:ns.Pairwise (·<·)
 low:∀n∈ns,0≤n∧n<7
theorem PQ.sub (h:PQ ns):ns.map Hy∈lh:=by
 refine mJ (oQ 7 0 _ (Ji.mpr (h.rise.imp_of_mem λ{a b} ha hb hab=>?_)) λx hx=>?_)
 ·have:=h.low a ha;exact ES hab this
 obtain ⟨n,hn,rfl⟩:=G1.mp hx
 have:=h.low n hn;exact E5 this
def cI (n:Int) (l:List Int):List Int:=List.rec [n] (λx r ih=>if n<x then n::x::r else if n=x then x::r else x::ih) l
def sE (n:Nat) (l:List Nat):List Nat:=List.rec [n] (λx r ih=>if n<x then n::x::r else if n=x then x::r else x::ih) l
theorem eN:cI n (x::r)=if n<x then n::x::r else if n=x then x::r else x::cI n r:=rfl
theorem oR:sE n (x::r)=if n<x then n::x::r else if n=x then x::r else x::sE n r:=rfl
theorem et {l:List Int}:k∈cI n l↔k=n∨k∈l:=by
 induction l with
 |nil=>exact G0
 |cons x r ih=>
  rw [eN]
  by_cases c:n<x
  ·rw [RA c];exact G0
  rw [Rz c]
  by_cases e:n=x
  ·rw [RA e,G0,e];exact ⟨.inr,λh=>h.elim .inl id⟩
  rw [Rz e,G0,ih,G0]
  exact or_left_comm
theorem oS {l:List Int} (h:l.Pairwise (·<·)):(cI n l).Pairwise (·<·):=by
 induction l with
 |nil=>exact List.pairwise_singleton _ _
 |cons x r ih=>
  have hr:=Ih.mp h
  rw [eN]
  by_cases c:n<x
  ·rw [RA c]
   refine Ih.mpr ⟨λy hy=>?_,h⟩
   rcases G0.mp hy with rfl|hy
   ·exact c
   have:=hr.1 y hy;exact EP c this
  rw [Rz c]
  by_cases e:n=x
  ·rw [RA e];exact h
  rw [Rz e]
  refine Ih.mpr ⟨λy hy=>?_,ih hr.2⟩
  rcases et.mp hy with rfl|hy
  ·exact E3 c e
  exact hr.1 y hy
theorem PQ.ins (h:PQ ns) (h0:0≤n∧n<7):PQ (cI n ns):=
 ⟨oS h.rise,λk hk=>(et.mp hk).elim (λe=>e▸h0) (h.low k)⟩
theorem pW {l:List Int} (hp:l.Pairwise (·<·)) (h:n∈l):cI n l=l:=by
 induction l with
 |nil=>exact nomatch h
 |cons x r ih=>
  have hr:=Ih.mp hp
  rw [eN]
  rcases G0.mp h with rfl|h
  ·rw [Rz (E9),RA rfl]
  have:=hr.1 n h
  rw [Rz (EW this),Rz (EX this),ih hr.2 h]
theorem li (h0:0≤n) {l:List Int} (h:∀x∈l,0≤x):(cI n l).map Hy=sE n.toNat (l.map Hy):=by
 induction l with
 |nil=>rfl
 |cons x r ih=>
  have hx:=h x (.head _)
  rw [Hc,eN,oR]
  by_cases c:n<x
  ·rw [RA c,RA (EQ h0 c)];rfl
  rw [Rz c]
  by_cases e:n=x
  ·rw [RA e,Rz (EZ e),RA (EY e)];rfl
  rw [Rz e,Rz (E4 c),Rz (ER hx c e),Hc,ih λy hy=>h y (.tail _ hy)]
def pX (l:List Nat) (j:Nat):Bool:=l.contains j||(l.toArray[KJ l.toArray j]? !=some j&&l.take (KJ l.toArray j)++j::l.drop (KJ l.toArray j)==sE j l)
theorem u5:(lh.all λl=>(IV 0 7).all λj=>pX l j)=true:=by decide+kernel
def ij (l:List Nat):Nat->Nat
 |0=>0
 |i+1=>l.getD i 0+1
theorem vA:(lh.all λl=>(IV 0 (l.length+1)).all λi=>KJ l.toArray (ij l i)==i)=true:=by decide+kernel
def ik (m:Nat) (l:List Nat):Bool:=match MS m 0 0 true true (l.map Int.ofNat).toArray with
 |some (t,o)=>t.place==l.toArray&&o==(Hf l.length).toArray
 |none=>false
theorem sF:(lh.all λl=>ik 7 l)=true:=by decide+kernel
theorem pY:(lh.all λl=>ik 15 l)=true:=by decide+kernel
theorem pZ:(lh.all λl=>ik 31 l)=true:=by decide+kernel
def fz (m:Nat):Bool:=m==7||m==15||m==31
theorem sG:((IV 1 7).all λn=>fz (KB (LV n)-1)&&decide (n*5<(KB (LV n)-1)*3))=true:=by decide+kernel
theorem vB:((IV 1 7).all λn=>(IV 0 8).all λm=>fz (KB ((n+m)*2)-1)&&decide ((n+m)*5<(KB ((n+m)*2)-1)*3))=true:=by decide+kernel
theorem u6:(lh.all λl=>decide (l.length≤7))=true:=by decide+kernel
theorem vC:((IV 0 7).all λn=>hashInt (n:Int)==(n:Int))=true:=by decide+kernel
def PO:List (Int×Value)->List Int->Prop
 |[],[]=>True
 |e::es,n::ns=>e.1=n∧(∃t,e.2=.int n t)∧PO es ns
 |_,_=>False
theorem PO.length:∀{es:List (Int×Value)} {ns:List Int},PO es ns->es.length=ns.length
 |[],[],_=>rfl
 |_::_,_::_,h=>by rw [Ht,Ht,h.2.2.length]
theorem PO.append:∀{es es':List (Int×Value)} {ns ns':List Int},PO es ns->PO es' ns'->PO (es++es') (ns++ns')
 |[],_,[],_,_,h=>h
 |_::_,_,_::_,_,h,h'=>⟨h.1,h.2.1,h.2.2.append h'⟩
theorem PO.take:∀{es:List (Int×Value)} {ns:List Int} (p:Nat),PO es ns->PO (es.take p) (ns.take p)
 |[],[],0,_=>trivial
 |[],[],_+1,_=>trivial
 |_::_,_::_,0,_=>trivial
 |_::_,_::_,p+1,h=>⟨h.1,h.2.1,h.2.2.take p⟩
theorem PO.drop:∀{es:List (Int×Value)} {ns:List Int} (p:Nat),PO es ns->PO (es.drop p) (ns.drop p)
 |[],[],0,_=>trivial
 |[],[],_+1,_=>trivial
 |_::_,_::_,0,h=>h
 |_::_,_::_,p+1,h=>h.2.2.drop p
theorem PO.fst:∀{es:List (Int×Value)} {ns:List Int},PO es ns->es.map (·.1)=ns
 |[],[],_=>rfl
 |_::_,_::_,h=>by rw [Hc,h.1,h.2.2.fst]
theorem PO.get:∀{es:List (Int×Value)} {ns:List Int},PO es ns->∀{i:Nat} {n:Int},ns[i]?=some n->∃e,es[i]?=some e∧e.1=n∧∃t,e.2=.int n t
 |[],[],_,_,_,q=>by simp at q
 |e::_,_::_,h,0,n,q=>by
  simp only [I8,Hm.injEq] at q
  subst q;exact ⟨e,rfl,h.1,h.2.1⟩
 |_::_,_::_,h,i+1,n,q=>h.2.2.get (by simpa using q)
theorem PO.mem:∀{ns:List Int},PO es ns->∀e∈es,e.1∈ns∧∃t,e.2=.int e.1 t:=by
 induction es with
 |nil=>exact λ_ _ hx=>nomatch hx
 |cons e es ih=>
  intro ns h x hx
  induction ns using Lc with
  |nil=>exact h.elim
  |cons n ns=>
   rcases G0.mp hx with rfl|hx
   ·exact ⟨by rw [h.1];exact .head _,by obtain ⟨t,q⟩:=h.2.1;exact ⟨t,by rw [h.1];exact q⟩⟩
   exact ⟨.tail _ (ih h.2.2 x hx).1,(ih h.2.2 x hx).2⟩
theorem dT (h:0≤n∧n<7):hashInt n=n:=by
 have':=Hd.mp vC n.toNat (Iu.mpr ⟨HK _,by exact w90 h⟩)
 have e:((n.toNat:Nat):Int)=n:=w89 h
 rw [e] at this;exact eq_of_beq this
structure PK (w:Lw) (es:Array (Int×Value)) (ns:List Int) (t:KZ):Prop where
 vals:PO es.toList ns
 small:PQ ns
 place:t.place=(ns.map Hy).toArray
 dum:t.dummies=#[]
 mask:fz t.mask=true
 room:ns.length*5<t.mask*3
 plain:t.plain=true
 led:w.params.followText "set-order"=true∨t.led=true
theorem cC (h:fz m=true):m=7∨m=15∨m=31:=by
 unfold fz at h
 simp only [JT,beq_iff_eq] at h
 exact DH h
section
variable {w:Lw} {es:Array (Int×Value)} {ns:List Int} {t:KZ} {prog:Lb}
theorem PK.size (h:PK w es ns t):es.size=ns.length:=by rw [<-G9];exact h.vals.length
theorem PK.len (h:PK w es ns t):ns.length≤7:=by
 have':=Hd.mp u6 _ h.small.sub
 rw [G6] at this;exact of_decide_eq_true this
theorem PK.fits (h:PK w es ns t):t.fits es.size=true:=by
 have hr:=h.room
 simp only [SetTable.fits,Mo,h.place,h.dum,h.size,Hs,beq_iff_eq,decide_eq_true_eq,Iv,G6,Jt]
 exact ⟨trivial,by rcases cC h.mask with e|e|e<;>rw [e] at hr⊢<;>(first|exact DW hr|exact DR hr|exact DU hr)⟩
theorem PK.elems (h:PK w es ns t):ElemsOf (KU prog w) es.toList:=λe he=>by
 obtain ⟨h1,t,h2⟩:=h.vals.mem e he
 have hs:=h.small.low _ h1
 refine ⟨⟨e.1,by rw [h2];exact Lg _ _ _ _,(dT hs).symm⟩,by rw [h2];rfl⟩
theorem PK.bound (h:PK w es ns t):es.size<scanBound:=by
 have:=h.len;rw [h.size];show _<4096;exact En this
theorem jZ {m f mv:Nat} {led plain:Bool} (hm:fz m=true) (hn:PQ ns):MS m f mv led plain ns.toArray=some ({mask:=m,place:=(ns.map Hy).toArray,dummies:=#[],finger:=f,led:=led,moves:=mv,plain:=plain},(Hf ns.length).toArray):=by
 have' key:ik m (ns.map Hy)=true:=by
  rcases cC hm with rfl|rfl|rfl
  ·exact Hd.mp sF _ hn.sub
  ·exact Hd.mp pY _ hn.sub
  exact Hd.mp pZ _ hn.sub
 have e:(ns.map Hy).map Int.ofNat=ns:=by
  rw [Hx]
  refine (HC λn hn'=>?_).trans (List.map_id _)
  have:=hn.low n hn'
  show ((n.toNat:Nat):Int)=n
  exact w89 this
 unfold ik at key
 rw [e] at key
 unfold MS at key⊢
 induction hl:SetTable.layClean m ns.toArray with
 |none=>rw [hl] at key;exact nFT key
 |some owner=>
  rw [hl] at key
  simp only [Option.bind_eq_bind,Option.bind_some,Option.pure_def,Hs,beq_iff_eq,G6] at key⊢
  rw [key.1,key.2]
theorem p0 (h:PK w es ns t):es.map (·.1)=ns.toArray:=by
 apply Jo.mp
 rw [Array.toList_map];exact h.vals.fst
theorem dU:(Hf es.size).toArray.filterMap (es[·]?)=es:=by
 apply Jo.mp
 rw [Array.toList_filterMap]
 exact filterMap_getElem?_range es
theorem qa (h:PK w es ns t) (hm:fz (KB wanted-1)=true) (hr:ns.length*5<(KB wanted-1)*3):
  ∃t',t.relaid (es.map (·.1)) wanted=some (t',(Hf es.size).toArray)∧PK w es ns t'∧t'.mask=KB wanted-1:=by
 unfold SetTable.relaid
 rw [p0 h,jZ hm h.small,<-h.size]
 exact ⟨_,rfl,{h with place:=rfl,dum:=rfl,mask:=hm,room:=hr,plain:=h.plain,led:=h.led},rfl⟩
theorem oU (hp:t.place=l.toArray) (hd:t.dummies=#[]) (hl:l∈lh) (hj:j<7) (hn:j∉l):t.slot j=.empty:=by
 have':=Hd.mp (Hd.mp u5 l hl) j (Iu.mpr ⟨HK _,by exact D5 hj⟩)
 unfold pX at this
 have hc:l.contains j=false:=by simpa using hn
 rw [hc] at this
 simp only [I9,Hs,bne_iff_ne,ne_eq,beq_iff_eq] at this
 have hb:(l.toArray[KJ l.toArray j]?==some j)=false:=by simpa using this.1
 unfold SetTable.slot
 dsimp only
 rw [hp,hd,hb]
 rfl
theorem lj (h:PK w es ns t) (hn:0≤n∧n<7) (hm:n∉ns):t.freeSlot n=some (n.toNat,false):=by
 have' hlt:n.toNat<7:=w26 hn
 have hmem:n.toNat∉ns.map Hy:=λq=>by
  obtain ⟨k,hk,e⟩:=G1.mp q
  have:=h.small.low k hk
  exact hm (by rwa [show n=k by exact w87 hn e this])
 have hs:=oU h.place h.dum h.small.sub hlt hmem
 have hb:SetTable.bits n%(t.mask+1)=n.toNat:=by
  unfold SetTable.bits
  have e1:n%(2^64:Int)=n:=Int.emod_eq_of_lt hn.1 (JS hn.2 !3)
  rw [e1]
  rcases cC h.mask with e|e|e<;>(rw [e];exact Nat.mod_eq_of_lt (IY hlt !3))
 unfold SetTable.freeSlot SetTable.probe
 have e2:10*Nn t.mask=(10*Nn t.mask-1)+1:=by unfold Nn;exact DQ
 have e3:(t.probeStart n).j=n.toNat:=hb
 rw [e2,SetTable.probe.go,e3,hs]
 rfl
end
abbrev av (es:Array (Int×Value)) (ep:Nat) (t:KZ):Obj:={cls:=.type "set",dict:=none,data:=.set es ep t,slots:=#[]}
section
variable {prog:Lb} {w:Lw} {A:Kw} {E:Value->Ki->Prop} {s:Ki} {es:Array (Int×Value)} {ns:List Int} {t:KZ} {a:Addr} {ep:Nat} {n:Int}
theorem PK.hmem (h:PK w es ns t) (k:Int):k∈ns↔∃e∈es.toList,(KU prog w).is k e.2=true:=by
 constructor
 ·intro hk
  obtain ⟨i,hi⟩:=List.getElem?_of_mem hk
  obtain ⟨e,he,h1,u,h2⟩:=h.vals.get hi
  exact ⟨e,HV he,by rw [h2];exact Lg _ _ _ _⟩
 rintro ⟨e,he,hp⟩
 obtain ⟨h1,u,h2⟩:=h.vals.mem e he
 rw [h2] at hp
 have:=(KU prog w).inj _ _ _ hp (Lg prog w e.1 u)
 rw [this];exact h1
theorem PK.findNone (h:PK w es ns t):es.toList.findIdx? (λe=>(KU prog w).is k e.2)=none->k∉ns:=λq hk=>by
 obtain ⟨e,he,hp⟩:=(h.hmem (prog:=prog) k).mp hk
 have':=JA.mp q e he
 rw [hp] at this;exact nTF this
theorem PK.findSome (h:PK w es ns t):es.toList.findIdx? (λe=>(KU prog w).is k e.2)=some j->k∈ns:=λq=>by
 obtain ⟨hj,hpj,_⟩:=List.findIdx?_eq_some_iff_getElem.mp q
 exact (h.hmem (prog:=prog) k).mpr ⟨_,JL hj,hpj⟩
theorem jg {l:List Int} (p:Nat) (k:Int):(l.take p++k::l.drop p).map Hy=(l.map Hy).take p++k.toNat::(l.map Hy).drop p:=by
 rw [Hp,Hc,List.map_take,List.map_drop]
theorem jx:∀{l l':List Int},(∀x∈l,0≤x)->(∀x∈l',0≤x)->l.map Hy=l'.map Hy->l=l'
 |[],[],_,_,_=>rfl
 |[],_::_,_,_,e=>by cases e
 |_::_,[],_,_,e=>by cases e
 |x::l,y::l',h,h',e=>by
  rw [Hc,Hc] at e
  injection e with e1 e2
  have:=h x (.head _);have:=h' y (.head _)
  rw [show x=y by exact E0 e1 ‹_› this,jx (λz hz=>h z (.tail _ hz)) (λz hz=>h' z (.tail _ hz)) e2]
theorem vD (h:PK w es ns t) (hn:0≤n∧n<7) (hm:n∉ns) (x:Value) (hx:∃u,x=.int n u):
  ∃es1 t1,layNew t es n x=(es1,t1,false,false)∧t1.plain=true∧t1.led=t.led∧t1.mask=t.mask∧t1.dummies=#[]∧t1.place=((cI n ns).map Hy).toArray∧PO es1.toList (cI n ns)∧(cI n ns).length=ns.length+1∧t1.fits es1.size=true:=by
 have' hmem:n.toNat∉ns.map Hy:=λq=>by
  obtain ⟨k,hk,e⟩:=G1.mp q
  have':=h.small.low k hk
  exact hm (by rwa [show n=k by exact w87 hn e this])
 have' hp:=Hd.mp (Hd.mp u5 _ h.small.sub) n.toNat (Iu.mpr ⟨HK _,by exact w90 hn⟩)
 unfold pX at hp
 have' hc:(ns.map Hy).contains n.toNat=false:=by simpa using hmem
 rw [hc] at hp
 simp only [I9,Hs,bne_iff_ne,ne_eq,beq_iff_eq] at hp
 obtain ⟨_,hins⟩:=hp
 have' hpl:(LU t.place (KJ t.place n.toNat) n.toNat)=((cI n ns).map Hy).toArray:=by
  apply Jo.mp
  rw [SetTable.toList_insertAt,h.place]
  show (ns.map Hy).take _++_::(ns.map Hy).drop _=_
  rw [hins,li hn.1 λk hk=>(h.small.low k hk).1]
 have' hvs:ns.take (KJ t.place n.toNat)++n::ns.drop (KJ t.place n.toNat)=cI n ns:=by
  refine jx (λk hk=>?_) (λk hk=>?_) ?_
  ·rcases G8.mp hk with hk|hk
   ·exact (h.small.low k (IA hk)).1
   rcases G0.mp hk with rfl|hk
   ·exact hn.1
   exact (h.small.low k (List.mem_of_mem_drop hk)).1
  ·rcases et.mp hk with rfl|hk
   ·exact hn.1
   exact (h.small.low k hk).1
  rw [jg,li hn.1 λk hk=>(h.small.low k hk).1,<-hins,h.place]
 have' hlen:(cI n ns).length=ns.length+1:=by
  rw [<-hvs,G7,Ht,JM,List.length_drop]
  exact Dy
 have' hes:PO (LU es (KJ t.place n.toNat) (n,x)).toList (cI n ns):=by
  rw [SetTable.toList_insertAt,<-hvs]
  exact (h.vals.take _).append ⟨rfl,hx,h.vals.drop _⟩
 have' hd:SetTable.has t.dummies n.toNat=false:=by rw [h.dum];rfl
 have' hsz:(LU es (KJ t.place n.toNat) (n,x)).size=ns.length+1:=by
  rw [<-G9,hes.length,hlen]
 have' hfit:({t with place:=((cI n ns).map Hy).toArray,dummies:=t.dummies}:KZ).fits (LU es (KJ t.place n.toNat) (n,x)).size=true:=by
  rw [hsz]
  have' hr:=h.room
  simp only [SetTable.fits,Mo,h.dum,Hs,beq_iff_eq,decide_eq_true_eq,Iv,G6,Jt,hlen]
  exact ⟨trivial,by rcases cC h.mask with e|e|e<;>rw [e] at hr⊢<;>(first|exact DX hr|exact DS hr|exact DV hr)⟩
 refine ⟨LU es (KJ t.place n.toNat) (n,x),{t with place:=((cI n ns).map Hy).toArray,dummies:=t.dummies},?_,h.plain,rfl,rfl,h.dum,rfl,hes,hlen,hfit⟩
 unfold layNew
 rw [lj h hn hm]
 unfold SetTable.put SetTable.orStandIn
 dsimp only
 rw [hd,hpl]
 simp only [Hq,if_false]
 rw [hfit]
 rfl
theorem lk (hs:PQ ns1) (he:PO es1.toList ns1) (hp:t1.plain=true) (hl:w.params.followText "set-order"=true∨t1.led=true) (h0:ns1≠[]):
  ∃t2,relayAll t1 es1 (LV es1.size)=(es1,t2,false)∧PK w es1 ns1 t2∧t2.led=t1.led:=by
 have' hsz:es1.size=ns1.length:=by rw [<-G9];exact he.length
 have hlen:ns1.length≤7:=by
  have':=Hd.mp u6 _ hs.sub
  rw [G6] at this;exact of_decide_eq_true this
 have h1:0<ns1.length:=List.length_pos_iff.mpr h0
 have' hg:=Hd.mp sG ns1.length (Iu.mpr ⟨h1,by exact Em hlen⟩)
 rw [Hs,decide_eq_true_eq] at hg
 have efst:es1.map (·.1)=ns1.toArray:=by
  apply Jo.mp
  rw [Array.toList_map];exact he.fst
 have hl2:=jZ (f:=t1.finger) (mv:=t1.movedTo (KB (LV ns1.length)-1)) (led:=t1.led) (plain:=t1.plain) hg.1 hs
 have' hok:PK w es1 ns1 {mask:=KB (LV ns1.length)-1,place:=(ns1.map Hy).toArray,dummies:=#[],finger:=t1.finger,led:=t1.led,moves:=t1.movedTo (KB (LV ns1.length)-1),plain:=t1.plain}:=
  ⟨he,hs,rfl,rfl,hg.1,hg.2,hp,hl⟩
 refine ⟨_,?_,hok,rfl⟩
 unfold relayAll SetTable.relaid
 rw [efst,hsz,hl2]
 dsimp only
 have e3:(Hf ns1.length).toArray.filterMap (es1[·]?)=es1:=by rw [<-hsz];exact dU
 rw [e3]
 have e4:coversAll (Hf ns1.length).toArray ns1.length=true:=by
  unfold coversAll
  exact List.isPerm_iff.mpr (List.Perm.refl _)
 have e5:=hok.fits
 rw [e4,e5]
 rfl
theorem bu:LD es' t' (av es ep t)=av es' (ep+1) t':=putSet_of es' t' rfl
theorem gp (h:PK w es ns t) (ho:s.heap.get? a=some (av es ep t)) (hn:0≤n∧n<7)
  (hQ:∀b es' ep' t' h',PK w es' (cI n ns) t'->KF a s.heap h'->h'.get? a=some (av es' ep' t')->t'.led=t.led->Q b {s with heap:=h'}):
  Kg (Ku prog w) A (Og a (.int n u) n) Q E s:=by
 have hh:(KU prog w).hash n=n:=dT hn
 unfold Og setAddHashedIn
 refine Km (Ke (KM ho rfl h.fits ?_))
 dsimp only
 rw [byScan_of (knd:=KU prog w) rfl h.bound h.elems]
 simp only [↓reduceIte]
 unfold setAddByScan
 refine Ke ?_
 refine Ke (LH ?_)
 have' scan:=λ(Q':ScanMet->Ki->Prop) hq=>wpAny_setScan_of (A:=A) (E:=E) (adding:=true) (Q:=Q') (Lg prog w n u) ho rfl h.fits h.elems hq
 rw [hh] at scan
 refine Ke (scan _ ?_)
 induction hr:List.findIdx? (λe=>(KU prog w).is n e.2) es.toList with
 |some j=>
  dsimp only
  have hm:=h.findSome hr
  refine Kf (Kf ?_)
  have e:s={s with heap:=s.heap}:=by cases s;rfl
  rw [e]
  exact hQ _ es ep t s.heap (by rw [pW h.small.rise hm];exact h) (Mj a s.heap) ho rfl
 |none=>
  dsimp only
  have hm:=h.findNone hr
  obtain ⟨es1,t1,hlay,p1,p2,p3,p4,p5,p6,p7,p8⟩:=vD h hn hm (.int n u) ⟨u,rfl⟩
  rw [hlay]
  dsimp only
  have hs1:PQ (cI n ns):=h.small.ins hn
  have hsz:es1.size=ns.length+1:=by rw [<-G9,p6.length,p7]
  have hlen:=h.len
  have' hb1:es1.size<scanBound:=by rw [hsz];show _<4096;exact Ek hlen
  refine Ke (Kf ?_)
  rw [RA p1]
  refine Ke ?_
  rw [hashByValue_scannable 8 (x:=.int n u) rfl]
  refine Kf ?_
  simp only [show plainKind (Value.int n u)=true from rfl,if_true]
  refine Ke (MF ho rfl ?_ (ML hb1))
  have' ho1:(s.heap.update a (LD es1 t1)).get? a=some (av es1 (ep+1) t1):=by
   have:=Kn (LD es1 t1) ho (by rw [bu];rfl)
   rwa [bu] at this
  have' hsb1:=Ks s.heap a (LD es1 t1)
  have' hled:w.params.followText "set-order"=true∨t1.led=true:=by rw [p2];exact h.led
  split
  ·obtain ⟨t2,hrel,hok,hl1⟩:=lk (w:=w) hs1 p6 p1 hled (λe=>by rw [e] at p7;exact nNe p7 rfl)
   have hl2:t2.led=t.led:=hl1.trans p2
   rw [hrel]
   refine Ke (Kf ?_)
   refine Ke (MF ho1 rfl ?_ (ML hb1))
   have ho2:((s.heap.update a (LD es1 t1)).update a (LD es1 t2)).get? a=some (av es1 (ep+1+1) t2):=by
    have:=Kn (LD es1 t2) ho1 (by rw [bu];rfl)
    rwa [bu] at this
   exact Kf (Kf (hQ _ es1 _ t2 _ hok (hsb1.trans (Ks _ a _)) ho2 hl2))
  rename_i hf
  refine Kf (Kf (hQ _ es1 _ t1 _ ⟨p6,hs1,p5,p4,by rw [p3];exact h.mask,?_,p1,hled⟩ hsb1 ho1 p2))
  have' hf':¬(t1.fill*5≥t1.mask*3):=by
   simpa [SetTable.tooFull] using hf
  unfold Mo at hf'
  rw [p4,p5] at hf'
  simp only [Iv,G6,Jt] at hf'
  exact Dz hf'
end
theorem b9:Slot "set_iterator" "__next__" "set_iterator.__next__":=
 .of (owner:="set_iterator") (n:="__next__") (by rw [Lk,KR];kernel_rfl) (by decide+kernel) (by decide+kernel) (by decide+kernel)
  (by first|exact .inl (by decide+kernel)|exact .inr (by decide+kernel)) (by rw [Lr];kernel_rfl)
theorem fM:Slot "set_iterator" "__iter__" "set_iterator.__iter__":=
 .of (owner:="set_iterator") (n:="__iter__") (by rw [Lk,KR];kernel_rfl) (by decide+kernel) (by decide+kernel) (by decide+kernel)
  (by first|exact .inl (by decide+kernel)|exact .inr (by decide+kernel)) (by rw [Lr];kernel_rfl)
theorem jh:MP Oa "set_iterator.__iter__"=some KV.«dict_keyiterator.__iter__»:=
 Nf (id':="dict_keyiterator.__iter__") (!0) rfl (by decide+kernel) !0
theorem fm:MP Oa "set_iterator.__next__"=some KV.«set_iterator.__next__»:=MO !0
theorem il:MP Oa "set.__iter__"=some KV.«frozenset.__iter__»:=
 Nf (id':="frozenset.__iter__") (!0) rfl (by decide+kernel) !0
theorem ll:Manifest.owners.lookup (String.ofList ['r','o','t','a','r','e','t','i','_','t','e','s'].reverse)=some Manifest.sig_set_iterator:=!0
theorem fN (a:Value):NN "set_iterator.__next__" ⟨[a],[]⟩:=by
 unfold NN;rw [Nk (id:="set_iterator.__next__") (n:=['_','_','t','x','e','n','_','_']) (o:=['r','o','t','a','r','e','t','i','_','t','e','s']) (!0) ll];kernel_rfl
theorem j0 (a:Value):NN "set_iterator.__iter__" ⟨[a],[]⟩:=by
 unfold NN;rw [Nk (id:="set_iterator.__iter__") (n:=['_','_','r','e','t','i','_','_']) (o:=['r','o','t','a','r','e','t','i','_','t','e','s']) (!0) ll];kernel_rfl
theorem im {α:Type}:∀{l:List α} {i:Nat} {x:α},l[i]?=some x->l.Perm (x::l.eraseIdx i)
 |y::r,0,x,h=>by
  simp only [I8,Hm.injEq] at h
  subst h;exact .refl _
 |y::r,i+1,x,h=>by
  rw [List.getElem?_cons_succ] at h
  rw [List.eraseIdx_cons_succ]
  exact ((im h).cons y).trans (.swap x y _)
theorem sH {α:Type} {next:Nat->Nat}:∀(fuel k:Nat) (left:List α) (out:Array α),left.length≤fuel->(NG next fuel k left out).toList.Perm (out.toList++left):=by
 intro fuel
 induction fuel with
 |zero=>
  intro k left out h
  have:left=[]:=HP.mp (Nat.le_zero.mp h)
  subst this;rw [NG,HR]
 |succ fuel ih=>
  intro k left out h
  rw [NG]
  induction hx:left[next k%left.length]? with
  |none=>
   have:left=[]:=by
    induction left using Lc with
    |nil=>rfl
    |cons y r=>
     have:=Hj.mp hx
     exact absurd (Nat.mod_lt _ (Nat.zero_lt_succ _)) (Hr.mpr this)
   subst this;rw [HR]
  |some x=>
   dsimp only
   have hp:=im hx
   have hl:=hp.length_eq
   rw [Ht] at hl
   refine (ih (k+1) _ _ (Cd h hl)).trans ?_
   rw [JE,IB]
   exact hp.symm.append_left _
theorem oV {α:Type} {next:Nat->Nat} {xs:Array α}:(pickOrder next xs).toList.Perm xs.toList:=by
 have:=sH (next:=next) xs.size 0 xs.toList #[] (HN G9)
 exact this
def bZ (w:Lw) (a:Addr) (ep:Nat) (es:Array (Int×Value)):Array (Int×Value):=
 if w.params.followText "set-order"=true then pickOrder (w.params.setOrder a ep) es else es
theorem eO {w:Lw} {a:Addr} {ep:Nat} {es:Array (Int×Value)}:(bZ w a ep es).toList.Perm es.toList:=by
 unfold bZ
 split
 ·exact oV
 exact .refl _
theorem dH {w:Lw} {a:Addr} {ep:Nat} {es:Array (Int×Value)}:(bZ w a ep es).size=es.size:=by
 rw [<-G9,<-G9];exact eO.length_eq
def cW (w:Lw) (ns:List Int) (i:Nat):Nat:=if w.params.followText "set-order"=true then 0 else ij (ns.map Hy) i
def Qj (h:Heap) (it d:Addr) (sl i n ep:Nat):Prop:=∃o,h.get? it=some o∧o.cls=.type "set_iterator"∧o.data=.fields #[.int sl 0,.int i 0,.ref d,.int n 0,.int ep 0]
section
variable {prog:Lb} {w:Lw} {A:Kw} {E:Value->Ki->Prop} {s:Ki} {es:Array (Int×Value)} {ns:List Int} {t:KZ} {a it:Addr} {ep:Nat} {n:Int}
theorem c6 {Q:Bool->Ki->Prop} (h:Q (w.params.followText "set-order") s):Kg (Ku prog w) A setsByText Q E s:=by
 unfold setsByText
 exact Ke (Lq (Kf h))
theorem ln {Q:Value->Ki->Prop} (h:PK w es ns t) (ho:s.heap.get? a=some (av es ep t))
  (hQ:Q (.ref s.heap.objs.size) {s with heap:=s.heap.push {cls:=.type "set_iterator",data:=.fields #[.int (0:Nat) 0,.int (0:Nat) 0,.ref a,.int (es.size:Nat) 0,.int ep 0]}}):
  Kg (Ku prog w) A (Mz (.ref a)) Q E s:=by
 have hT:s.TypeIs (.ref a) "set":=⟨_,ho,rfl⟩
 refine NA hT PySem.F.slot_set_iter (KC PySem.F.slot_set_iter hT il ?_ (PySem.F.args_set_iter_1 _))
 unfold KV.«frozenset.__iter__» Builtin.Frozenset.slot0 slotArgs
 simp only [List.isEmpty_nil,Ka,Hq,↓reduceIte,bind_assoc,Jt,bne_self_eq_false]
 unfold Lu Builtin.Frozenset.sizeOf
 refine Ke (Kf ?_)
 try dsimp only
 refine Ke (Kf ?_)
 refine Ke (Ke (Nj ho rfl h.fits (Kf ?_)))
 unfold setDrawn
 refine Ke (Ke (KM ho rfl h.fits ?_))
 refine Ke (c6 ?_)
 refine Kf ?_
 have e:((!w.params.followText "set-order")&&(!t.plain&&decide (es.size>1)))=false:=by rw [h.plain];simp
 rw [Rz (λq=>by
  have q':((!w.params.followText "set-order")&&(!t.plain&&decide (es.size>1)))=true:=q
  rw [e] at q';exact nFT q')]
 refine Ke (Kf ?_)
 refine Ke (Nz ho rfl h.fits ?_)
 refine Ke (m:=newFields _ _) (Kx (Kf ⟨_,rfl,"set_iterator",_,⟨_,Kk _ rfl,rfl⟩,b9.lookup,?_⟩))
 exact hQ
theorem fo {Q:Array (Int×Value)->Ki->Prop} (h:PK w es ns t) (ho:s.heap.get? a=some (av es ep t)) (hb:w.params.followText "set-order"=true) (hQ:Q (pickOrder (w.params.setOrder a ep) es) s):
  Kg (Ku prog w) A (setWalk a) Q E s:=by
 unfold setWalk
 refine Ke (KM ho rfl h.fits ?_)
 refine Ke (c6 ?_)
 rw [RA hb]
 exact Ke (Lq (Kf hQ))
theorem gH {i:Nat} {Q:Option (Value×Nat)->Ki->Prop} (h:PK w es ns t) (ho:s.heap.get? a=some (av es ep t)) (hi:i≤ns.length)
  (hQ:Q ((bZ w a ep es)[i]?.map λe=>(e.2,cW w ns (i+1))) s):Kg (Ku prog w) A (setNext a (cW w ns i) i ep) Q E s:=by
 unfold setNext
 refine Ke (KM ho rfl h.fits ?_)
 refine Ke (c6 ?_)
 unfold cW bZ at*
 by_cases hb:w.params.followText "set-order"=true
 ·rw [RA hb] at*
  rw [Rz (by simp)]
  refine Ke (fo h ho hb ?_)
  refine Kf ?_
  rw [RA hb] at hQ
  simpa only [RA hb] using hQ
 rw [Rz hb]
 have e:(!t.plain&&decide (es.size>1))=false:=by rw [h.plain];simp
 rw [Rz (λq=>by
  have q':(!t.plain&&decide (es.size>1))=true:=q
  rw [e] at q';exact nFT q')]
 have hl:t.led=true:=h.led.resolve_left hb
 refine Ke ?_
 show Kg _ _ (if (!t.led&&!es.isEmpty)=true then Mn "set:maker-not-led" else pure ()) _ _ _
 rw [hl]
 refine Kf ?_
 have hf:=Hd.mp (Hd.mp vA _ h.small.sub) i (Iu.mpr ⟨HK _,by rw [G6];exact Du hi⟩)
 have hbe:KJ t.place (ij (ns.map Hy) i)=i:=by rw [h.place];exact eq_of_beq hf
 rw [Rz hb,hbe]
 refine Kf ?_
 rw [Rz hb] at hQ
 rw [Rz hb] at hQ
 induction he:es[i]? with
 |none=>rw [he] at hQ;exact hQ
 |some x=>
  rw [he] at hQ
  have hlt:i<ns.length:=by rw [<-h.size];exact (HF.mp he).1
  have hpl:t.place[i]?=some ((ns.map Hy).getD i 0):=by
   rw [h.place,List.getElem?_toArray,Jw]
   have:i<(ns.map Hy).length:=by rw [G6];exact hlt
   rw [G3 this];rfl
  rw [hpl]
  exact hQ
theorem lp {i:Nat} {e:Int×Value} {Q:Option Value->Ki->Prop} (h:PK w es ns t) (ho:s.heap.get? a=some (av es ep t)) (hit:Qj s.heap it a (cW w ns i) i es.size ep) (hx:(bZ w a ep es)[i]?=some e)
  (hQ:∀h',Qj h' it a (cW w ns (i+1)) (i+1) es.size ep->KF it s.heap h'->Q (some e.2) {s with heap:=h'}):
  Kg (Ku prog w) A (Mm (.ref it)) Q E s:=by
 obtain ⟨o,hoi,hc,hd⟩:=id hit
 have hT:s.TypeIs (.ref it) "set_iterator":=⟨o,hoi,hc⟩
 have hi:i<ns.length:=by
  have':=(HF.mp hx).1
  rw [dH,h.size] at this;exact this
 unfold Mm
 refine Ke (MN (KD (name:=Kp "__next__") hT b9
  (KC b9 hT fm ?_ (fN _))))
 unfold KV.«set_iterator.__next__»
 refine Ke (Kf ?_)
 refine Ke (Nd hoi hd ?_)
 dsimp only
 refine Ke (Nj ho rfl h.fits ?_)
 rw [Rz (by simp)]
 refine Ke (m:=setNext _ _ _ _) (gH (i:=i) h ho (Hk hi) ?_)
 have hx':(bZ w a ((ep:Int)).toNat es)[i]?=some e:=hx
 rw [hx']
 dsimp only [JU]
 refine Ke (Li hoi hd (by simp) ?_)
 have' ho1:=Kn (NR (·.setIfInBounds 0 (Lx ((cW w ns (i+1):Nat):Int)))) hoi (KQ (KN hd _))
 have' hd1:=KN hd (·.setIfInBounds 0 (Lx ((cW w ns (i+1):Nat):Int)))
 refine Ke (Li ho1 hd1 (by simp) ?_)
 have ho2:=Kn (NR (·.setIfInBounds 1 (Lx ((i:Int)+1)))) ho1 (KQ (KN hd1 _))
 have hd2:=KN hd1 (·.setIfInBounds 1 (Lx ((i:Int)+1)))
 refine Kf ⟨_,rfl,Kf (hQ _ ⟨_,ho2,((LY ..).trans (LY ..)).trans hc,?_⟩ ((Ks ..).trans (Ks ..)))⟩
 rw [hd2]
 simp [Lx]
theorem n7 {Q:Option Value->Ki->Prop} (hh:A.handled=none) (h:PK w es ns t) (ho:s.heap.get? a=some (av es ep t)) (hit:Qj s.heap it a (cW w ns es.size) es.size es.size ep)
  (hQ:∀h',Nw it s.heap h'->Q none {s with heap:=h'}):
  Kg (Ku prog w) A (Mm (.ref it)) Q E s:=by
 obtain ⟨o,hoi,hc,hd⟩:=id hit
 have hT:s.TypeIs (.ref it) "set_iterator":=⟨o,hoi,hc⟩
 unfold Mm
 refine Ke (MN (KD (name:=Kp "__next__") hT b9
  (KC b9 hT fm ?_ (fN _))))
 unfold KV.«set_iterator.__next__»
 refine Ke (Kf ?_)
 refine Ke (Nd hoi hd ?_)
 dsimp only
 refine Ke (Nj ho rfl h.fits ?_)
 rw [Rz (by simp)]
 refine Ke (m:=setNext _ _ _ _) (gH (i:=es.size) h ho (HN h.size) ?_)
 have hx:(bZ w a ((ep:Int)).toNat es)[es.size]?=none:=Jd (HN dH)
 rw [hx]
 dsimp only [Option.map_none]
 refine Ke (Li hoi hd (by simp) ?_)
 refine Ke ?_
 simp only [OB,newTuple]
 refine Ke (Kx ?_ (by size_fits))
 refine Ke (m:=Mg _ _) (Ll (a:=Kr) (by first|rfl|(simp only [Mg];rfl)) ?_)
 refine Kx ?_ (by size_fits)
 unfold NF
 refine Ke (N3 ?_)
 rw [show A.in1.handled=none from hh]
 refine Ke (Kf (ME ?_))
 refine Ke (LQ (T:="StopIteration") (b:=true) ⟨_,Kk _ rfl,rfl⟩ NZ ?_)
 exact Kf (hQ _ (((Ks ..).extBut.push _).push _))
theorem lq {Q:Value->Ki->Prop} (hT:s.TypeIs (.ref it) "set_iterator") (hQ:Q (.ref it) s):Kg (Ku prog w) A (Mz (.ref it)) Q E s:=by
 refine NA hT fM (KC fM hT jh ?_ (j0 _))
 show Kg _ _ (ret (.ref it)) _ _ s
 exact Kf ⟨_,rfl,"set_iterator",_,hT,b9.lookup,hQ⟩
theorem Qj.typeIs {sl i n:Nat} (h:Qj s.heap it a sl i n ep):s.TypeIs (.ref it) "set_iterator":=let ⟨o,ho,hc,_⟩:=h;⟨o,ho,hc⟩
theorem Walks.ofSet (hh:A.handled=none) (h:PK w es ns t) (I:Addr) (hne:a≠I):
  Walks prog w A I [I,a] [I] es.size (λi v=>∃e,(bZ w a ep es)[i]?=some e∧v=e.2) (λi hp=>Qj hp I a (cW w ns i) i es.size ep∧hp.get? a=some (av es ep t)) where
 sub:=λb hb=>by simp at hb;simp [hb]
 frame:=λ_ _ _ st hk=>⟨let ⟨o,ho,r⟩:=st.1;⟨o,hk I (by simp) o ho,r⟩,hk a (by simp) _ st.2⟩
 item:=λi s Q E hi st hQ=>by
  have' hi':i<(bZ w a ep es).size:=by rw [dH];exact hi
  refine lp h st.2 st.1 (JB hi') λh' hit hs=>?_
  exact hQ _ h' s.toks ⟨_,JB hi',rfl⟩ ⟨hit,(hs.2 a hne).trans st.2⟩ λb o hb e=>(hs.2 b (λq=>hb (by simp [q]))).trans e
 done:=λs Q E st hQ=>n7 hh h st.2 st.1 λh' hx=>hQ h' s.toks λb o hb e=>hx b o (λq=>hb (by simp [q])) e
 self:=λi s Q E st hQ=>lq st.1.typeIs hQ
theorem qb {Q:Bool->Ki->Prop} (hT:s.TypeIs (.ref a) "set") (h:Q false s):Kg (Ku prog w) A (Lm (.ref a)) Q E s:=by
 unfold Lm
 refine Ke (MX hT PySem.F.slot_set_len.lookup ?_)
 generalize hid:("set.__len__":String)=id0
 wp_delta
 rw [show splitId id0=some ("set","__len__") from by subst hid;decide+kernel]
 subst hid
 refine Ke (LQ (T:="set") (b:=true) hT (by rw [Lr];kernel_rfl) ?_)
 refine wpAny_ite_split (λhab=>absurd hab !3) (λ_=>?_)
 refine wpAny_ite_split (λ_=>?_) (λhab=>absurd (by decide+kernel) hab)
 refine Ke (Mb hT ?_)
 exact Kf h
theorem sI (h:PK w es ns t):KdlSrc prog w "set" a a es.size (λi v=>∃e,(bZ w a ep es)[i]?=some e∧v=e.2) (λhp=>hp.get? a=some (av es ep t)) where
 type:=λ_ hm=>⟨_,hm,rfl⟩
 there:=λ_ hm=>⟨Kj hm,Kj hm⟩
 keep:=λ_ _ hm hk=>hk a (.inl rfl) _ hm
 notList:=!3
 notTuple:=!3
 hint:=λ_ _ _ _ hm hq=>qb ⟨_,hm,rfl⟩ hq
 iter:=λA s hh hm=>⟨_,_,(λ_ _ hq=>ln h hm hq),Walks.ofSet hh h _ (Hb (Kj hm)),⟨_,Kk _ rfl,rfl,by simp [cW,ij]⟩,Kh _ hm⟩
end
def aW (l ns:List Int):List Int:=l.foldl (λns x=>cI x ns) ns
theorem bw {l ns:List Int}:k∈aW l ns↔k∈l∨k∈ns:=by
 induction l generalizing ns with
 |nil=>exact ⟨.inr,λh=>h.elim (λz=>nomatch z) id⟩
 |cons x r ih=>
  refine (ih (ns:=cI x ns)).trans ?_
  rw [et,G0]
  exact or_left_comm.trans or_assoc.symm
theorem PQ.all {l ns:List Int} (h:PQ ns) (hl:∀x∈l,0≤x∧x<7):PQ (aW l ns):=by
 induction l generalizing ns with
 |nil=>exact h
 |cons x r ih=>exact ih (ns:=cI x ns) (h.ins (hl x (.head _))) λy hy=>hl y (.tail _ hy)
theorem fO {l l':List Int} (hp:l.Pairwise (·<·)) (hp':l'.Pairwise (·<·)) (h:∀k,k∈l↔k∈l'):l=l':=by
 induction l generalizing l' with
 |nil=>induction l' using Lc with
  |nil=>rfl
  |cons y r=>exact nomatch (h y).mpr (.head _)
 |cons x l ih=>induction l' using Lc with
  |nil=>exact nomatch (h x).mp (.head _)
  |cons y l'=>
   have hr:=Ih.mp hp
   have hr':=Ih.mp hp'
   have e:x=y:=by
    rcases G0.mp ((h x).mp (.head _)) with e|h1
    ·exact e
    rcases G0.mp ((h y).mpr (.head _)) with e|h2
    ·exact e.symm
    exact EV (hr.1 y h2) (hr'.1 x h1)
   subst e
   refine congrArg _ (ih hr.2 hr'.2 λk=>⟨λhk=>?_,λhk=>?_⟩)
   ·exact (G0.mp ((h k).mp (.tail _ hk))).resolve_left (Int.ne_of_gt (hr.1 k hk))
   exact (G0.mp ((h k).mpr (.tail _ hk))).resolve_left (Int.ne_of_gt (hr'.1 k hk))
theorem PK.fresh {w:Lw} {led:Bool} (hl:w.params.followText "set-order"=true∨led=true):PK w #[] [] (.fresh 0 0 led):=
 ⟨trivial,⟨.nil,λ_ h=>by cases h⟩,rfl,rfl,rfl,by show 0*5<7*3;decide,rfl,hl⟩
section
variable {prog:Lb} {w:Lw} {A:Kw} {E:Value->Ki->Prop} {s:Ki} {es:Array (Int×Value)} {ns:List Int} {t:KZ} {a it:Addr} {ep:Nat} {n:Int}
theorem mK {I S:Addr} {fp:List Addr} {n:Nat} {P:Nat->Value->Prop} {St:Nat->Heap->Prop} {R:Result->Ki->Prop} (W:Walks prog w A.in1 I fp [I] n P St) (hSf:S∉fp) (vals:List Int) (hn:vals.length=n)
  (hval:∀i v,P i v->∃x u,vals[i]?=some x∧v=.int x u) (hs:∀x∈vals,0≤x∧x<7):
  ∀(k i:Nat) (s:Ki) (es:Array (Int×Value)) (ns:List Int) (t:KZ) (ep:Nat),n-i=k->i≤n->St i s.heap->PK w es ns t->s.heap.get? S=some (av es ep t)->
   (∀h' tk es' ep' t',PK w es' (aW (vals.drop i) ns) t'->h'.get? S=some (av es' ep' t')->(∀b o,b≠S->b≠I->s.heap.get? b=some o->h'.get? b=some o)->R (.ok (.ret .none)) {s with heap:=h',toks:=tk})->
   Ly (Ku prog w) A (.builtin "set.update.loop" ⟨[.ref S,.ref I],[]⟩) R s:=by
 have' hSI:S≠I:=λe=>hSf (W.sub S (by simp [e]))
 intro k
 induction k with
 |zero=>
  intro i s es ns t ep hk hi hst hok ho hR
  have hin:i=n:=w59 hk hi
  subst hin
  refine KG PyProof.Rows.F.entry_set_update_loop ?_
  rw [KL PyProof.Rows.F.plain_set_update_loop _]
  show Kg _ A.in1 (Mm (.ref I)>>=_) _ _ s
  refine Ke (W.done s _ _ hst λh' tk hm=>?_)
  show Kg _ A.in1 (ret Kr) _ _ _
  refine Kf (hR h' tk es ep t ?_ (hm S _ (by simpa using hSI) ho) λb o _ hb e=>hm b o (by simpa using hb) e)
  rw [Je (HN hn)];exact hok
 |succ k ih=>
  intro i s es ns t ep hk hi hst hok ho hR
  have' hlt:i<n:=w28 hk
  refine KG PyProof.Rows.F.entry_set_update_loop ?_
  rw [KL PyProof.Rows.F.plain_set_update_loop _]
  show Kg _ A.in1 (Mm (.ref I)>>=_) _ _ s
  refine Ke (W.item i s _ _ hlt hst λv h' tk hP hst' hm=>?_)
  obtain ⟨x,u,hx,rfl⟩:=hval i v hP
  have hxs:=hs x (HV hx)
  have ho':h'.get? S=some (av es ep t):=hm S _ (by simpa using hSI) ho
  show Kg _ _ (holding [Value.int x u] (setAdd S (.int x u))>>=_) _ _ _
  refine Ke (Km ?_)
  unfold setAdd
  refine Km ?_
  refine Ke ((KU prog w).pyHash (k:=x) (Lg _ _ _ _) ?_)
  rw [show (KU prog w).hash x=x from dT hxs]
  refine gp (s:={s with heap:=h',toks:=tk+1}) hok ho' hxs λb es1 ep1 t1 h1 hok1 hsb ho1 _=>?_
  refine Kf ⟨LB PyProof.Rows.F.plain_set_update_loop _,ih (i+1) {s with heap:=h1,toks:=tk+1} es1 _ t1 ep1 (w27 hk) hlt ?_ hok1 ho1 λh2 tk2 es2 ep2 t2 hok2 ho2 hk2=>?_⟩
  ·refine W.frame (i+1) h' h1 hst' λb hb o e=>(hsb.2 b (λq=>hSf (q▸hb))).trans e
  refine hR h2 tk2 es2 ep2 t2 ?_ ho2 λb o hbS hbI e=>hk2 b o hbS hbI ((hsb.2 b hbS).trans (hm b o (by simpa using hbI) e))
  rw [Iy (hn▸hlt)]
  have:vals[i]'(hn▸hlt)=x:=by
   have':=G3 (hn▸hlt:i<vals.length)
   rw [this] at hx;exact Hm.inj hx
  rw [this];exact hok2
theorem oW (h:Q (.ref s.heap.objs.size) {s with heap:=s.heap.push (av #[] 0 (.fresh 0 0 (!w.params.followText "set-order")))}):
  Ly (Ku prog w) A (.call (.builtin "set.__new__") ⟨[.type "set",x],[]⟩) (wants Q E) s:=by
 refine Mt ?_
 show Kg _ A.in1 (do NM "set.__new__" ⟨[.type "set",x],[]⟩;again (.builtin "set.__new__" ⟨[.type "set",x],[]⟩)) _ _ s
 refine Ke (Ll (PySem.F.newCall_set_1 x) (Kf ⟨LB PySem.F.plain_set_new _,KG PySem.F.entry_set_new ?_⟩))
 rw [KL PySem.F.plain_set_new _]
 unfold KV.«set.__new__» Builtin.Frozenset.newClass
 have hsub:=ND
 obtain ⟨hp,gg,d,tk,os⟩:=s
 dsimp only
 wp_walk
 refine Lq (Kf ?_)
 dsimp only
 simp only [newObj]
 exact Ke (MH (Kf (Kf h)))
theorem j8:w.params.followText "set-order"=true∨(!w.params.followText "set-order")=true:=by cases w.params.followText "set-order"<;>simp
set_option maxHeartbeats 3200000 in
theorem io (hh:A.handled=none) (hl:s.heap.IsList l items) (hi:IntsAre items.toList vals) (hs:∀x∈vals,0≤x∧x<7)
  (hQ:∀h' tk es ep t,PK w es (aW vals []) t->h'.get? s.heap.objs.size=some (av es ep t)->(∀b o,s.heap.get? b=some o->h'.get? b=some o)->Q (.ref s.heap.objs.size) {s with heap:=h',toks:=tk}):
  Kg (Ku prog w) A (call (.type "set") [.ref l]) Q E s:=by
 obtain ⟨c,tl,hmro⟩:=PySem.F.called_set.mro
 have hmade:=PySem.F.called_set.made
 have hsub:=PySem.F.called_set.sub
 refine LK (Mt ?_)
 show Kg _ _ (callAny (.type "set") _) _ _ _
 refine Kf ⟨Mp _ (by decide+kernel),KG PySem.F.entry_type_call ?_⟩
 rw [Around.under_plain (weight_type_call_type "set" [.ref l] []) rfl]
 have h1:=PySem.F.called_set.notType
 have h2:=PySem.F.called_set.canCreate
 have hct:=PySem.F.typeCall_set_1 (.ref l)
 repeat (any_goals (first|assumption|wp_step))
 refine KO (oW (x:=.ref l) (E:=E) (Q:=λobj OG=>obj=.ref s.heap.objs.size∧OG={s with heap:=s.heap.push (av #[] 0 (.fresh 0 0 (!w.params.followText "set-order")))}) ⟨rfl,rfl⟩) λr OG hr=>?_
 induction r with
 |error e=>exact hr
 |ok fl=>
  induction fl with
  |ret obj=>
   obtain ⟨rfl,rfl⟩:=hr
   have hok:PK w #[] [] (.fresh 0 0 (!w.params.followText "set-order")):=.fresh j8
   generalize (!w.params.followText "set-order")=led at*
   have hS:(s.heap.push (av #[] 0 (.fresh 0 0 led))).get? s.heap.objs.size=some (av #[] 0 (.fresh 0 0 led)):=Kk _ rfl
   have hT:Mv {s with heap:=s.heap.push (av #[] 0 (.fresh 0 0 led))} (.ref s.heap.objs.size) "set":=⟨_,hS,rfl⟩
   have hli:=PySem.F.called_set.init.lookup
   have' hbi:=PySem.F.called_set.init.bind (.ref s.heap.objs.size)
   repeat (any_goals (first|assumption|wp_step))
   refine KO (LP (R:=wants (λr OJ=>r=.none∧∃h' tk es ep t,OJ={s with heap:=h',toks:=tk}∧PK w es (aW vals []) t∧h'.get? s.heap.objs.size=some (av es ep t)∧
     (∀b o,s.heap.get? b=some o->h'.get? b=some o)) E) PySem.F.called_set.init.plain PySem.F.entry_set_init (check_set_init_1 hT ?_)) λO5 OJ OX=>?_
   ·refine sD λQ1 E1 hQ1 hE1=>?_
    obtain ⟨ol,hol,hcl,nl,hdl⟩:=hl
    obtain ⟨ocls,odict,odata,oslots⟩:=ol
    simp only at hcl hdl
    subst hcl;subst hdl
    have hol':(s.heap.push (av #[] 0 (.fresh 0 0 led))).get? l=some {cls:=.type "list",dict:=odict,data:=.seq items nl,slots:=oslots}:=Kh _ hol
    have hsls:=PySem.F.sub_list_set
    have hslf:=PySem.F.sub_list_frozenset
    have' hne:(MD "list"==MD "dict")=false:=!3
    have hl1:(s.heap.push (av #[] 0 (.fresh 0 0 led))).IsList l items:=⟨_,hol',rfl,nl,rfl⟩
    unfold KV.«set.__init__» noKeywords LS
    generalize hPI:Mz=PI
    wp_walk
    subst hPI
    refine MG (s:={s with heap:=s.heap.push (av #[] 0 (.fresh 0 0 led))}) hl1 ?_
    refine Ke (Na ?_)
    have hlS:l<s.heap.objs.size:=Kj hol
    have hneI:l≠(s.heap.push (av #[] 0 (.fresh 0 0 led))).objs.size:=by rw [Kv];exact Hb (Hz hlS)
    have hSf:s.heap.objs.size∉[(s.heap.push (av #[] 0 (.fresh 0 0 led))).objs.size,l]:=by
     rw [Kv];simp only [G0,H8,or_false,not_or]
     exact ⟨Hb (HI _),HE hlS⟩
    have' hlen:vals.length=items.size:=by rw [<-G9];exact (IntsAre.length hi).symm
    refine mK (Walks.list (prog:=prog) (A:=A.in1.in1.in1) (by simpa using hh) _ l hneI items) hSf vals hlen (λi v hv=>?_) hs (items.size-0) 0 _ #[] [] (.fresh 0 0 led) 0 rfl (HK _) ?_ hok ?_ λh' tk es' ep' t' hok' ho' hk=>?_
    ·have' hlt:i<vals.length:=by rw [hlen];exact (HF.mp hv).1
     obtain ⟨u,hu⟩:=PyProof.Rows.IntsAre.int_at hi i v (by rw [He];exact hv)
     refine ⟨vals[i],u,G3 hlt,?_⟩
     rw [hu,Jw,G3 hlt];rfl
    ·exact ⟨⟨_,Kk _ rfl,rfl,rfl⟩,hl1.push _⟩
    ·exact Kh _ hS
    show Kg _ _ _ _ _ _
    refine Kf ?_
    show Kg _ _ (ret Kr) _ _ _
    refine Kf (hQ1 _ _ ⟨rfl,h',tk,es',ep',t',rfl,hok',ho',λb o e=>?_⟩)
    have hb:=Kj e
    refine hk b o (Hb hb) (by rw [Kv];exact Hb (Hz hb)) (Kh _ (Kh _ e))
   induction O5 with
   |error e=>exact OX
   |ok O6=>
    induction O6 with
    |ret r=>
     obtain ⟨rfl,h',tk,es,ep,t,rfl,hok',ho',hk'⟩:=OX
     repeat (any_goals (first|assumption|wp_step))
     exact hQ _ _ _ _ _ hok' ho' hk'
    |_=>exact OX.elim
  |_=>exact hr.elim
end
section
variable {prog:Lb} {w:Lw} {A:Kw} {E:Value->Ki->Prop} {s:Ki} {es:Array (Int×Value)} {ns:List Int} {t:KZ} {a it:Addr} {ep:Nat} {n:Int}
theorem gI (h:PQ l):aW l []=l:=by
 refine fO (PQ.all (l:=l) (ns:=[]) ⟨.nil,λ_ h=>by cases h⟩ h.low).rise h.rise λk=>?_
 rw [bw];simp
theorem lr (hs:PQ ns) (h:∀x∈l,0≤x∧x<7) (p:l'.Perm l):aW l' ns=aW l ns:=by
 refine fO (PQ.all hs λx hx=>h x (p.mem_iff.mp hx)).rise (PQ.all hs h).rise λk=>?_
 rw [bw,bw,p.mem_iff]
theorem mL (h:PK w es ns t) (ho:s.heap.get? S=some (av es ep t)) (hm:0<m∧m≤7)
  (hQ:∀ep' t' h',PK w es ns t'->KF S s.heap h'->h'.get? S=some (av es ep' t')->(ns.length+m)*5<t'.mask*3->Q () {s with heap:=h'}):
  Kg (Ku prog w) A (setRoomFor S m) Q E s:=by
 have hf:t.fill=ns.length:=by unfold Mo;rw [h.dum,h.place];simp
 have hlen:=h.len
 unfold setRoomFor
 refine Ke (KM ho rfl h.fits ?_)
 dsimp only
 unfold SetTable.roomFor
 by_cases c:(t.fill+m)*5≥t.mask*3
 ·rw [RA c]
  dsimp only
  have hp:t.place.size=ns.length:=by rw [h.place];simp
  have' hr:=Hd.mp (Hd.mp vB m (Iu.mpr ⟨hm.1,by exact DL hm⟩)) ns.length (Iu.mpr ⟨HK _,by exact El hlen⟩)
  rw [Hs,decide_eq_true_eq,Nat.add_comm m] at hr
  obtain ⟨hr1,hr2⟩:=hr
  rw [hp]
  obtain ⟨t',hl,hok,hmk⟩:=qa h (wanted:=(ns.length+m)*2) hr1 (Bv hr2)
  unfold setRelay
  refine Ke (KM ho rfl h.fits ?_)
  dsimp only
  have hsz:¬KB ((ns.length+m)*2)>Le:=by
   rw [MJ]
   rcases cC hr1 with e|e|e<;>(first|exact D3 e|exact D1 e|exact D2 e)
  rw [Rz hsz]
  refine Ke ?_
  show Kg _ _ (do
   let some (t,order):=t.relaid (es.map (·.1)) ((ns.length+m)*2)|Mn "internal:set-table-without-room"
   let es':=order.filterMap (es[·]?)
   if es'.size !=es.size then Mn "internal:set-table-lost-an-element"
   pure (es',t)) _ _ _
  rw [hl]
  dsimp only
  rw [dU]
  simp only [bne_self_eq_false,Hq,if_false]
  refine Kf ?_
  refine MF ho rfl ?_ (ML h.bound)
  have ho1:(s.heap.update S (LD es t')).get? S=some (av es (ep+1) t'):=by
   have:=Kn (LD es t') ho (by rw [bu];rfl)
   rwa [bu] at this
  refine hQ _ t' _ hok (Ks _ _ _) ho1 ?_
  rw [hmk];exact hr2
 rw [Rz c]
 have e:s={s with heap:=s.heap}:=by cases s;rfl
 refine Kf ?_
 rw [e]
 exact hQ ep t s.heap h (Mj _ _) ho (by rw [hf] at c;exact Cu c)
theorem mM {S O:Addr} {eo:Array (Int×Value)} {no:List Int} {to:KZ} {epo:Nat} {f:Int×Value->PUnit->Sem (ForInStep PUnit)} {Q:Unit->Ki->Prop} (hne:S≠O) (hno:∀x∈no,0≤x∧x<7)
  (hf:∀(x:Int) (u:Tok) (s':Ki) (Q':ForInStep PUnit->Ki->Prop),s'.heap.get? O=some (av eo epo to)->
   Kg (Ku prog w) A (Og S (.int x u) x) (λ_ s''=>s''.heap.get? O=some (av eo epo to)∧Q' (.yield ⟨⟩) s'') E s'->Kg (Ku prog w) A (f (x,.int x u) ⟨⟩) Q' E s'):
  ∀(l:List (Int×Value)) (vals:List Int) (s:Ki) (es:Array (Int×Value)) (ns:List Int) (t:KZ) (ep:Nat),PO l vals->(∀x∈vals,0≤x∧x<7)->PK w es ns t->s.heap.get? S=some (av es ep t)->s.heap.get? O=some (av eo epo to)->
   (∀es' ep' t' h',PK w es' (aW vals ns) t'->KF S s.heap h'->h'.get? S=some (av es' ep' t')->Q () {s with heap:=h'})->
   Kg (Ku prog w) A (forIn l PUnit.unit f) (λ_ s'=>Q () s') E s:=by
 intro l
 induction l with
 |nil=>
  intro vals s es ns t ep hl _ hok ho _ hQ
  induction vals using Lc with
  |cons _ _=>exact hl.elim
  |nil=>
   rw [List.forIn_nil]
   have e:s={s with heap:=s.heap}:=by cases s;rfl
   refine Kf ?_
   rw [e]
   exact hQ es ep t s.heap hok (Mj _ _) ho
 |cons e l ih=>
  intro vals s es ns t ep hl hs hok ho ho2 hQ
  induction vals using Lc with
  |nil=>exact hl.elim
  |cons x vals=>
   obtain ⟨h1,⟨u,h2⟩,h3⟩:=hl
   obtain ⟨e1,e2⟩:=e
   simp only at h1 h2
   subst h1;subst h2
   rw [Ju]
   refine Ke (hf e1 u s _ ho2 (gp hok ho (hs _ (.head _)) λb es1 ep1 t1 h1 hok1 hsb ho1 _=>?_))
   have' ho2':h1.get? O=some (av eo epo to):=(hsb.2 O (Ne.symm hne)).trans ho2
   refine ⟨ho2',?_⟩
   refine ih vals {s with heap:=h1} es1 (cI e1 ns) t1 ep1 h3 (λy hy=>hs y (.tail _ hy)) hok1 ho1 ho2' λes2 ep2 t2 h2 hok2 hsb2 hg2=>?_
   exact hQ es2 ep2 t2 h2 hok2 (hsb.trans hsb2) hg2
end
section
variable {prog:Lb} {w:Lw} {A:Kw} {E:Value->Ki->Prop} {s:Ki} {es:Array (Int×Value)} {ns:List Int} {t:KZ} {a it:Addr} {ep:Nat} {n:Int}
theorem eu (p:l'.Perm l):∀{ns:List Int},PO l ns->∃ns',ns'.Perm ns∧PO l' ns':=by
 intro ns h
 refine ⟨l'.map (·.1),?_,?_⟩
 ·rw [<-h.fst];exact p.map _
 have hm:=h.mem
 have:∀(l':List (Int×Value)),(∀e∈l',∃t,e.2=.int e.1 t)->PO l' (l'.map (·.1)):=by
  intro l'
  induction l' with
  |nil=>intro _;trivial
  |cons e r ih=>intro h;exact ⟨rfl,h e (.head _),ih λx hx=>h x (.tail _ hx)⟩
 exact this l' λe he=>(hm e (p.mem_iff.mp he)).2
theorem ka (h:PK w eo no to) (ho:s.heap.get? O=some (av eo epo to)) (hQ:Q (bZ w O epo eo) s):
  Kg (Ku prog w) A (setWalkUnseen O others filled) Q E s:=by
 unfold setWalkUnseen
 refine Ke (KM ho rfl h.fits ?_)
 refine Ke (c6 ?_)
 have c:(w.params.followText "set-order"||(to.led&&to.plain)||decide (eo.size≤1))=true:=by
  rcases h.led with q|q
  ·rw [q];simp
  rw [q,h.plain];simp
 rw [RA c]
 unfold bZ at hQ
 by_cases hb:w.params.followText "set-order"=true
 ·rw [RA hb] at hQ
  exact fo h ho hb hQ
 rw [Rz hb] at hQ
 unfold setWalk
 refine Ke (KM ho rfl h.fits ?_)
 refine Ke (c6 ?_)
 rw [Rz hb]
 have e:(!to.plain&&decide (eo.size>1))=false:=by rw [h.plain];simp
 rw [Rz (λq=>by
  have q':(!to.plain&&decide (eo.size>1))=true:=q
  rw [e] at q';exact nFT q')]
 have hl:to.led=true:=h.led.resolve_left hb
 refine Ke ?_
 show Kg _ _ (if (!to.led&&decide (eo.size>1))=true then Mn "set:maker-not-led" else pure ()) _ _ _
 rw [hl]
 exact Kf (Kf hQ)
theorem gJ (hne:S≠O) (h:PK w es ns t) (ho:s.heap.get? S=some (av es ep t)) (h2:PK w eo no to) (ho2:s.heap.get? O=some (av eo epo to))
  (hE:∀(s':Ki) (Q':Unit->Ki->Prop),s'.heap.get? O=some (av eo epo to)->Q' () s'->Kg (Ku prog w) A each Q' E s')
  (hQ:∀es' ep' t' h',PK w es' (aW no ns) t'->KF S s.heap h'->h'.get? S=some (av es' ep' t')->Q () {s with heap:=h'}):
  Kg (Ku prog w) A (setMerge S O each) Q E s:=by
 have es0:s={s with heap:=s.heap}:=by cases s;rfl
 unfold setMerge
 rw [Rz (by simpa using hne)]
 refine Ke (KM ho2 rfl h2.fits ?_)
 dsimp only
 by_cases c:eo.isEmpty=true
 ·rw [RA c]
  have hno:no=[]:=by
   have:=h2.size
   have' e:eo.size=0:=by simpa using c
   rw [e] at this
   exact HP.mp this.symm
  subst hno
  refine Kf ?_
  rw [es0]
  exact hQ es ep t s.heap h (Mj _ _) ho
 rw [Rz c]
 have hpos:0<no.length:=by
  rw [<-h2.size]
  exact Nat.pos_of_ne_zero λe=>c (by simpa using e)
 refine Ke (mL (m:=eo.size) h ho ⟨by rw [h2.size];exact hpos,by rw [h2.size];exact h2.len⟩ λep1 t1 h1 hok1 hsb1 ho1 hroom=>?_)
 have' ho2':h1.get? O=some (av eo epo to):=(hsb1.2 O (Ne.symm hne)).trans ho2
 refine Ke (KM (s:={s with heap:=h1}) ho1 rfl hok1.fits ?_)
 dsimp only
 have' put:∀(es':Array (Int×Value)) (t':KZ),PK w es' (aW no ns) t'->Kg (Ku prog w) A (storeSet S es' t') Q E {s with heap:=h1}:=λes' t' hok'=>by
  refine MF (s:={s with heap:=h1}) ho1 rfl ?_ (ML hok'.bound)
  have':=Kn (LD es' t') ho1 (by rw [bu];rfl)
  rw [bu] at this
  exact hQ es' _ t' _ hok' (hsb1.trans (Ks _ _ _)) this
 have' led2:w.params.followText "set-order"=true∨(t1.led&&to.led)=true:=by
  rcases hok1.led with q|q
  ·exact .inl q
  rcases h2.led with q2|q2
  ·exact .inl q2
  exact .inr (by rw [q,q2];rfl)
 unfold SetTable.road
 by_cases hf:(t1.fill !=0)=true
 ·rw [RA hf]
  dsimp only
  refine Ke (ka (s:={s with heap:=h1}) h2 ho2' ?_)
  rw [<-Array.forIn_toList]
  obtain ⟨no',hp,hes⟩:=eu (eO (w:=w) (a:=O) (ep:=epo) (es:=eo)) h2.vals
  have' hlow:∀x∈no',0≤x∧x<7:=λx hx=>h2.small.low x (hp.mem_iff.mp hx)
  refine Ke (Kl (mM (Q:=λ_ s'=>Q () s') hne hlow (λx u s' Q' ho' hw=>?_) _ no' {s with heap:=h1} es ns t1 ep1 hes hlow hok1 ho1 ho2' λes' ep' t' h' hok' hsb' hg'=>?_) (λ_ s' hq=>?_) λ_ _ x=>x)
  ·dsimp only
   refine Ke (Km (Kl hw (λb s'' hq=>?_) λ_ _ x=>x))
   refine Ke (hE _ _ hq.1 ?_)
   refine Ke (KM hq.1 rfl h2.fits ?_)
   dsimp only
   rw [Rz (by simp)]
   exact Kf hq.2
  ·rw [lr h.small h2.small.low hp] at hok'
   exact hQ es' ep' t' h' hok' (hsb1.trans hsb') hg'
  exact Kf hq
 rw [Rz hf]
 have hns:ns=[]:=by
  have e:t1.fill=ns.length:=by unfold Mo;rw [hok1.dum,hok1.place];simp
  rw [e] at hf
  exact HP.mp (by simpa using hf)
 subst hns
 have hself:aW no []=no:=gI h2.small
 by_cases hm:(t1.mask==to.mask&&to.dummies.isEmpty)=true
 ·rw [RA hm]
  refine put _ _ ?_
  rw [hself]
  exact {h2 with place:=h2.place,dum:=h2.dum,mask:=h2.mask,room:=h2.room,plain:=by show (t1.plain&&to.plain)=true;rw [hok1.plain,h2.plain];rfl,led:=led2}
 rw [Rz hm]
 dsimp only
 refine Ke ?_
 show Kg _ _ (do
  let some (t,order):=MS t1.mask t1.finger t1.moves (t1.led&&to.led) (t1.plain&&to.plain) (eo.map (·.1))|Mn "internal:set-table-without-room"
  let es':=order.filterMap (eo[·]?)
  if es'.size !=eo.size then Mn "internal:set-table-lost-an-element"
  pure (es',t)) _ _ _
 rw [p0 h2,jZ hok1.mask h2.small,<-h2.size]
 dsimp only
 rw [dU]
 simp only [bne_self_eq_false,Hq,if_false]
 refine Kf (put _ _ ?_)
 rw [hself]
 refine ⟨h2.vals,h2.small,rfl,rfl,hok1.mask,?_,by show (t1.plain&&to.plain)=true;rw [hok1.plain,h2.plain];rfl,led2⟩
 have:=hroom
 rw [h2.size] at this
 simpa using this
end
theorem kb:MP Oa "set.__or__"=some KV.«frozenset.__or__»:=
 Nf (id':="frozenset.__or__") (!0) rfl (by decide+kernel) !0
section
variable {prog:Lb} {w:Lw} {A:Kw} {E:Value->Ki->Prop} {s:Ki} {es:Array (Int×Value)} {ns:List Int} {t:KZ} {a it:Addr} {ep:Nat} {n:Int}
theorem ke (h:Q (.ref s.heap.objs.size) {s with heap:=s.heap.push (av #[] 0 (.fresh 0 0 (!w.params.followText "set-order")))}):
  Kg (Ku prog w) A (newSet (.type "set")) Q E s:=by
 unfold newSet
 refine Ke (c6 ?_)
 dsimp only
 simp only [newObj]
 exact Ke (MH (Kf h))
theorem mO (h:PK w es ns t) (ho:s.heap.get? a=some (av es ep t))
  (hQ:∀es' ep' t' h',PK w es' ns t'->(∀b o,s.heap.get? b=some o->h'.get? b=some o)->h'.get? s.heap.objs.size=some (av es' ep' t')->Q (.ref s.heap.objs.size) {s with heap:=h'}):
  Kg (Ku prog w) A (Ma a) Q E s:=by
 have hT:s.TypeIs (.ref a) "set":=⟨_,ho,rfl⟩
 unfold Ma Builtin.Frozenset.baseOf
 refine Ke (Ke (LQ (T:="set") (b:=true) hT ND ?_))
 refine Kf ?_
 rw [RA rfl]
 refine Ke (ke ?_)
 unfold Lu
 refine Ke (Kf ?_)
 have hlt:=Kj ho
 have hS:(s.heap.push (av #[] 0 (.fresh 0 0 (!w.params.followText "set-order")))).get? s.heap.objs.size=some (av #[] 0 (.fresh 0 0 (!w.params.followText "set-order"))):=Kk _ rfl
 refine Ke (gJ (s:={s with heap:=s.heap.push (av #[] 0 (.fresh 0 0 (!w.params.followText "set-order")))}) (S:=s.heap.objs.size) (O:=a) (HE hlt) (.fresh j8) hS h (Kh _ ho) (λs' Q' _ hq=>Kf hq) λes' ep' t' h' hok hsb hg=>?_)
 rw [gI h.small] at hok
 exact Kf (hQ es' ep' t' h' hok (λb o e=>(hsb.2 b (Hb (Kj e))).trans (Kh _ e)) hg)
theorem gq (ho:s.heap.get? a=some (av es ep t)) (hQ:Q true s):Kg (Ku prog w) A (Builtin.Frozenset.isAnySet (.ref a)) Q E s:=by
 have hT:s.TypeIs (.ref a) "set":=⟨_,ho,rfl⟩
 unfold Builtin.Frozenset.isAnySet
 exact Ke (LQ (T:="set") (b:=true) hT ND (Kf hQ))
theorem kf {S O:Addr} {id:String} {eo:Array (Int×Value)} {no:List Int} {to:KZ} {epo:Nat} {Q:Unit->Ki->Prop} (hne:S≠O) (h:PK w es ns t) (ho:s.heap.get? S=some (av es ep t)) (h2:PK w eo no to) (ho2:s.heap.get? O=some (av eo epo to))
  (hQ:∀es' ep' t' h',PK w es' (aW no ns) t'->KF S s.heap h'->h'.get? S=some (av es' ep' t')->Q () {s with heap:=h'}):
  Kg (Ku prog w) A (LS id S (.ref O)) Q E s:=by
 unfold LS
 refine Ke (gq ho2 ?_)
 rw [RA rfl]
 refine Ke (Kf ?_)
 unfold Builtin.Frozenset.merge
 refine Ke (Nz ho2 rfl h2.fits ?_)
 refine gJ hne h ho h2 ho2 (λs' Q' ho' hq=>?_) hQ
 unfold Builtin.Frozenset.unchanged
 refine Ke (Nz ho' rfl h2.fits ?_)
 rw [Rz (by simp)]
 exact Kf hq
theorem qc {b:Addr} {eo:Array (Int×Value)} {no:List Int} {to:KZ} {epo:Nat} {Q:Value->Ki->Prop} (h:PK w es ns t) (ho:s.heap.get? a=some (av es ep t)) (h2:PK w eo no to) (ho2:s.heap.get? b=some (av eo epo to))
  (hQ:∀es' ep' t' h',PK w es' (aW no ns) t'->(∀b o,s.heap.get? b=some o->h'.get? b=some o)->h'.get? s.heap.objs.size=some (av es' ep' t')->Q (.ref s.heap.objs.size) {s with heap:=h'}):
  Kg (Ku prog w) A (binaryOp .BitOr (.ref a) (.ref b)) Q E s:=by
 have hT:s.TypeIs (.ref a) "set":=⟨_,ho,rfl⟩
 have hT2:s.TypeIs (.ref b) "set":=⟨_,ho2,rfl⟩
 refine wpAny_binaryOp_same (T:="set") hT hT2 PySem.F.fills_set_or PySem.F.slot_set_or (KC PySem.F.slot_set_or hT kb ?_ (PySem.F.args_set_or_2 _ _))
 show Kg _ _ (Builtin.Frozenset.slot1 "__or__" _>>=_) _ _ _
 unfold Builtin.Frozenset.slot1
 refine Ke (Ke (Kf ?_))
 refine Kf ?_
 dsimp only
 simp only [Hq,if_false]
 refine Ke (Ke (gq ho ?_))
 refine gq ho2 ?_
 simp only [Ka,Hq,if_false]
 unfold Lu
 refine Ke (Kf ?_)
 refine Ke ?_
 show Kg _ _ (Ma a>>=_) _ _ _
 refine Ke (mO h ho λes1 ep1 t1 h1 hok1 hk1 hg1=>?_)
 have hb1:=hk1 b _ ho2
 have hlt:=Kj ho2
 by_cases e:a=b
 ·subst e
  rw [ho] at ho2
  injection ho2 with ho2
  have e1:es=eo:=by injection ho2 with _ _ q _;injection q
  subst e1
  have hns:ns=no:=by rw [<-h.vals.fst,<-h2.vals.fst]
  subst hns
  rw [Rz (by simp)]
  refine Kf (Kf ⟨_,rfl,by simp,?_⟩)
  exact hQ es1 ep1 t1 h1 (by rw [show aW ns ns=ns from fO (PQ.all h.small h.small.low).rise h.small.rise λk=>by rw [bw];simp];exact hok1) hk1 hg1
 rw [RA (by simpa using λq:b=a=>e q.symm)]
 refine Ke (Kf ?_)
 refine Ke (Km ?_)
 refine kf (s:={s with heap:=h1}) (S:=s.heap.objs.size) (HE hlt) hok1 hg1 h2 hb1 λes2 ep2 t2 h2' hok2 hsb2 hg2=>?_
 refine Kf (Kf ⟨_,rfl,by simp,?_⟩)
 exact hQ es2 ep2 t2 h2' hok2 (λb o q=>(hsb2.2 b (Hb (Kj q))).trans (hk1 b o q)) hg2
theorem mP (h:Q (.ref s.heap.objs.size) {s with heap:=s.heap.push (av #[] 0 (.fresh 0 0 (!w.params.followText "set-order")))}):
  Ly (Ku prog w) A (.call (.builtin "set.__new__") ⟨[.type "set"],[]⟩) (wants Q E) s:=by
 refine Mt ?_
 show Kg _ A.in1 (do NM "set.__new__" ⟨[.type "set"],[]⟩;again (.builtin "set.__new__" ⟨[.type "set"],[]⟩)) _ _ s
 refine Ke (Ll PySem.F.newCall_set_0 (Kf ⟨LB PySem.F.plain_set_new _,KG PySem.F.entry_set_new ?_⟩))
 rw [KL PySem.F.plain_set_new _]
 unfold KV.«set.__new__» Builtin.Frozenset.newClass
 have hsub:=ND
 obtain ⟨hp,gg,d,tk,os⟩:=s
 dsimp only
 wp_walk
 refine Lq (Kf ?_)
 dsimp only
 simp only [newObj]
 exact Ke (MH (Kf (Kf h)))
set_option maxHeartbeats 3200000 in
theorem ji (h:∀led,(w.params.followText "set-order"=true∨led=true)->Q (.ref s.heap.objs.size) {s with heap:=s.heap.push (av #[] 0 (.fresh 0 0 led))}):
  Kg (Ku prog w) A (call (.type "set") []) Q E s:=by
 have hl:=j8 (w:=w)
 have hn:=λQ (x:Q (.ref s.heap.objs.size) {s with heap:=s.heap.push (av #[] 0 (.fresh 0 0 (!w.params.followText "set-order")))})=>mP (prog:=prog) (A:=A.in1) (E:=E) (Q:=Q) x
 generalize (!w.params.followText "set-order")=led at*
 obtain ⟨c,tl,hmro⟩:=PySem.F.called_set.mro
 have hmade:=PySem.F.called_set.made
 have hsub:=PySem.F.called_set.sub
 refine LK (Mt ?_)
 show Kg _ _ (callAny (.type "set") _) _ _ _
 refine Kf ⟨Mp _ (by decide+kernel),KG PySem.F.entry_type_call ?_⟩
 rw [Around.under_plain (weight_type_call_type "set" [] []) rfl]
 have h1:=PySem.F.called_set.notType
 have h2:=PySem.F.called_set.canCreate
 have hct:=PySem.F.typeCall_set_0
 repeat (any_goals (first|assumption|wp_step))
 refine KO (hn (λobj OG=>obj=.ref s.heap.objs.size∧OG={s with heap:=s.heap.push (av #[] 0 (.fresh 0 0 led))}) ⟨rfl,rfl⟩) λr OG hr=>?_
 induction r with
 |error e=>exact hr
 |ok fl=>
  induction fl with
  |ret obj=>
   obtain ⟨rfl,rfl⟩:=hr
   have hS:(s.heap.push (av #[] 0 (.fresh 0 0 led))).get? s.heap.objs.size=some (av #[] 0 (.fresh 0 0 led)):=Kk _ rfl
   have hT:Mv {s with heap:=s.heap.push (av #[] 0 (.fresh 0 0 led))} (.ref s.heap.objs.size) "set":=⟨_,hS,rfl⟩
   have hli:=PySem.F.called_set.init.lookup
   have' hbi:=PySem.F.called_set.init.bind (.ref s.heap.objs.size)
   repeat (any_goals (first|assumption|wp_step))
   refine KO (LP (R:=wants (λr OJ=>r=.none∧Q (.ref s.heap.objs.size) OJ) E) PySem.F.called_set.init.plain PySem.F.entry_set_init (check_set_init hT ?_)) λO5 OJ OX=>?_
   ·unfold KV.«set.__init__» noKeywords
    wp_walk
    exact ⟨rfl,h led hl⟩
   induction O5 with
   |error e=>exact OX
   |ok O6=>
    induction O6 with
    |ret r=>
     obtain ⟨rfl,hq⟩:=OX
     repeat (any_goals (first|assumption|wp_step))
    |_=>exact OX.elim
  |_=>exact hr.elim
theorem PK.setOf {h':Heap} (h:PK w es ns t) (ho:h'.get? a=some (av es ep t)):h'.SetOf (KU prog w) a (λk=>decide (k∈ns)) ns.length:=
 ⟨_,es,ep,t,ho,⟨rfl,rfl,rfl⟩,rfl,h.elems,λk=>by rw [decide_eq_true_eq];exact h.hmem k,h.bound,h.fits,h.size⟩
theorem ip (h:PK w es ns t) (ho:s.heap.get? a=some (av es ep t)) (hn:0≤n∧n<7)
  (hQ:∀es' ep' t' h',PK w es' (cI n ns) t'->KF a s.heap h'->h'.get? a=some (av es' ep' t')->Q .none {s with heap:=h',toks:=s.toks+1}):
  Kg (Ku prog w) A (call (.builtin "set.add") [.ref a,.int n u]) Q E s:=by
 have hT:s.TypeIs (.ref a) "set":=⟨_,ho,rfl⟩
 refine KC PySem.F.slot_set_add hT PySem.F.entry_set_add ?_ (PySem.F.args_set_add_2 _ _)
 unfold KV.«set.add» Builtin.Frozenset.oneOther
 simp only [List.isEmpty_nil,bind_assoc]
 unfold Lu setAdd
 refine Ke (Kf ?_)
 try dsimp only
 refine Ke (Kf ?_)
 try dsimp only
 refine Ke ?_
 refine Km ?_
 refine Ke ((KU prog w).pyHash (k:=n) (Lg _ _ _ _) ?_)
 rw [show (KU prog w).hash n=n from dT hn]
 refine gp (s:={s with toks:=s.toks+1}) h ho hn λb es1 ep1 t1 h1 hok1 hsb ho1 _=>?_
 show Kg _ _ (ret Kr) _ _ _
 exact Kf ⟨_,rfl,hQ es1 ep1 t1 h1 hok1 hsb ho1⟩
end
theorem mQ {l l':List Int} (h:l.Pairwise (·<·)) (h':l'.Pairwise (·≤·)) (p:l'.Perm l):l'=l:=by
 have nd:l'.Nodup:=p.nodup_iff.mpr (h.imp λ{a b} q=>Int.ne_of_lt q)
 refine fO ?_ h λk=>p.mem_iff
 exact (h'.and nd).imp λ{a b} q=>Int.lt_iff_le_and_ne.mpr q
section
variable {prog:Lb} {w:Lw} {A:Kw} {E:Value->Ki->Prop} {s:Ki} {es:Array (Int×Value)} {ns:List Int} {t:KZ} {a it:Addr} {ep:Nat} {n:Int}
theorem fP:∀{l:List (Int×Value)} {ns:List Int},PO l ns->IntsAre (l.map (·.2)) ns
 |[],[],_=>.nil
 |e::l,n::ns,⟨_,⟨u,h⟩,r⟩=>by
  rw [Hc,h];exact .cons n u (fP r)
theorem qd {P:Nat->Value->Prop} {acc:Array Value} {m:Nat} {ord:Array (Int×Value)} (hm:ord.size=m) (h:Om P acc m) (hP:∀i v,P i v->∃e,ord[i]?=some e∧v=e.2):acc.toList=ord.toList.map (·.2):=by
 apply Jj
 intro i
 rw [Hg,He,He]
 induction hx:acc[i]? with
 |none=>
  have:ord[i]?=none:=by
   rw [Jx] at hx⊢
   rw [h.1] at hx;exact B5 hm hx
  rw [this];rfl
 |some v=>
  obtain ⟨e,he,rfl⟩:=hP i v (h.2 i v hx)
  rw [he];rfl
theorem kg {Q:Value->Ki->Prop} (hh:A.handled=none) (h:PK w es ns t) (ho:s.heap.get? a=some (av es ep t))
  (hQ:∀(h1 h':Heap) tk (out:Array Value) m,IntsAre out.toList ns->(∀b o,s.heap.get? b=some o->h1.get? b=some o)->(∀b o,h1.get? b=some o->h'.get? b=some o)->h'.get? h1.objs.size=some (seqObj "list" out m)->Q (.ref h1.objs.size) {s with heap:=h',toks:=tk}):
  Kg (Ku prog w) A (call (.builtin "sorted") [.ref a]) Q E s:=by
 have hlen:=h.len
 refine Calls.call_function_entry kind_sorted plain_sorted entry_sorted (args_sorted1 _) ?_
 unfold KV.«sorted»
 refine Ke (m:=checkCount "sorted" 1 1 _) (Kf ?_)
 refine Ke (kdu_collect (A:=A.in1) (sI h) hh ho (by rw [h.size,MJ];exact w83 hlen) λh1 tk acc hk hacc=>?_)
 have hac:=qd dH hacc λi v x=>x
 obtain ⟨ns',hp,hes⟩:=eu (eO (w:=w) (a:=a) (ep:=ep) (es:=es)) h.vals
 have' hI:IntsAre acc.toList ns':=by rw [hac];exact fP hes
 have' hl:acc.toList.length=ns.length:=by rw [IntsAre.length hI,hp.length_eq]
 refine Ke (wpAny_newList ?_ (by rw [hl,MJ];exact w83 hlen))
 have hoL:(h1.push (seqObj "list" acc.toList.toArray 0)).get? h1.objs.size=some (seqObj "list" acc.toList.toArray 0):=Kk _ rfl
 refine Ke (Km (KC (s:={s with heap:=h1.push (seqObj "list" acc.toList.toArray 0),toks:=tk}) slot_list_sort ⟨_,hoL,rfl⟩ entry_list_sort (list_sort_tree hoL hI (by rw [hl];exact Eo hlen) λout ns2 hI2 hp2 hs2=>⟨_,rfl,?_⟩) (args_list_sort _)))
 have e2:ns2=ns:=mQ h.small.rise hs2 (hp2.trans hp)
 subst e2
 obtain ⟨m,hm⟩:=sortedHeap_at (out:=out) hoL
 refine Kf ⟨_,rfl,hQ h1 _ tk out m hI2 hk (λb o e=>?_) hm⟩
 have hb:=Kj e
 rw [sortedHeap_old (Hb hb) (G5 hb (by rw [size_push'];exact IK _))]
 exact Kh _ e
end
inductive V where
 |none
 |bool (b:Bool)
 |int (i:Int)
 |obj (i:Nat)
 deriving DecidableEq,Inhabited
inductive O where
 |list (vs:List V)
 |tup (vs:List V)
 |ro (ns:List Int)
 |dict (ep:Nat) (kv:List (Int×V))
 |set (xs:List Int) (es:Array (Int×Value)) (ep:Nat) (t:KZ)
 |inst (C:Nat) (fs:List (Str×V))
 |exc (C:Nat)
 deriving Inhabited
def O.tag:O->Nat
 |.list _=>0
 |.tup _=>1
 |.ro _=>2
 |.dict _ _=>3
 |.set _ _ _ _=>4
 |.inst _ _=>5
 |.exc _=>6
def V.tag:V->Nat
 |.none=>0
 |.bool _=>1
 |.int _=>2
 |.obj _=>3
theorem oNe {o o':O} {C:Prop} (h:o=o') (k:Nat.beq o.tag o'.tag=false):C:=absurd (congrArg O.tag h) (Jc k)
theorem gr {o o':O} {C:Prop} (h:some o=some o') (k:Nat.beq o.tag o'.tag=false):C:=oNe (Hm.inj h) k
theorem vNe {o o':V} {C:Prop} (h:o=o') (k:Nat.beq o.tag o'.tag=false):C:=absurd (congrArg V.tag h) (Jc k)
theorem iq (h:V.obj a=V.obj b):a=b:=V.obj.inj h
theorem lu (h:some (V.obj a)=some (V.obj b)):a=b:=iq (Hm.inj h)
theorem fQ (h:some (O.inst C fs)=some (O.inst C' fs')):C=C'∧fs=fs':=O.inst.inj (Hm.inj h)
theorem GA (h:some (O.dict C fs)=some (O.dict C' fs')):C=C'∧fs=fs':=O.dict.inj (Hm.inj h)
def O.isRo:O->Bool
 |.ro _=>true
 |_=>false
abbrev Rho:=List (Nat×Nat)
def PF (ρ:Rho):V->Value->Prop
 |.none,x=>x=.none
 |.bool b,x=>x=.bool b
 |.int i,x=>∃t,x=.int i t
 |.obj i,x=>∃p,ρ[i]?=some p∧x=.ref p.1
def PH (ρ:Rho):List V->List Value->Prop
 |[],[]=>True
 |v::vs,x::xs=>PF ρ v x∧PH ρ vs xs
 |_,_=>False
def P7 (ρ:Rho):List (Str×V)->List Od->Prop
 |[],[]=>True
 |f::fs,e::es=>(∃t,e.key=.str f.1 t)∧PF ρ f.2 e.val∧P7 ρ fs es
 |_,_=>False
def P9 (ρ:Rho):List (Int×V)->List (Int×Value)->Prop
 |[],[]=>True
 |f::fs,e::es=>f.1=e.1∧PF ρ f.2 e.2∧P9 ρ fs es
 |_,_=>False
theorem n8 {ρ ρ':Rho} (h:ρ<+:ρ') {i:Nat} {p:Nat×Nat} (e:ρ[i]?=some p):ρ'[i]?=some p:=by
 obtain ⟨t,rfl⟩:=h
 rw [Ha (G4.mp e).1];exact e
theorem PF.up {ρ ρ':Rho} (h:ρ<+:ρ'):∀{v:V} {x:Value},PF ρ v x->PF ρ' v x
 |.none,_,e=>e
 |.bool _,_,e=>e
 |.int _,_,e=>e
 |.obj _,_,⟨p,e,q⟩=>⟨p,n8 h e,q⟩
theorem PH.ind {ρ:Rho} {P:List V->List Value->Prop} (h0:P [] []) (hs:∀v vs x xs,PF ρ v x->PH ρ vs xs->P vs xs->P (v::vs) (x::xs)):∀{vs xs},PH ρ vs xs->P vs xs:=by
 intro vs
 induction vs with
 |nil=>intro xs h;induction xs using Lc with|nil=>exact h0|cons _ _=>exact h.elim
 |cons v vs ih=>intro xs h;induction xs using Lc with|nil=>exact h.elim|cons x xs=>exact hs _ _ _ _ h.1 h.2 (ih h.2)
theorem P7.ind {ρ:Rho} {P:List (Str×V)->List Od->Prop} (h0:P [] []) (hs:∀v vs x xs,(∃t,x.key=.str v.1 t)->PF ρ v.2 x.val->P7 ρ vs xs->P vs xs->P (v::vs) (x::xs)):∀{vs xs},P7 ρ vs xs->P vs xs:=by
 intro vs
 induction vs with
 |nil=>intro xs h;induction xs using Lc with|nil=>exact h0|cons _ _=>exact h.elim
 |cons v vs ih=>intro xs h;induction xs using Lc with|nil=>exact h.elim|cons x xs=>exact hs _ _ _ _ h.1 h.2.1 h.2.2 (ih h.2.2)
theorem P9.ind {ρ:Rho} {P:List (Int×V)->List (Int×Value)->Prop} (h0:P [] []) (hs:∀v vs x xs,v.1=x.1->PF ρ v.2 x.2->P9 ρ vs xs->P vs xs->P (v::vs) (x::xs)):∀{vs xs},P9 ρ vs xs->P vs xs:=by
 intro vs
 induction vs with
 |nil=>intro xs h;induction xs using Lc with|nil=>exact h0|cons _ _=>exact h.elim
 |cons v vs ih=>intro xs h;induction xs using Lc with|nil=>exact h.elim|cons x xs=>exact hs _ _ _ _ h.1 h.2.1 h.2.2 (ih h.2.2)
theorem PH.up {ρ ρ':Rho} (h:ρ<+:ρ') {vs:List V} {xs:List Value} (x:PH ρ vs xs):PH ρ' vs xs:=PH.ind (P:=PH ρ') trivial (λ_ _ _ _ a _ b=>⟨a.up h,b⟩) x
theorem P7.up {ρ ρ':Rho} (h:ρ<+:ρ') {vs:List (Str×V)} {xs:List Od} (x:P7 ρ vs xs):P7 ρ' vs xs:=P7.ind (P:=P7 ρ') trivial (λ_ _ _ _ k a _ b=>⟨k,a.up h,b⟩) x
theorem P9.up {ρ ρ':Rho} (h:ρ<+:ρ') {vs:List (Int×V)} {xs:List (Int×Value)} (x:P9 ρ vs xs):P9 ρ' vs xs:=P9.ind (P:=P9 ρ') trivial (λ_ _ _ _ k a _ b=>⟨k,a.up h,b⟩) x
set_option genInjectivity false in
structure Cx where
 prog:Lb
 w:Lw
 K:Frag
 p:Lb
 loose:List Str
 mg:Str->Option Value
 mb:Str->Option Value
 base:Heap
 os:OsState
 h1:Heap
abbrev Cx.M (c:Cx):Model:=Ku c.prog c.w
def gY (K:Frag):Value->Option Addr
 |.ref cc=>(match K.lookup cc with
  |some ⟨_,_,.fields vs,_⟩=>(match (vs[11]?:Option Value) with
   |some (.ref P)=>some P
   |_=>none)
  |_=>none)
 |_=>none
def de (K:Frag):List Addr:=K.filterMap λp=>match p.2.data with
 |.func fd=>gY K fd.code
 |_=>none
def Cx.tabs (c:Cx):List Addr:=de c.K
theorem mR {K:Frag} {f:Nat} {oc:Value} {od:Option Addr} {fd:NJ} {osl:Array (Option Value)} {P:Addr} (h:K.lookup f=some ⟨oc,od,.func fd,osl⟩) (e:gY K fd.code=some P):P∈de K:=
 HM.mpr ⟨_,mem_of_lookupK h,e⟩
structure Cx.Ok (c:Cx):Prop where
 X:c.K.In c.base
 T:TopRead c.p c.loose c.mg c.mb c.base
 sm:Oz<c.base.objs.size
 cs:cStatics<c.base.objs.size
 tb:∀P∈c.tabs,c.base.get? P=none
 bm:Ex2 λbm ob=>BMod c.base Lv c.mg bm ob
structure Q9 (c:Cx) (C:Nat):Prop where
 noBool:KS c.K (.ref C) "__bool__"=some none
 noLen:KS c.K (.ref C) "__len__"=some none
 dict:hasDictIn c.K C=true
 setattr:KS c.K (.ref C) "__setattr__"=some (some (.builtin "object.__setattr__"))
 over:plainOver c.K C=true
 eq:KS c.K (.ref C) "__eq__"=some (some (.builtin "object.__eq__"))
 obj:Oq c.K C (.type "object")=some true
structure Rt (c:Cx) (C:Nat):Prop where
 noBool:KS c.K (.ref C) "__bool__"=some none
 noLen:KS c.K (.ref C) "__len__"=some none
def Qy (c:Cx) (ρ:Rho) (h:Heap) (p:Nat×Nat):O->Prop
 |.list vs=>Ex2 λits n=>h.get? p.1=some (listOf its n)∧PH ρ vs its.toList
 |.tup vs=>Ex2 λits n=>h.get? p.1=some ({cls:=.type "tuple",data:=.seq its n}:Obj)∧PH ρ vs its.toList
 |.ro ns=>∃its,h.IsList p.1 its∧IntsAre its.toList ns
 |.dict ep kv=>∃kvs,h.DictAt (KU c.prog c.w) p.1 kvs ep∧P9 ρ kv kvs
 |.set xs es ep t=>h.get? p.1=some (av es ep t)∧PK c.w es xs t
 |.inst C fs=>Ex2 λes n=>QK (h.get? p.1=some (Ni C p.2)) (h.get? p.2=some (dictOf es n)) (P7 ρ fs es) (Q9 c C)
 |.exc C=>Ex3 λob od vs=>QK (Lj h p.1 ob C od) (ob.data=.fields vs) ((∀d,ob.dict=some d->d=p.2)) (Rt c C)
theorem Qy.at1:∀{o:O},Qy c ρ h p o->∃ob,h.get? p.1=some ob:=by
 intro o r
 induction o with
 |list=>obtain ⟨_,_,a,_⟩:=r;exact ⟨_,a⟩
 |tup=>obtain ⟨_,_,a,_⟩:=r;exact ⟨_,a⟩
 |ro=>obtain ⟨_,⟨o,ho,_⟩,_⟩:=r;exact ⟨o,ho⟩
 |dict=>obtain ⟨_,⟨o,_,ho,_⟩,_⟩:=r;exact ⟨o,ho⟩
 |set=>exact ⟨_,r.1⟩
 |inst=>obtain ⟨_,_,a,_⟩:=r;exact ⟨_,a⟩
 |exc=>obtain ⟨_,_,_,a,_⟩:=r;exact ⟨_,a.1⟩
theorem Qy.move (hp:ρ<+:ρ') (e1:∀o,h.get? p.1=some o->h'.get? p.1=some o) (e2:∀o,h.get? p.2=some o->h'.get? p.2=some o):
  ∀{o:O},Qy c ρ h p o->Qy c ρ' h' p o:=by
 intro o
 induction o with
 |list _=>rintro ⟨its,n,a,b⟩;exact ⟨its,n,e1 _ a,b.up hp⟩
 |tup _=>rintro ⟨its,n,a,b⟩;exact ⟨its,n,e1 _ a,b.up hp⟩
 |ro _=>rintro ⟨its,⟨o,ho,r⟩,b⟩;exact ⟨its,⟨o,e1 _ ho,r⟩,b⟩
 |dict _ _=>rintro ⟨kvs,⟨o,es,a,b⟩,d⟩;exact ⟨kvs,⟨o,es,e1 _ a,b⟩,d.up hp⟩
 |set _ _ _ _=>exact λh=>⟨e1 _ h.1,h.2⟩
 |inst _ _=>rintro ⟨es,n,a,b,d,q⟩;exact ⟨es,n,e1 _ a,e2 _ b,d.up hp,q⟩
 |exc _=>
  rintro ⟨ob,od,vs,⟨a1,a2,a3,a4⟩,b,d,q⟩
  refine ⟨ob,od,vs,⟨e1 _ a1,a2,a3,?_⟩,b,d,q⟩
  induction hd:ob.dict with
  |none=>rw [hd] at a4;cases od<;>exact a4
  |some dx=>
   rw [hd] at a4
   induction od with
   |none=>exact a4
   |some o=>rw [d dx hd] at a4⊢;exact e2 _ a4
structure Rep (c:Cx) (ρ:Rho) (hp:List O) (h:Heap):Prop where
 len:ρ.length=hp.length
 obj:∀{i:Nat} {p:Nat×Nat} {o:O},ρ[i]?=some p->hp[i]?=some o->Qy c ρ h p o
 low:∀{i:Nat} {p:Nat×Nat} {o:O},ρ[i]?=some p->hp[i]?=some o->o.isRo=false->c.base.objs.size≤p.1∧c.base.objs.size≤p.2
 sep:∀{i j:Nat} {p q:Nat×Nat},ρ[i]?=some p->ρ[j]?=some q->i≠j->p.1≠q.1∧p.1≠q.2∧p.2≠q.1∧p.2≠q.2
 self:∀{i:Nat} {p:Nat×Nat} {C:Nat} {fs:List (Str×V)},ρ[i]?=some p->hp[i]?=some (.inst C fs)->p.1≠p.2
 inb:∀{i:Nat} {p:Nat×Nat},ρ[i]?=some p->(∃ob,h.get? p.1=some ob)∧∃ob,h.get? p.2=some ob
 rolow:∀{i:Nat} {p:Nat×Nat} {o:O},ρ[i]?=some p->hp[i]?=some o->o.isRo=true->p.1<c.base.objs.size∧p.2<c.base.objs.size
inductive PZ (ρ:Rho) (hp:List O) (a:Nat):Prop
 |mk (i:Nat) (p:Nat×Nat) (o:O) (z1:ρ[i]?=some p) (z2:hp[i]?=some o) (z3:o.isRo=false) (z4:a=p.1∨a=p.2):PZ ρ hp a
abbrev GP:=Nat->Option Obj
def Rm (fa:List Addr) (g:GP) (h:Heap):Prop:=∀b o,g b=some o->∃sl,h.get? b=some {o with slots:=sl}∧(b∉fa->sl=o.slots)
theorem Rm.at (x:Rm fa g h) (e:g b=some o) (n:b∉fa):h.get? b=some o:=by
 obtain ⟨sl,q,r⟩:=x b o e
 rw [r n] at q;exact q
abbrev dB (fr:List Env):List Addr:=fr.filterMap (·.frame)
structure PP (c:Cx) (g:GP) (fr:List Env) (ρ:Rho) (hp:List O) (s:Ki):Prop where
 rep:Rep c ρ hp s.heap
 keep:c.base.StaysIn s.heap
 prot:Rm (dB fr) g s.heap
 gfoot:∀a,PZ ρ hp a->g a=none
 ffun:s.heap.FunFrames c.base fr
 fro:∀(i:Nat) p,ρ[i]?=some p->p.1∉dB fr∧p.2∉dB fr
 bg:∀b o,c.base.get? b=some o->g b=some o
 os:s.os=c.os
 bare:NV s.gens
 size:c.base.objs.size≤s.heap.objs.size
 tab:∀P∈c.tabs,∃ps,s.heap.get? P=some (Oe ps)∧TriplesOk ps.toList
 tlow:∀P∈c.tabs,P<c.base.objs.size
 gtab:∀P∈c.tabs,g P=none
theorem df {base h h':Heap} {l:List Env} (k:∀b∈dB l,∀o,h.get? b=some o->(∀vs,o.data≠.fields vs)->∃o',h'.get? b=some o'∧∀vs,o'.data≠.fields vs) (F:h.FunFrames base l):h'.FunFrames base l:=by
 induction l with
 |nil=>trivial
 |cons env rest ih=>
  obtain ⟨hk,⟨L,o,hf,hn,ho,hd⟩,hr⟩:=F
  have hL:L∈dB (env::rest):=HM.mpr ⟨env,.head _,hf⟩
  obtain ⟨o',ho',hd'⟩:=k L hL o ho hd
  refine ⟨hk,⟨L,o',hf,hn,ho',hd'⟩,ih (λb hb=>k b ?_) hr⟩
  obtain ⟨e,he,hfe⟩:=HM.mp hb
  exact HM.mpr ⟨e,.tail _ he,hfe⟩
theorem iu {hp:List O} {i:Nat} {o o':O} (e:hp[i]?=some o) (k:o'.isRo=o.isRo) {j:Nat} {x:O} (q:(hp.set i o')[j]?=some x):∃y,hp[j]?=some y∧y.isRo=x.isRo:=by
 rw [JF] at q
 split at q
 ·rename_i hij;subst hij
  split at q
  ·(replace q:=ay q;subst q);exact ⟨o,e,k.symm⟩
  exact nNS q
 exact ⟨x,q,rfl⟩
theorem PZ.set {ρ:Rho} {hp:List O} {i:Nat} {o o':O} (e:hp[i]?=some o) (k:o'.isRo=o.isRo) {a:Nat} (f:PZ ρ (hp.set i o') a):PZ ρ hp a:=by
 obtain ⟨j,p,x,h1,h2,h3,h4⟩:=f
 obtain ⟨y,h5,h6⟩:=iu e k h2
 exact ⟨j,p,y,h1,h5,h6.trans h3,h4⟩
theorem PZ.snoc (len:ρ.length=hp.length) (f:PZ (ρ++[p]) (hp++[o]) a):PZ ρ hp a∨a=p.1∨a=p.2:=by
 obtain ⟨j,q,x,h1,h2,h3,h4⟩:=f
 by_cases hj:j<ρ.length
 ·rw [Ha hj] at h1
  rw [Ha (len▸hj)] at h2
  exact .inl ⟨j,q,x,h1,h2,h3,h4⟩
 rw [Hh (GU hj)] at h1
 have:q=p:=by
  induction hq:j-ρ.length using Hn with
  |zero=>rw [hq] at h1;exact (Hm.inj h1).symm
  |succ n=>rw [hq] at h1;exact nNS h1
 subst this
 exact .inr h4
theorem PZ.up (f:PZ ρ hp a):PZ (ρ++[p]) (hp++[o]) a:=by
 obtain ⟨j,q,x,h1,h2,h3,h4⟩:=f
 refine ⟨j,q,x,?_,?_,h3,h4⟩
 ·rw [Ha (G4.mp h1).1];exact h1
 rw [Ha (G4.mp h2).1];exact h2
section
variable {c:Cx} {g:GP} {fr:List Env} {ρ:Rho} {hp:List O} {s:Ki}
theorem Rep.lt (r:Rep c ρ hp s.heap) (f:PZ ρ hp a):a<s.heap.objs.size:=by
 obtain ⟨i,p,o,h1,h2,h3,h4⟩:=f
 rcases h4 with rfl|rfl
 ·exact Kj (r.inb h1).1.choose_spec
 exact Kj (r.inb h1).2.choose_spec
theorem PP.ffoot (I:PP c g fr ρ hp s) (a:Nat) (f:PZ ρ hp a):a∉dB fr:=by
 obtain ⟨i,p,o,h1,_,_,h4⟩:=f
 rcases h4 with rfl|rfl
 ·exact (I.fro i p h1).1
 exact (I.fro i p h1).2
theorem PP.base_foot (I:PP c g fr ρ hp s) (f:PZ ρ hp a):c.base.objs.size≤a:=by
 obtain ⟨i,p,o,h1,h2,h3,h4⟩:=f
 have:=I.rep.low h1 h2 h3
 rcases h4 with rfl|rfl
 ·exact this.1
 exact this.2
theorem PP.keeps (I:PP c g fr ρ hp s) (k:∀b o,s.heap.get? b=some o->h'.get? b=some o) (hs:c.base.objs.size≤h'.objs.size) (hg:NV gs):
  PP c g fr ρ hp {s with heap:=h',toks:=tk,gens:=gs,drawn:=dr} where
 rep:=⟨I.rep.len,λa b=>(I.rep.obj a b).move (GX _) (λo e=>k _ o e) λo e=>k _ o e,I.rep.low,I.rep.sep,I.rep.self,λa=>⟨(I.rep.inb a).1.imp λ_ e=>k _ _ e,(I.rep.inb a).2.imp λ_ e=>k _ _ e⟩,I.rep.rolow⟩
 keep:=λb o e=>k b o (I.keep b o e)
 prot:=λb o e=>let ⟨sl,q,r⟩:=I.prot b o e;⟨sl,k _ _ q,r⟩
 gfoot:=I.gfoot
 ffun:=I.ffun.of_keeps λb o e _=>⟨o,k b o e,rfl⟩
 fro:=I.fro
 bg:=I.bg
 os:=I.os
 bare:=hg
 size:=hs
 tab:=λP hP=>let ⟨ps,e,t⟩:=I.tab P hP;⟨ps,k _ _ e,t⟩
 tlow:=I.tlow
 gtab:=I.gtab
theorem PP.tok (I:PP c g fr ρ hp s):PP c g fr ρ hp {s with toks:=tk}:=I.keeps (λ_ _ e=>e) I.size I.bare
theorem PP.new (I:PP c g fr ρ hp s) (k:∀b o,s.heap.get? b=some o->h'.get? b=some o)
  (l1:s.heap.objs.size≤p.1) (l2:s.heap.objs.size≤p.2) (u1:∃ob,h'.get? p.1=some ob) (u2:∃ob,h'.get? p.2=some ob) (ho:Qy c (ρ++[p]) h' p o) (hself:∀C fs,o=.inst C fs->p.1≠p.2) (hro:o.isRo=false):
  PP c g fr (ρ++[p]) (hp++[o]) {s with heap:=h',toks:=tk}:=by
 have' J:=I.keeps (tk:=tk) (dr:=s.drawn) k (G2 I.size (G2 l1 (Hk (Kj u1.choose_spec)))) I.bare
 have' low:c.base.objs.size≤s.heap.objs.size:=I.size
 have' at_:∀{i q},(ρ++[p])[i]?=some q->(ρ[i]?=some q∧i<ρ.length)∨(i=ρ.length∧q=p):=λ{i q} e=>by
  by_cases hi:i<ρ.length
  ·rw [Ha hi] at e;exact .inl ⟨e,hi⟩
  rw [Hh (GU hi)] at e
  induction hq:i-ρ.length using Hn with
  |zero=>rw [hq] at e;exact .inr ⟨by exact w23 hi hq,(Hm.inj e).symm⟩
  |succ n=>rw [hq] at e;exact nNS e
 have' at2:∀{i x},(hp++[o])[i]?=some x->(hp[i]?=some x∧i<hp.length)∨(i=hp.length∧x=o):=λ{i q} e=>by
  by_cases hi:i<hp.length
  ·rw [Ha hi] at e;exact .inl ⟨e,hi⟩
  rw [Hh (GU hi)] at e
  induction hq:i-hp.length using Hn with
  |zero=>rw [hq] at e;exact .inr ⟨by exact w23 hi hq,(Hm.inj e).symm⟩
  |succ n=>rw [hq] at e;exact nNS e
 have' old:∀{a},PZ (ρ++[p]) (hp++[o]) a->PZ ρ hp a∨s.heap.objs.size≤a:=λf=>by
  rcases PZ.snoc I.rep.len f with f|rfl|rfl
  ·exact .inl f
  ·exact .inr l1
  exact .inr l2
 refine {J with rep:=⟨by simp [I.rep.len],λ{i q x} e1 e2=>?_,λ{i q x} e1 e2 e3=>?_,λ{i j q q'} e1 e2 hij=>?_,λ{i q C fs} e1 e2=>?_,λ{i q} e1=>?_,λ{i q x} e1 e2 e3=>?_⟩,gfoot:=λa f=>?_,fro:=λi q e1=>?_}
 ·rcases at_ e1 with ⟨e1,hi⟩|⟨rfl,rfl⟩
  ·rcases at2 e2 with ⟨e2,_⟩|⟨rfl,rfl⟩
   ·exact (J.rep.obj e1 e2).move (GV ..) (λ_ e=>e) λ_ e=>e
   exact absurd hi (by rw [I.rep.len];exact Hl _)
  rcases at2 e2 with ⟨_,hi⟩|⟨_,rfl⟩
  ·exact absurd hi (by rw [I.rep.len];exact Hl _)
  exact ho
 ·rcases at_ e1 with ⟨e1,hi⟩|⟨rfl,rfl⟩
  ·rcases at2 e2 with ⟨e2,_⟩|⟨rfl,rfl⟩
   ·exact I.rep.low e1 e2 e3
   exact absurd hi (by rw [I.rep.len];exact Hl _)
  exact ⟨G2 low l1,G2 low l2⟩
 ·rcases at_ e1 with ⟨f1,_⟩|⟨f1,f1'⟩<;>rcases at_ e2 with ⟨f2,_⟩|⟨f2,f2'⟩
  ·exact I.rep.sep f1 f2 hij
  ·have' a1:=Kj (I.rep.inb f1).1.choose_spec
   have' a2:=Kj (I.rep.inb f1).2.choose_spec
   subst f2'
   exact ⟨Hb (G5 a1 l1),Hb (G5 a1 l2),Hb (G5 a2 l1),Hb (G5 a2 l2)⟩
  ·have' a1:=Kj (I.rep.inb f2).1.choose_spec
   have' a2:=Kj (I.rep.inb f2).2.choose_spec
   subst f1'
   exact ⟨HE (G5 a1 l1),HE (G5 a2 l1),HE (G5 a1 l2),HE (G5 a2 l2)⟩
  exact absurd (f1.trans f2.symm) hij
 ·rcases at_ e1 with ⟨e1,hi⟩|⟨rfl,rfl⟩
  ·rcases at2 e2 with ⟨e2,_⟩|⟨rfl,_⟩
   ·exact I.rep.self e1 e2
   exact absurd hi (by rw [I.rep.len];exact Hl _)
  rcases at2 e2 with ⟨_,hi⟩|⟨_,e⟩
  ·exact absurd hi (by rw [I.rep.len];exact Hl _)
  exact hself _ _ e.symm
 ·rcases at_ e1 with ⟨e1,_⟩|⟨rfl,rfl⟩
  ·exact J.rep.inb e1
  exact ⟨u1,u2⟩
 ·rcases at2 e2 with ⟨e2,hi⟩|⟨_,rfl⟩
  ·rcases at_ e1 with ⟨e1,_⟩|⟨rfl,rfl⟩
   ·exact I.rep.rolow e1 e2 e3
   exact absurd hi (by rw [I.rep.len];exact Hl _)
  rw [hro] at e3;exact nFT e3
 ·rcases old f with f|f
  ·exact I.gfoot a f
  induction q:g a with
  |none=>rfl
  |some o=>obtain ⟨sl,q',_⟩:=I.prot a o q;exact absurd (Kj q') (Hr.mpr f)
 have' far:∀a,s.heap.objs.size≤a->a∉dB fr:=λa f hm=>by
  obtain ⟨_,o,ho',_⟩:=I.ffun.mem hm
  exact absurd (Kj ho') (Hr.mpr f)
 rcases at_ e1 with ⟨e1,_⟩|⟨_,rfl⟩
 ·exact I.fro i q e1
 exact ⟨far _ l1,far _ l2⟩
theorem PP.upd (I:PP c g fr ρ hp s) {h':Heap} {tk:Nat} {i:Nat} {p:Nat×Nat} {o o':O} (hi:ρ[i]?=some p) (hoi:hp[i]?=some o) (hk:o'.isRo=o.isRo) (hr:o.isRo=false) (hc:∀C fs,o'=.inst C fs->p.1≠p.2)
  (k:∀b ob,b≠p.1->b≠p.2->s.heap.get? b=some ob->h'.get? b=some ob) (hs:c.base.objs.size≤h'.objs.size) (u1:∃ob,h'.get? p.1=some ob) (u2:∃ob,h'.get? p.2=some ob) (ho:Qy c ρ h' p o'):
  PP c g fr ρ (hp.set i o') {s with heap:=h',toks:=tk}:=by
 have fp1:PZ ρ hp p.1:=⟨i,p,o,hi,hoi,hr,.inl rfl⟩
 have fp2:PZ ρ hp p.2:=⟨i,p,o,hi,hoi,hr,.inr rfl⟩
 have' nb:∀b ob,c.base.get? b=some ob->b≠p.1∧b≠p.2:=λb ob e=>by
  have:=Kj e
  exact ⟨λz=>absurd this (Hr.mpr (z▸I.base_foot fp1)),λz=>absurd this (Hr.mpr (z▸I.base_foot fp2))⟩
 refine ⟨⟨by simp [I.rep.len],λ{j q x} e1 e2=>?_,λ{j q x} e1 e2 e3=>?_,I.rep.sep,λ{j q C fs} e1 e2=>?_,λ{j q} e1=>?_,λ{j q x} e1 e2 e3=>?_⟩,
  λb ob e=>k b ob (nb b ob e).1 (nb b ob e).2 (I.keep b ob e),λb ob e=>?_,λa f=>I.gfoot a (f.set hoi hk),df (λb hb ob e nf=>⟨ob,k b ob (λz=>I.ffoot _ fp1 (z▸hb)) (λz=>I.ffoot _ fp2 (z▸hb)) e,nf⟩) I.ffun,I.fro,I.bg,I.os,I.bare,hs,λP hP=>?_,I.tlow,I.gtab⟩
 ·rw [JF] at e2
  split at e2
  ·rename_i hij;subst hij
   split at e2
   ·(replace e2:=ay e2;subst e2)
    rw [hi] at e1;(replace e1:=ay e1;subst e1)
    exact ho
   exact nNS e2
  rename_i hij
  have S:=I.rep.sep hi e1 hij
  exact (I.rep.obj e1 e2).move (GX _) (λob e=>k _ ob (Ne.symm S.1) (Ne.symm S.2.2.1) e) λob e=>k _ ob (Ne.symm S.2.1) (Ne.symm S.2.2.2) e
 ·obtain ⟨y,h5,h6⟩:=iu hoi hk e2
  exact I.rep.low e1 h5 (h6.trans e3)
 ·rw [JF] at e2
  split at e2
  ·rename_i hij;subst hij
   split at e2
   ·(replace e2:=ay e2;subst e2)
    rw [hi] at e1;(replace e1:=ay e1;subst e1)
    exact hc _ _ rfl
   exact nNS e2
  exact I.rep.self e1 e2
 ·by_cases hij:i=j
  ·subst hij
   rw [hi] at e1;(replace e1:=ay e1;subst e1)
   exact ⟨u1,u2⟩
  have S:=I.rep.sep hi e1 hij
  exact ⟨(I.rep.inb e1).1.imp λob e=>k _ ob (Ne.symm S.1) (Ne.symm S.2.2.1) e,(I.rep.inb e1).2.imp λob e=>k _ ob (Ne.symm S.2.1) (Ne.symm S.2.2.2) e⟩
 ·obtain ⟨y,h5,h6⟩:=iu hoi hk e2
  exact I.rep.rolow e1 h5 (h6.trans e3)
 ·obtain ⟨sl,q,r⟩:=I.prot b ob e
  refine ⟨sl,k _ _ (λz=>?_) (λz=>?_) q,r⟩
  ·have:=I.gfoot _ fp1;rw [<-z,e] at this;exact nSN this
  have:=I.gfoot _ fp2;rw [<-z,e] at this;exact nSN this
 obtain ⟨ps,e,t⟩:=I.tab P hP
 have:=I.tlow P hP
 have h1:=I.base_foot fp1
 have h2:=I.base_foot fp2
 exact ⟨ps,k _ _ (λz=>absurd this (Hr.mpr (z▸h1))) (λz=>absurd this (Hr.mpr (z▸h2))) e,t⟩
theorem PP.touch (I:PP c g fr ρ hp s) {h':Heap} {tk:Nat} {a:Nat} (k:∀b ob,b≠a->s.heap.get? b=some ob->h'.get? b=some ob) (hs:c.base.objs.size≤h'.objs.size)
  (na:¬PZ ρ hp a) (ga:g a=none) (ab:c.base.objs.size≤a) (nr:∀(i:Nat) p,ρ[i]?=some p->p.1≠a∧p.2≠a) (nf:a∈dB fr->∃o',h'.get? a=some o'∧∀vs,o'.data≠.fields vs):
  PP c g fr ρ hp {s with heap:=h',toks:=tk} where
 rep:=⟨I.rep.len,λe1 e2=>(I.rep.obj e1 e2).move (GX _) (λo e=>k _ o (nr _ _ e1).1 e) λo e=>k _ o (nr _ _ e1).2 e,I.rep.low,I.rep.sep,I.rep.self,λe1=>⟨(I.rep.inb e1).1.imp λob e=>k _ ob (nr _ _ e1).1 e,(I.rep.inb e1).2.imp λob e=>k _ ob (nr _ _ e1).2 e⟩,I.rep.rolow⟩
 keep:=λb o e=>k b o (λz=>absurd (Kj e) (Hr.mpr (z▸ab))) (I.keep b o e)
 prot:=λb o e=>by
  obtain ⟨sl,q,r⟩:=I.prot b o e
  exact ⟨sl,k _ _ (λz=>by rw [z,ga] at e;exact nNS e) q,r⟩
 gfoot:=I.gfoot
 ffun:=df (λb hb o e nfo=>by
  by_cases hb':b=a
  ·subst hb';exact nf hb
  exact ⟨o,k b o hb' e,nfo⟩) I.ffun
 fro:=I.fro
 bg:=I.bg
 os:=I.os
 bare:=I.bare
 size:=hs
 tab:=λP hP=>let ⟨ps,e,t⟩:=I.tab P hP;⟨ps,k _ _ (λz=>absurd (I.tlow P hP) (Hr.mpr (z▸ab))) e,t⟩
 tlow:=I.tlow
 gtab:=I.gtab
theorem PP.tabNo (I:PP c g fr ρ hp s) (h:c.base.objs.size≤a):a∉c.tabs:=λm=>absurd (I.tlow a m) (Hr.mpr h)
theorem PP.tabG (I:PP c g fr ρ hp s) (h:g a=some o):a∉c.tabs:=λm=>by rw [I.gtab a m] at h;exact nNS h
end
set_option genInjectivity false in
structure AS where
 hp:List O
 vars:Str->Option V
abbrev PT (α:Type):=AS->(α->AS->Prop)->(Nat->AS->Prop)->Prop
def PT.ret {α:Type} (a:α):PT α:=λst Q _=>Q a st
def PT.bind {α β:Type} (p:PT α) (q:α->PT β):PT β:=λst Q E=>p st (λa st'=>q a st' Q E) E
def PT.stuck {α:Type}:PT α:=λ_ _ _=>False
def PT.raise {α:Type} (C:Nat):PT α:=λst _ E=>E C st
noncomputable instance:Monad PT where
 pure:=PT.ret
 bind:=PT.bind
def upd (m:Str->Option V) (x:Str) (v:V):Str->Option V:=λy=>if y=x then some v else m y
def vE (c:Cx) (env:Env):Prop:=Ex2 λcc P=>P8 (env.code=.ref cc) (N0 c.K cc P=true) (P∈c.tabs)
structure QL (c:Cx) (g:GP) (fr:List Env) (wr:Str->Bool) (env:Env) (ρ:Rho) (hp:List O) (vars:Str->Option V) (h:Heap):Prop where
 kfun:env.scope.kind=.function
 glob:env.globals=Lv
 blt:env.builtins=N1
 ns:∃m,h.Ns env.locals m∧∀x v,env.kindOf x=some .local->vars x=some v->∃y,m x=some y∧PF ρ v y
 cel:∀x,env.kindOf x=some .cell∨env.kindOf x=some .free->∃a,env.cells.lookup x=some a∧∃ov,h.IsCell a ov∧∀v,vars x=some v->∃y,ov=some y∧PF ρ v y
 cis:∀x a,env.cells.lookup x=some a->∃ov,h.IsCell a ov
 lno:∀(i:Nat) p,ρ[i]?=some p->p.1≠env.locals∧p.2≠env.locals
 cno:∀x a,env.cells.lookup x=some a->∀(i:Nat) p,ρ[i]?=some p->p.1≠a∧p.2≠a
 lg:g env.locals=none
 cg:∀x a,wr x=true->env.kindOf x=some .cell->env.cells.lookup x=some a->g a=none
 apart:∀x y a,env.cells.lookup x=some a->env.cells.lookup y=some a->x=y
 cl:∀x a,env.cells.lookup x=some a->a≠env.locals
 low:c.base.objs.size≤env.locals
 clow:∀x a,env.cells.lookup x=some a->c.base.objs.size≤a
 cfr:∀x a,env.cells.lookup x=some a->a∉dB fr
 frame:Ex3 λe0 rest L0=>P8 (fr=e0::rest) (e0.frame=some L0) (env.frame=some L0)
 code:vE c env
structure Inv (c:Cx) (g:GP) (fr:List Env) (wr:Str->Bool) (env:Env) (ρ:Rho) (st:AS) (s:Ki):Prop where
 w:PP c g fr ρ st.hp s
 e:QL c g fr wr env ρ st.hp st.vars s.heap
structure PU (c:Cx) (g:GP) (fr:List Env) (hd:Bool) (D e:Nat) (A:Kw):Prop where
 ok:c.Ok
 frames:A.frames=some fr
 depth:A.depth+8*D+e<1000
 units:A.units+60*D+10*e<9900
 hnone:hd=true->A.handled=none
 hsome:A.handled=none∨Ex3 λeh oe vs=>Q6 (A.handled=some (.ref eh)) (g eh=some oe) (eh∉dB fr) (oe.data=.fields vs) (vs[2]?=some .none)
abbrev aU (c:Cx) (g:GP) (fr:List Env) (hd:Bool) (D:Nat) (A:Kw):Prop:=PU c g fr hd D 20 A
def P3 (g:GP) (ρ:Rho) (a:Nat):Prop:=g a=none∧∀(i:Nat) p,ρ[i]?=some p->p.1≠a∧p.2≠a
inductive Ru (c:Cx) (g:GP) (ρ:Rho) (x:Addr) (v:Value) (h:Heap):Prop
 |mk (T:_) (oT:_) (ts:_) (f3:_) (z1:v=.ref T) (z2:T≠x) (z3:h.get? T=some oT) (z4:oT.data=.fields ts) (z5:ts[3]?=some f3) (z6:True) (z7:P3 g ρ T) (z8:c.base.objs.size≤T):Ru c g ρ x v h
abbrev Fb (c:Cx) (g:GP) (ρ:Rho) (L:Option Addr) (x:Addr) (v:Value) (h:Heap):Prop:=Ru c g ρ x v h
inductive P6 (c:Cx) (g:GP) (ρ:Rho) (L:Option Addr) (C:Nat) (e:Value) (h:Heap):Prop
 |mk (x:_) (oe:_) (vs:_) (v1:_) (z1:e=.ref x) (z2:h.get? x=some oe) (z3:oe.cls=.ref C) (z4:oe.data=.fields vs) (z5:vs[2]?=some .none) (z6:P3 g ρ x) (z7:c.base.objs.size≤x) (z8:vs[1]?=some v1) (z9:v1=.none∨Fb c g ρ L x v1 h):P6 c g ρ L C e h
theorem P6.any (x:P6 c g ρ none C e h):P6 c g ρ L C e h:=by
 obtain ⟨a,oe,vs,v1,h1,h2,h3,h4,h5,h6,h7,h8,h9⟩:=x
 refine ⟨a,oe,vs,v1,h1,h2,h3,h4,h5,h6,h7,h8,h9.imp id ?_⟩
 rintro ⟨T,oT,ts,f3,k1,k2,k3,k4,k5,k6,k7,k8⟩
 exact ⟨T,oT,ts,f3,k1,k2,k3,k4,k5,trivial,k7,k8⟩
section
variable {c:Cx} {g:GP} {fr:List Env} {wr:Str->Bool} {env:Env} {A:Kw} {hd:Bool} {D:Nat}
inductive PG (c:Cx) (g:GP) (fr:List Env) (wr:Str->Bool) (env:Env) (ρ:Rho) {α β:Type} (R:Rho->β->α->Prop) (Q:β->AS->Prop) (a:α) (s':Ki):Prop
 |mk (ρ':Rho) (st':AS) (b:β) (h:ρ<+:ρ') (I:Inv c g fr wr env ρ' st' s') (r:R ρ' b a) (q:Q b st')
inductive PE (c:Cx) (g:GP) (fr:List Env) (wr:Str->Bool) (env:Env) (ρ:Rho) (E:Nat->AS->Prop) (e:Value) (s':Ki):Prop
 |mk (ρ':Rho) (st':AS) (C:Nat) (h:ρ<+:ρ') (I:Inv c g fr wr env ρ' st' s') (x:P6 c g ρ' env.frame C e s'.heap) (q:E C st')
def Sim (c:Cx) (g:GP) (fr:List Env) (wr:Str->Bool) (env:Env) (A:Kw) (ρ₀:Rho) {α β:Type} (t:Sem α) (p:PT β) (R:Rho->β->α->Prop):Prop:=
 ∀ρ st s Q E,ρ₀<+:ρ->Inv c g fr wr env ρ st s->p st Q E->
  Kg c.M A t (PG c g fr wr env ρ R Q) (PE c g fr wr env ρ E) s
variable {α β α' β':Type} {ρ₀:Rho}
theorem Sim.stuck:Sim c g fr wr env A ρ₀ t (PT.stuck:PT β) R:=λ_ _ _ _ _ _ _ hp=>hp.elim
theorem Sim.pre (hu:∀{Q:α'->Ki->Prop} {E:Value->Ki->Prop} {s:Ki},Q a s->Kg c.M A u Q E s)
  (ht:f a=t) (h:Sim c g fr wr env A ρ₀ t p R):Sim c g fr wr env A ρ₀ (u>>=f) p R:=by
 intro ρ st s Q E h0 I hp
 refine Ke (hu ?_)
 rw [ht];exact h ρ st s Q E h0 I hp
theorem bJ (h:∀(i:Nat) p,ρ[i]?=some p->p.1≠a∧p.2≠a):¬PZ ρ hp a:=λ⟨i,p,_,h1,_,_,h4⟩=>by
 rcases h4 with rfl|rfl
 ·exact (h i p h1).1 rfl
 exact (h i p h1).2 rfl
theorem lv {ρ:Rho} {st:AS} {s:Ki} {x:Str} {v:V} {Q:Value->Ki->Prop} {E:Value->Ki->Prop} (I:Inv c g fr wr env ρ st s) (hk:env.kindOf x=some .local∨env.kindOf x=some .cell∨env.kindOf x=some .free) (hv:st.vars x=some v)
  (hn:(x==("__classdict__":Str))=false) (h:∀y,PF ρ v y->Q y s):Kg c.M A (loadName env x) Q E s:=by
 rcases hk with hk|hk|hk
 ·obtain ⟨m,hm,hx⟩:=I.e.ns
  obtain ⟨y,hy,hr⟩:=hx x v hk hv
  exact LJ I.e.kfun hk hm hy (h y hr)
 ·obtain ⟨a,ha,ov,hc,hx⟩:=I.e.cel x (.inl hk)
  obtain ⟨y,rfl,hr⟩:=hx v hv
  exact wpAny_loadName_cell I.e.kfun hk ha hc (h y hr)
 obtain ⟨a,ha,ov,hc,hx⟩:=I.e.cel x (.inr hk)
 obtain ⟨y,rfl,hr⟩:=hx v hv
 exact wpAny_loadName_free I.e.kfun hk ha hc (h y hr) hn
theorem gt {ρ:Rho} {st:AS} {s:Ki} {x:Str} {v:V} {y:Value} {Q:Unit->Ki->Prop} {E:Value->Ki->Prop} (I:Inv c g fr wr env ρ st s) (hk:env.kindOf x=some .local∨env.kindOf x=some .cell) (hw:wr x=true) (hy:PF ρ v y)
  (h:∀h' tk,Inv c g fr wr env ρ {st with vars:=upd st.vars x v} {s with heap:=h',toks:=tk}->Q () {s with heap:=h',toks:=tk}):Kg c.M A (storeName env x y) Q E s:=by
 have' e:=I.e
 rcases hk with hk|hk
 ·obtain ⟨m,hm,hx⟩:=e.ns
  refine wpAny_storeName_local hk hm (λh' hn hs=>h h' _ ⟨?_,?_⟩) (by rw [e.kfun];rfl)
  ·refine I.w.touch (λb ob hb q=>(hs.2 b hb).trans q) (G2 I.w.size (HN hs.1.symm)) (bJ e.lno) e.lg e.low e.lno (λ_=>?_)
   obtain ⟨o,es,ep,ho,hd,_⟩:=hn
   exact ⟨o,ho,λvs q=>by rw [hd] at q;cases q⟩
  refine {e with ns:=⟨_,hn,λz v' hz hv=>?_⟩,cel:=λz hz=>?_,cis:=λz a ha=>let ⟨ov,q⟩:=e.cis z a ha;⟨ov,q.sameBut hs (e.cl z a ha)⟩}
  ·dsimp only [upd] at hv
   by_cases hzx:z=x
   ·rw [RA hzx] at hv⊢;(replace hv:=ay hv;subst hv);exact ⟨y,rfl,hy⟩
   rw [Rz hzx] at hv⊢;exact hx z v' hz hv
  obtain ⟨a,ha,ov,hc,hr⟩:=e.cel z hz
  refine ⟨a,ha,ov,hc.sameBut hs (e.cl z a ha),λv' hv=>hr v' ?_⟩
  dsimp only [upd] at hv
  rwa [Rz (λq=>by rw [q] at hz;rw [hk] at hz;rcases hz with hz|hz<;>cases hz)] at hv
 obtain ⟨a,ha,ov,hc,_⟩:=e.cel x (.inl hk)
 refine wpAny_storeName_cell e.kfun hk ha hc λh' hc' hs=>h h' s.toks ⟨?_,?_⟩
 ·refine I.w.touch (λb ob hb q=>(hs.2 b hb).trans q) (G2 I.w.size (HN hs.1.symm)) (bJ (e.cno x a ha)) (e.cg x a hw hk ha) (e.clow x a ha) (e.cno x a ha) (λhm=>absurd hm (e.cfr x a ha))
 obtain ⟨m,hm,hx⟩:=e.ns
 refine {e with ns:=⟨m,hm.sameBut hs (Ne.symm (e.cl x a ha)),λz v' hz hv=>hx z v' hz ?_⟩,cel:=λz hz=>?_,cis:=λz b hb=>?_}
 ·dsimp only [upd] at hv
  rwa [Rz (λq=>by rw [q] at hz;rw [hk] at hz;cases hz)] at hv
 ·by_cases hzx:z=x
  ·subst hzx
   refine ⟨a,ha,_,hc',λv' hv=>?_⟩
   dsimp only [upd] at hv;rw [RA rfl] at hv;(replace hv:=ay hv;subst hv)
   exact ⟨y,rfl,hy⟩
  obtain ⟨b,hb,ov',hcb,hr⟩:=e.cel z hz
  refine ⟨b,hb,ov',hcb.sameBut hs (λq=>hzx (e.apart z x b hb (q▸ha))),λv' hv=>hr v' ?_⟩
  dsimp only [upd] at hv;rwa [Rz hzx] at hv
 obtain ⟨ov',q⟩:=e.cis z b hb
 by_cases hba:b=a
 ·subst hba;exact ⟨_,hc'⟩
 exact ⟨ov',q.sameBut hs hba⟩
end
set_option backward.match.sparseCases false
abbrev FT:=Bool->List V->List O->(V->List O->Prop)->(Nat->List O->Prop)->Prop
set_option genInjectivity false in
inductive AK where
 |field
 |val (v:V)
 |fn (f:Nat)
 |prop (f:Nat)
 |stat (f:Nat)
set_option genInjectivity false in
structure Gam where
 glob:Str->Option Value
 fn:Nat->List Str->Option FT
 ak:Nat->Str->Option AK
 init:Nat->Option Nat
 exc:Nat->Bool
 excOk:Nat->List V->List O->Prop
 sub:Nat->Nat->Bool
 isa:Nat->Value->Option Bool
 cm:Nat->Str->Option Nat
 pure:Str->V->List O->Bool->Prop
def lim:Nat:=100000
def dg (o:O):PT V:=λst Q _=>Q (.obj st.hp.length) {st with hp:=st.hp++[o]}
def bX (v:V):PT (Nat×O):=λst Q _=>match v with
 |.obj i=>(match st.hp[i]? with
  |some o=>Q (i,o) st
  |none=>False)
 |_=>False
def oX (i:Nat) (o:O):PT Unit:=λst Q _=>Q () {st with hp:=st.hp.set i o}
def zi (i:Nat) (kv:List (Int×V)):PT Unit:=λst Q _=>∀ep,Q () {st with hp:=st.hp.set i (.dict ep kv)}
def bc (p:Prop):PT Unit:=λst Q _=>p∧Q () st
def chk {α:Type} (p:Prop) [Decidable p] (k:PT α):PT α:=if p then k else PT.stuck
def em (p:List O->Prop):PT Unit:=λst Q _=>p st.hp∧Q () st
def ad (x:Str):PT V:=λst Q _=>match st.vars x with
 |some v=>Q v st
 |none=>False
def al (x:Str) (v:V):PT Unit:=λst Q _=>Q () {st with vars:=upd st.vars x v}
def iw (ns:List Int):PT V:=λst Q _=>∀es ep t,Q (.obj st.hp.length) {st with hp:=st.hp++[.set ns es ep t]}
def Fc (i:Nat) (ns:List Int):PT Unit:=λst Q _=>∀es ep t,Q () {st with hp:=st.hp.set i (.set ns es ep t)}
def newList (vs:List V):PT V:=do bc (vs.length≤lim);dg (.list vs)
def cu (vs:List V):PT V:=do bc (vs.length≤lim);dg (.tup vs)
def dp {α:Type} (x:Option α):PT α:=λst Q _=>match x with
 |some a=>Q a st
 |none=>False
def ag (v:V):PT Bool:=match v with
 |.none=>pure false
 |.bool b=>pure b
 |.int i=>pure (i !=0)
 |.obj _=>do
  let (_,o) <-bX v
  match o with
  |.list vs=>do bc (vs.length≤lim);pure (!vs.isEmpty)
  |.ro ns=>do bc (ns.length≤lim);pure (!ns.isEmpty)
  |_=>PT.stuck
def dW (hp:List O):V->Bool
 |.obj i=>match hp[i]? with
  |some (.inst _ _)=>true
  |_=>false
 |_=>false
def isP (a b:V):PT Bool:=match a,b with
 |.none,.none=>pure true
 |.obj i,.obj j=>λst Q _=>dW st.hp (.obj i)=true∧dW st.hp (.obj j)=true∧Q (decide (i=j)) st
 |.obj _,.none=>pure false
 |.bool _,.none=>pure false
 |_,_=>PT.stuck
def dC:List V->Option (List Int)
 |[]=>some []
 |.int i::r=>(dC r).map (i::·)
 |_=>none
def aQ (hp:List O):Nat->V->Option N2
 |_,.none=>some .none
 |_,.bool b=>some (.bool b)
 |_,.int i=>some (.int i)
 |0,.obj _=>none
 |n+1,.obj i=>match hp[i]? with
  |some (.list vs)=>(vs.mapM (aQ hp n)).map .list
  |some (.tup vs)=>(vs.mapM (aQ hp n)).map .tuple
  |_=>none
def eqP (a b:V):PT Bool:=λst Q _=>match aQ st.hp 3 a,aQ st.hp 3 b with
 |some x,some y=>Q (Lh x y) st
 |_,_=>False
section
variable {α β:Type} [DecidableEq α]
def aj (l:List (α×β)) (k:α):Option β:=l.foldr (λp r=>if p.1=k then some p.2 else r) none
def aV (l:List (α×β)) (k:α) (v:β):List (α×β):=List.rec [(k,v)] (λp r ih=>if p.1=k then (p.1,v)::r else p::ih) l
theorem bE {p:α×β} {l:List (α×β)} {k:α}:aj (p::l) k=if p.1=k then some p.2 else aj l k:=rfl
theorem ca {p:α×β} {l:List (α×β)} {k:α} {v:β}:aV (p::l) k v=if p.1=k then (p.1,v)::l else p::aV l k v:=rfl
theorem bB (l:List (α×β)) (k:α) (v:β):(aV l k v).length≤l.length+1:=by
 induction l with
 |nil=>exact GW _
 |cons p r ih=>
  rw [ca]
  by_cases e:p.1=k
  ·rw [RA e];exact IK _
  rw [Rz e];exact JN ih
theorem bx (l:List (α×β)) (k k':α) (v:β):aj (aV l k v) k'=if k=k' then some v else aj l k':=by
 induction l with
 |nil=>rfl
 |cons p r ih=>
  rw [ca]
  by_cases e:p.1=k
  ·rw [RA e,bE,bE,e]
   by_cases e':k=k'
   ·rw [RA e',RA e']
   rw [Rz e',Rz e',Rz e']
  rw [Rz e,bE,bE,ih]
  by_cases e':k=k'
  ·rw [RA e',RA e',Rz λz=>e (z.trans e'.symm)]
  rw [Rz e',Rz e']
theorem br (l:List (α×β)) (k:α) (v:β):aj (aV l k v) k=some v:=(bx l k k v).trans (RA rfl)
theorem cw (l:List (α×β)) (k:α) (v:β):(aV l k v).map (·.1)=if k∈l.map (·.1) then l.map (·.1) else l.map (·.1)++[k]:=by
 induction l with
 |nil=>exact (Rz λz=>nomatch z).symm
 |cons p r ih=>
  rw [ca,Hc]
  by_cases e:p.1=k
  ·rw [RA e,RA (G0.mpr (.inl e.symm))];rfl
  rw [Rz e,Hc,ih]
  by_cases hm:k∈r.map (·.1)
  ·rw [RA hm,RA (List.mem_cons_of_mem _ hm)]
  rw [Rz hm,Rz λz=>(G0.mp z).elim (λz=>e z.symm) hm];rfl
theorem cx {l:List (α×β)} {k:α} (h:k∈l.map (·.1)):∃v,aj l k=some v:=by
 induction l with
 |nil=>exact nomatch h
 |cons p r ih=>
  rw [bE]
  by_cases e:p.1=k
  ·rw [RA e];exact ⟨_,rfl⟩
  rw [Rz e];exact ih ((G0.mp h).resolve_left λz=>e z.symm)
end
def inP (a b:V):PT Bool:=do
 let (_,o) <-bX b
 match o,a with
 |.set xs _ _ _,.int k=>pure (decide (k∈xs))
 |.dict _ kv,.int k=>pure (aj kv k).isSome
 |.list vs,.int k=>(match dC vs with
  |some ns=>do bc (vs.length≤lim);pure (decide (k∈ns))
  |none=>PT.stuck)
 |.tup vs,.obj i=>λst Q _=>(∃C fs,st.hp[i]?=some (.inst C fs)∧∀v∈vs,∃j fs',v=.obj j∧st.hp[j]?=some (.inst C fs'))∧vs.length≤lim∧Q (decide (V.obj i∈vs)) st
 |_,_=>PT.stuck
def bb (op:CmpOp) (a b:V):PT V:=match op with
 |.Is=>do let r <-isP a b;pure (.bool r)
 |.IsNot=>do let r <-isP a b;pure (.bool !r)
 |.Eq=>do let r <-eqP a b;pure (.bool r)
 |.NotEq=>do let r <-eqP a b;pure (.bool !r)
 |.In=>do let r <-inP a b;pure (.bool r)
 |.NotIn=>do let r <-inP a b;pure (.bool !r)
 |.Lt=>(match a,b with|.int i,.int j=>pure (.bool (decide (i<j)))|_,_=>PT.stuck)
 |.Gt=>(match a,b with|.int i,.int j=>pure (.bool (decide (j<i)))|_,_=>PT.stuck)
 |_=>PT.stuck
def bD (op:Ov) (a b:V):PT V:=match op,a,b with
 |.Add,.int i,.int j=>pure (.int (i+j))
 |.Sub,.int i,.int j=>pure (.int (i-j))
 |.Mod,.int i,.int j=>do bc (j≠0);pure (.int (i.fmod j))
 |.Add,.obj _,.obj _=>do
  let (_,o) <-bX a
  let (_,o') <-bX b
  match o,o' with
  |.list vs,.list ws=>newList (vs++ws)
  |_,_=>PT.stuck
 |.BitOr,.obj _,.obj _=>do
  let (_,o) <-bX a
  let (_,o') <-bX b
  match o,o' with
  |.set xs _ _ _,.set ys _ _ _=>iw (aW ys xs)
  |_,_=>PT.stuck
 |_,_,_=>PT.stuck
def idx (n:Nat) (i:Int):Option Nat:=if 0≤i then (if i.toNat<n then some i.toNat else none) else if-(n:Int)≤i then some (i+n).toNat else none
def aG (a k:V):PT V:=do
 let (_,o) <-bX a
 match o,k with
 |.dict _ kv,.int i=>dp (aj kv i)
 |.list vs,.int i=>do bc (-1000000<i∧i<1000000∧vs.length≤lim);let j <-dp (idx vs.length i);dp vs[j]?
 |.tup vs,.int i=>do bc (-1000000<i∧i<1000000∧vs.length≤lim);let j <-dp (idx vs.length i);dp vs[j]?
 |.ro ns,.int i=>do bc (-1000000<i∧i<1000000∧ns.length≤lim);let j <-dp (idx ns.length i);dp (ns[j]?.map .int)
 |_,_=>PT.stuck
def fg (a:V) (lo hi st:V):PT V:=do
 let (_,o) <-bX a
 match o,lo,hi,st with
 |.list vs,.none,.int k,.none=>do bc (0≤k∧vs.length≤lim);newList (vs.take k.toNat)
 |.list vs,.none,.none,.int k=>do bc (k= -1∧vs.length≤lim);newList vs.reverse
 |_,_,_,_=>PT.stuck
set_option genInjectivity false in
structure Src where
 items:List V
 G:List O->Prop
def aI (hd:Bool) (v:V):PT Src:=do
 bc (hd=true)
 let (i,o) <-bX v
 match o with
 |.list vs=>do bc (vs.length≤lim);pure ⟨vs,λhp=>hp[i]?=some (.list vs)⟩
 |.tup vs=>do bc (vs.length≤lim);pure ⟨vs,λhp=>hp[i]?=some (.tup vs)⟩
 |.dict ep kv=>do bc (kv.length≤lim);pure ⟨kv.map λp=>.int p.1,λhp=>∃kv',hp[i]?=some (.dict ep kv')∧kv'.map (·.1)=kv.map (·.1)⟩
 |.set ns es ep t=>λst Q _=>∀ws:List Int,ws.Perm ns->Q ⟨ws.map V.int,λhp=>hp[i]?=some (.set ns es ep t)⟩ st
 |_=>PT.stuck
def gK (v:V):PT Src:=do
 let (i,o) <-bX v
 match o with
 |.list vs=>do bc (vs.length≤lim);pure ⟨vs.reverse,λhp=>hp[i]?=some (.list vs)⟩
 |_=>PT.stuck
def cq (hd:Bool) (vs:List V):PT Src:=match vs with
 |[.int n]=>do bc (hd=true∧0≤n∧n≤lim);pure ⟨(Hf n.toNat).map λ(k:Nat)=>V.int k,λ_=>True⟩
 |_=>PT.stuck
set_option genInjectivity false in
inductive Fl where
 |next
 |cont
 |ret (v:V)
def gL (W:List O->(Str->Option V)->Prop) (Q:Fl->AS->Prop) (f:Fl) (st:AS):Prop:=match f with
 |.ret x=>Q (.ret x) st
 |_=>W st.hp st.vars
def bq (G:List O->Prop) (step:V->PT Fl):List V->PT Fl
 |[]=>λst Q _=>G st.hp∧Q .next st
 |v::r=>λst Q E=>G st.hp∧step v st (gL (λhp m=>bq G step r ⟨hp,m⟩ Q E) Q) E
def gM (G:List O->Prop) (step:V->PT (Option V)):List V->PT (List V)
 |[]=>λst Q _=>G st.hp∧Q [] st
 |v::r=>λst Q E=>G st.hp∧step v st (λo st'=>gM G step r st' (λl st''=>Q (match o with
  |some y=>y::l
  |none=>l) st'') E) E
def gu (test:PT Bool) (body:PT Fl):Nat->PT Fl
 |0=>PT.stuck
 |n+1=>λst Q E=>test st (λb st'=>if b=true then body st' (gL (λhp m=>gu test body n ⟨hp,m⟩ Q E) Q) E else Q .next st') E
abbrev V1 (α:Type) (P:α->Prop):=Option {a:α//P a}
abbrev V2 (α β:Type) (P:α->β->Prop):=Option {q:α×β//P q.1 q.2}
abbrev V3 (α β γ:Type) (P:α->β->γ->Prop):=Option {q:α×β×γ//P q.1 q.2.1 q.2.2}
def oE {α β:Type} (o:Option α) (f:α->β) (b:β):β:=match o with
 |some a=>f a
 |none=>b
def o1 {α β:Type} {P:α->Prop} (o:V1 α P) (f:α->β) (b:β):β:=oE o (λq=>f q.1) b
def o2 {α β γ:Type} {P:α->β->Prop} (o:V2 α β P) (f:α->β->γ) (b:γ):γ:=oE o (λq=>f q.1.1 q.1.2) b
def o3 {α β γ δ:Type} {P:α->β->γ->Prop} (o:V3 α β γ P) (f:α->β->γ->δ) (b:δ):δ:=oE o (λq=>f q.1.1 q.1.2.1 q.1.2.2) b
def one {α:Type}:(l:List α)->V1 α λa=>l=[a]
 |[a]=>some ⟨a,rfl⟩
 |_=>none
section
variable (Γ:Gam) (hd:Bool)
def dh (F:FT) (vs:List V):PT V:=λst Q E=>F hd vs st.hp (λv hp=>Q v {st with hp:=hp}) (λC hp=>E C {st with hp:=hp})
def cv (f:Nat) (vs:List V):PT V:=match Γ.fn f [] with
 |some F=>dh hd F vs
 |none=>PT.stuck
def fq (C:Nat) (vs:List V):PT V:=match Γ.init C with
 |some f=>do
  let x <-dg (.inst C [])
  let r <-cv Γ hd f (x::vs)
  bc (r=.none)
  pure x
 |none=>PT.stuck
def kh (v:V):PT V:=do
 let (_,o) <-bX v
 match o with
 |.list vs=>do bc (vs.length≤lim);pure (.int vs.length)
 |.tup vs=>do bc (vs.length≤lim);pure (.int vs.length)
 |.ro ns=>do bc (ns.length≤lim);pure (.int ns.length)
 |_=>PT.stuck
def mS (v:V):PT V:=do
 let (_,o) <-bX v
 match o with
 |.list vs=>cu vs
 |.tup _=>pure v
 |_=>PT.stuck
def ix (v:V):PT V:=do
 let (_,o) <-bX v
 match o with
 |.list vs=>newList vs
 |.tup vs=>newList vs
 |_=>PT.stuck
def zj:List Int->List Int
 |[]=>[]
 |x::r=>x::(zj r).filter λy=>y !=x
def qe (v:V):PT V:=do
 bc (hd=true)
 let (_,o) <-bX v
 match o with
 |.list vs=>(match dC vs with
  |some ns=>do bc (∀x∈ns,0≤x∧x<7);iw (aW ns [])
  |none=>PT.stuck)
 |_=>PT.stuck
def zk (x:Int):List Int->List Int
 |[]=>[x]
 |y::r=>if x≤y then x::y::r else y::zk x r
def zl:List Int->List Int
 |[]=>[]
 |x::r=>zk x (zl r)
def lw (v:V):PT V:=do
 bc (hd=true)
 let (_,o) <-bX v
 match o with
 |.set xs _ _ _=>newList (xs.map .int)
 |_=>PT.stuck
def u7 (b:String) (v:V):PT V:=if b="len" then kh v else if b="sorted" then lw hd v else PT.stuck
def u8 (T:String) (v:V):PT V:=if T="tuple" then mS v else if T="list" then ix v else if T="set" then qe hd v else PT.stuck
def az (fv:Value) (vs:List V):PT V:=match fv with
 |.ref a=>(match Γ.fn a [] with
  |some F=>dh hd F vs
  |none=>if Γ.exc a=true then (do em (Γ.excOk a vs);dg (.exc a)) else fq Γ hd a vs)
 |.builtin b=>o1 (one vs) (λv=>u7 hd b v) PT.stuck
 |.type T=>if vs.isEmpty=true then (if T="set" then iw [] else PT.stuck) else o1 (one vs) (λv=>u8 hd T v) PT.stuck
 |_=>PT.stuck
def fA (fv:Value) (ks:List Str) (vs:List V):PT V:=match fv with
 |.ref a=>(match Γ.fn a ks with
  |some F=>dh hd F vs
  |none=>PT.stuck)
 |_=>PT.stuck
def am (v:V) (x:Str):PT V:=do
 let (_,o) <-bX v
 match o with
 |.inst C fs=>(match Γ.ak C x with
  |some .field=>dp (aj fs x)
  |some (.val y)=>pure ((aj fs x).getD y)
  |some (.prop f)=>(λst Q _=>cv Γ hd f [v] st Q λ_ _=>False)
  |_=>PT.stuck)
 |_=>PT.stuck
def aC (v:V) (x:Str) (y:V):PT Unit:=do
 let (i,o) <-bX v
 match o with
 |.inst C fs=>(match Γ.ak C x with
  |some .field=>do bc (fs.length≤100);oX i (.inst C (aV fs x y))
  |some (.val _)=>do bc (fs.length≤100);oX i (.inst C (aV fs x y))
  |_=>PT.stuck)
 |_=>PT.stuck
def bL (a k y:V):PT Unit:=do
 let (i,o) <-bX a
 match o,k with
 |.dict ep kv,.int n=>do bc (kv.length≤lim);if (aj kv n).isSome=true then oX i (.dict ep (aV kv n y)) else zi i (aV kv n y)
 |_,_=>PT.stuck
def dI (i:Nat) (l:List V) (x:Str) (vs:List V):PT V:=
 if x=Kp "append" then (match vs with
  |[y]=>(do bc (l.length<lim);oX i (.list (l++[y]));pure .none)
  |_=>PT.stuck)
 else if x=Kp "insert" then (match vs with
  |[.int n,y]=>(do bc (n=0∧l.length<lim);oX i (.list (y::l));pure .none)
  |_=>PT.stuck)
 else PT.stuck
def gZ (i:Nat) (xs:List Int) (x:Str) (vs:List V):PT V:=
 if x=Kp "add" then (match vs with
  |[.int k]=>(do bc (0≤k∧k<7);Fc i (cI k xs);pure .none)
  |_=>PT.stuck)
 else PT.stuck
def dJ (i:Nat) (kv:List (Int×V)) (x:Str) (vs:List V):PT V:=
 if x=Kp "get" then (match vs with
  |[.int k,d]=>pure ((aj kv k).getD d)
  |_=>PT.stuck)
 else if x=Kp "clear" then (match vs with
  |[]=>(do bc (kv.length≤lim);zi i [];pure .none)
  |_=>PT.stuck)
 else PT.stuck
set_option genInjectivity false in
inductive Rg where
 |fn (f:Nat)
 |stat (f:Nat)
 |lst
 |set
 |dct
def cb (m:Rg) (x:Str):Bool:=match m with
 |.lst=>x==Kp "append"||x==Kp "insert"
 |.set=>x==Kp "add"
 |.dct=>x==Kp "get"||x==Kp "clear"
 |_=>true
def aA (v:V) (x:Str):PT Rg:=do
 let (_,o) <-bX v
 match o with
 |.inst C fs=>(match Γ.ak C x with
  |some (.fn f)=>(do bc (aj fs x=none);pure (.fn f))
  |some (.stat f)=>(do bc (aj fs x=none);pure (.stat f))
  |_=>PT.stuck)
 |.list _=>(do bc (cb .lst x=true);pure .lst)
 |.set _ _ _ _=>(do bc (cb .set x=true);pure .set)
 |.dict _ _=>(do bc (cb .dct x=true);pure .dct)
 |_=>PT.stuck
def ax (v:V) (x:Str) (m:Rg) (vs:List V):PT V:=match m with
 |.fn f=>cv Γ hd f (v::vs)
 |.stat f=>cv Γ hd f vs
 |.lst=>do
  let (i,o) <-bX v
  match o with
  |.list l=>dI i l x vs
  |_=>PT.stuck
 |.set=>do
  let (i,o) <-bX v
  match o with
  |.set l _ _ _=>gZ i l x vs
  |_=>PT.stuck
 |.dct=>do
  let (i,o) <-bX v
  match o with
  |.dict _ l=>dJ i l x vs
  |_=>PT.stuck
end
set_option genInjectivity false in
structure EC where
 kd:Str->Option K0
 wr:Str->Bool
def EC.isVar (ec:EC) (x:Str):Bool:=!(x==("__debug__":Str))&&!(x==("__classdict__":Str))&&match ec.kd x with
 |some .local=>true
 |some .cell=>true
 |some .free=>true
 |_=>false
def gv (ec:EC) (sc:MZ):List (Str×K0):=sc.names.map λ(n,k)=>if k==.free&&ec.kd n==some .cell then (n,.cell) else (n,k)
def EC.comp (ec:EC) (sc:MZ):EC:=⟨λx=>(gv ec sc).lookup x,λx=>(sc.names.lookup x==some .local||sc.names.lookup x==some .cell)⟩
def fB (ec:EC) (sc:MZ) (x:Str):Bool:=
 sc.kind==.function&&sc.names.all (λp=>sc.names.lookup p.1==some p.2)&&sc.names.all (λp=>p.2 !=.free||ec.kd p.1==some .cell||ec.kd p.1==some .free)&&
  (sc.names.lookup x==some .local||sc.names.lookup x==some .cell)
def qf (sc:MZ) (x:Str):Bool:=
 sc.kind==.function&&!sc.isCoroutine&&sc.names.all (λp=>p.2==.local)&&sc.names.lookup (".0":Str)==some NameKind.local&&sc.names.lookup x==some .local
def n9:Expr->Bool
 |.Name _ _=>true
 |_=>false
def lx (sc:MZ) (vars:Str->Option V):Str->Option V:=λx=>if sc.names.lookup x==some .free then vars x else none
def aZ:Expr->Bool
 |.Starred _ _=>true
 |_=>false
def dX:Expr->Bool
 |.ListComp _ _ _ _=>true
 |.SetComp _ _ _ _=>true
 |.DictComp _ _ _ _ _=>true
 |_=>false
def qg:Expr->Bool
 |.Tuple _ _ _=>true
 |_=>false
def ew:Expr->Bool
 |.Set _ _ _=>true
 |_=>false
def two {α:Type}:(l:List α)->V2 α α λa b=>l=[a,b]
 |[a,b]=>some ⟨(a,b),rfl⟩
 |_=>none
def gN:(e:Expr)->V1 Str λx=>∃p,e=.Name x p
 |.Name x p=>some ⟨x,p,rfl⟩
 |_=>none
def jy:(e:Expr)->V3 Expr Str Pos λa x p=>e=.Attribute a x p
 |.Attribute e x p=>some ⟨(e,x,p),rfl⟩
 |_=>none
def Fd:(e:Expr)->V2 Expr Expr λa k=>∃p,e=.Subscript a k p
 |.Subscript a k p=>some ⟨(a,k),p,rfl⟩
 |_=>none
def qh:(e:Expr)->V3 (Option Expr) (Option Expr) (Option Expr) λa b c=>∃p,e=.Slice a b c p
 |.Slice a b c p=>some ⟨(a,b,c),p,rfl⟩
 |_=>none
def qi:(e:Expr)->V3 Expr (List Expr) Pos λf es p=>e=.Call f es [] p
 |.Call f es [] p=>some ⟨(f,es,p),rfl⟩
 |_=>none
def zm:(e:Expr)->V1 Int λi=>∃k p,e=.Constant (.int i) k p
 |.Constant (.int i) k p=>some ⟨i,k,p,rfl⟩
 |_=>none
def zn:(e:Expr)->V1 Unit λ_=>∃k p,e=.Constant .none k p
 |.Constant .none k p=>some ⟨(),k,p,rfl⟩
 |_=>none
def u9:(e:Expr)->V2 Str Str λx y=>∃p p' n q,e=.Tuple [.Name x p,.Name y p'] n q
 |.Tuple [.Name x p,.Name y p'] n q=>some ⟨(x,y),p,p',n,q,rfl⟩
 |_=>none
def sJ:(gs:List No)->V3 Str Expr (List Expr) λx it ifs=>∃p,gs=[⟨.Name x p,it,ifs,0⟩]
 |[⟨.Name x p,it,ifs,0⟩]=>some ⟨(x,it,ifs),p,rfl⟩
 |_=>none
def zo:(e:Expr)->V3 Expr (List No) MZ λelt gs sc=>∃p,e=.ListComp elt gs sc p
 |.ListComp elt gs sc p=>some ⟨(elt,gs,sc),p,rfl⟩
 |_=>none
def zp:(e:Expr)->V3 Expr (List No) MZ λelt gs sc=>∃p,e=.GeneratorExp elt gs sc p
 |.GeneratorExp elt gs sc p=>some ⟨(elt,gs,sc),p,rfl⟩
 |_=>none
def qj:(hs:List ExceptHandler)->V3 Expr Stmt (List Stmt) λe b h=>∃p,hs=[.ExceptHandler (some e) none (b::h) p]
 |[.ExceptHandler (some e) none (b::h) p]=>some ⟨(e,b,h),p,rfl⟩
 |_=>none
def mT (e:Expr) (x:Str):Bool:=o1 (gN e) (λy=>y==x) false
def sK:(o:Option Value)->V1 Nat λa=>o=some (.ref a)
 |some (.ref a)=>some ⟨a,rfl⟩
 |_=>none
def oh:(o:Option Value)->V1 String λT=>o=some (.type T)
 |some (.type T)=>some ⟨T,rfl⟩
 |_=>none
def vF:(o:Option Value)->V1 String λb=>o=some (.builtin b)
 |some (.builtin b)=>some ⟨b,rfl⟩
 |_=>none
def bM (Γ:Gam) (ec:EC):Expr->Option Value
 |.Name x _=>if ec.kd x==some .globalImplicit then Γ.glob x else none
 |_=>none
section
variable {α β γ δ:Type} {st:AS} {Q:δ->AS->Prop} {E:Nat->AS->Prop} {G:Prop} {b:PT δ}
theorem ez (h1:∀a,o=some a->f a st Q E->G) (h2:o=none->b st Q E->G):oE o f b st Q E->G:=by
 induction o with
 |some a=>exact h1 a rfl
 |none=>exact h2 rfl
theorem cX {p:Prop} {_:Decidable p} {a:PT δ} (h1:p->a st Q E->G) (h2:¬p->b st Q E->G):(if p then a else b) st Q E->G:=by
 by_cases c:p
 ·rw [RA c];exact h1 c
 rw [Rz c];exact h2 c
theorem cD {P:α->Prop} {o:V1 α P} {f:α->PT δ} (h1:∀a,P a->f a st Q E->G) (h2:o=none->b st Q E->G):o1 o f b st Q E->G:=ez (λa _=>h1 a.1 a.2) h2
theorem ki {P:α->β->Prop} {o:V2 α β P} {f:α->β->PT δ} (h1:∀x y,P x y->f x y st Q E->G) (h2:o=none->b st Q E->G):o2 o f b st Q E->G:=ez (λa _=>h1 _ _ a.2) h2
theorem cK {P:α->β->γ->Prop} {o:V3 α β γ P} {f:α->β->γ->PT δ} (h1:∀x y z,P x y z->f x y z st Q E->G) (h2:o=none->b st Q E->G):o3 o f b st Q E->G:=ez (λa _=>h1 _ _ _ a.2) h2
theorem fR {p:Prop} {_:Decidable p} {a:PT δ} (h1:p->a st Q E->G):(if p then a else PT.stuck) st Q E->G:=cX h1 λ_=>False.elim
theorem kj (h1:∀a,o=some a->f a st Q E->G):oE o f PT.stuck st Q E->G:=ez h1 λ_=>False.elim
theorem ce {P:α->Prop} {o:V1 α P} {f:α->PT δ} (h1:∀a,P a->f a st Q E->G):o1 o f PT.stuck st Q E->G:=cD h1 λ_=>False.elim
theorem kl {P:α->β->Prop} {o:V2 α β P} {f:α->β->PT δ} (h1:∀x y,P x y->f x y st Q E->G):o2 o f PT.stuck st Q E->G:=ki h1 λ_=>False.elim
theorem fS {P:α->β->γ->Prop} {o:V3 α β γ P} {f:α->β->γ->PT δ} (h1:∀x y z,P x y z->f x y z st Q E->G):o3 o f PT.stuck st Q E->G:=cK h1 λ_=>False.elim
end
section
variable (Γ:Gam) (hd:Bool)
set_option genInjectivity false in
structure Ev where
 E:EC->Expr->PT V
 T:EC->Expr->PT Bool
 S:EC->Stmt->PT Fl
def Ev.none:Ev:=⟨λ_ _=>PT.stuck,λ_ _=>PT.stuck,λ_ _=>PT.stuck⟩
end
section
variable (r:Ev)
def fh (ec:EC):List Expr->PT (List V)
 |[]=>pure []
 |e::l=>chk (aZ e=false) (do let v <-r.E ec e;let vs <-fh ec l;pure (v::vs))
def mU (ec:EC) (op:BoolOp):List Expr->PT V
 |[]=>PT.stuck
 |[e]=>r.E ec e
 |e::l=>do
  let v <-r.E ec e
  let b <-ag v
  match op,b with
  |.And,false=>pure v
  |.Or,true=>pure v
  |_,_=>mU ec op l
def vG (ec:EC) (op:BoolOp):List Expr->PT Bool
 |[]=>pure (op==.And)
 |e::l=>do
  let b <-r.T ec e
  match op,b with
  |.And,false=>pure false
  |.Or,true=>pure true
  |_,_=>vG ec op l
def ly (ec:EC):List Expr->PT Bool
 |[]=>pure true
 |e::l=>do let b <-r.T ec e;if b=true then ly ec l else pure false
def cU (ec:EC):List Stmt->PT Fl
 |[]=>pure .next
 |s::l=>do
  let f <-r.S ec s
  match f with
  |.next=>cU ec l
  |f=>pure f
def eA (Γ:Gam) (hd:Bool) (ec:EC) (e:Expr):PT Src:=o3 (qi e) (λf es p=>o1 (oh (bM Γ ec f)) (λT=>
   if T="tuple" then (do let v <-r.E ec (.Call f es [] p);aI hd v)
   else if T="range" then chk (es.any aZ=false) (do let vs <-fh r ec es;cq hd vs)
   else if T="reversed" then chk (es.any aZ=false) (do let vs <-fh r ec es;o1 (one vs) gK PT.stuck)
   else PT.stuck)
  (o1 (vF (bM Γ ec f)) (λb=>if b="sorted" then (do let v <-r.E ec (.Call f es [] p);aI hd v) else PT.stuck) PT.stuck))
 (chk (ew e=false) (do let v <-r.E ec e;aI hd v))
def gw (ec:EC) (sc:MZ) (x:Str) (elt:Expr) (ifs:List Expr) (src:Src):PT (List V):=λst Q E=>
 gM src.G (λv=>do
  al x v
  let b <-ly r (ec.comp sc) ifs
  if b=true then (do let y <-r.E (ec.comp sc) elt;pure (some y)) else pure none) src.items ⟨st.hp,lx sc st.vars⟩
  (λvs st'=>Q vs ⟨st'.hp,st.vars⟩) (λC st'=>E C ⟨st'.hp,st.vars⟩)
variable (Γ:Gam) (hd:Bool)
def dK (e:Expr):Bool:=match e with
 |.Call f es kws _=>!((gN f).isSome&&es.isEmpty&&kws.isEmpty)
 |_=>true
def g9:List NI->Option (List Str)
 |[]=>some []
 |⟨some n,_,_⟩::l=>(g9 l).map (n::·)
 |_=>none
def km:List NI->List Expr
 |[]=>[]
 |⟨_,e,_⟩::l=>e::km l
def qk (ec:EC) (f:Expr) (es:List Expr) (kws:List NI) (p:Pos):PT V:=o3 (jy f) (λe x ap=>chk (dK e=true∧(ap.endLine==p.line)=true∧es.length<20∧kws.isEmpty=true∧es.any aZ=false)
  (do let v <-r.E ec e;let m <-aA Γ v x;let vs <-fh r ec es;ax Γ hd v x m vs))
 (oE (bM Γ ec f) (λfv=>match kws with
   |[]=>chk (es.any aZ=false) (do let vs <-fh r ec es;az Γ hd fv vs)
   |_::_=>oE (g9 kws) (λks=>chk (es.any aZ=false∧es.isEmpty=false) (do let vs <-fh r ec es;let ws <-fh r ec (km kws);chk (ws.length=ks.length) (fA Γ hd fv ks (vs++ws)))) PT.stuck) PT.stuck)
def eB (v:V) (tv:Value):PT V:=do
 let (_,o) <-bX v
 match o with
 |.list _=>(do bc (tv=.type "list");pure (.bool true))
 |.inst C _=>(match Γ.isa C tv with
  |some b=>pure (.bool b)
  |none=>PT.stuck)
 |_=>PT.stuck
def jz:List V->PT (List V)
 |[]=>pure []
 |v::r=>do let b <-ag v;let l <-jz r;pure (if b=true then v::l else l)
def dY (hd:Bool) (v:V):PT V:=do
 bc (hd=true)
 let (_,o) <-bX v
 match o with
 |.list vs=>do bc (vs.length≤lim);let l <-jz vs;newList l
 |_=>PT.stuck
def dZ (hd:Bool) (v:V):PT V:=do
 bc (hd=true)
 let (_,o) <-bX v
 match o with
 |.dict _ kv=>do bc (kv=[]);cu []
 |_=>PT.stuck
def mV (hd:Bool) (x:Str) (v:V):PT V:=do
 bc (hd=true)
 let (_,o) <-bX v
 match o with
 |.list vs=>do
  bc (vs.length≤lim)
  λst Q _=>∃bs:List Bool,bs.length=vs.length∧(∀(i:Nat) w b,vs[i]?=some w->bs[i]?=some b->Γ.pure x w st.hp b)∧Q (.bool (bs.any id)) st
 |_=>PT.stuck
def vd (ec:EC) (e:Expr) (x:Str) (ap:Pos) (es:List Expr) (p:Pos) (fb:PT V):PT V:=o1 (sK (bM Γ ec e)) (λC=>oE (Γ.cm C x) (λm=>
 chk ((ap.endLine==p.line)=true∧es.length<20∧es.any aZ=false) (do let vs <-fh r ec es;cv Γ hd m vs)) fb) fb
def zq (ec:EC) (f elt:Expr) (gs:List No) (sc:MZ) (fb:PT V):PT V:=o1 (vF (bM Γ ec f)) (λb=>o3 (jy elt) (λy a _=>o3 (sJ gs) (λx it ifs=>if b="any"∧ifs.isEmpty=true∧mT y x=true then
   chk (qf sc x=true∧n9 it=true∧(x==("__debug__":Str))=false) (do bc (hd=true);let v <-r.E ec it;mV Γ hd a v) else fb) fb) fb) fb
def zr (ec:EC) (f g:Expr) (es:List Expr) (fb:PT V):PT V:=o1 (oh (bM Γ ec f)) (λT=>o1 (oh (bM Γ ec g)) (λU=>o2 (two es) (λn e=>if T="list"∧U="filter" then o1 (zn n) (λ_=>chk (aZ e=false) (do let v <-r.E ec e;dY hd v)) fb else fb) fb) fb) fb
def zt (ec:EC) (f e:Expr) (m:Str) (ap p:Pos) (es:List Expr) (fb:PT V):PT V:=o1 (oh (bM Γ ec f)) (λT=>if T="tuple"∧m=Kp "values"∧es.isEmpty=true then chk (dK e=true∧(ap.endLine==p.line)=true) (do let v <-r.E ec e;dZ hd v) else fb) fb
def ve (ec:EC) (f e t:Expr) (fb:PT V):PT V:=o1 (vF (bM Γ ec f)) (λb=>oE (bM Γ ec t) (λtv=>if b="isinstance" then chk (aZ e=false) (do let v <-r.E ec e;eB Γ v tv) else fb) fb) fb
def vf (ec:EC) (f a:Expr) (fb:PT V):PT V:=o3 (zp a) (λelt gs sc=>zq r Γ hd ec f elt gs sc fb) (o3 (qi a) (λg es p=>o3 (jy g) (λe m ap=>zt r Γ hd ec f e m ap p es fb) (zr r Γ hd ec f g es fb)) fb)
def zu (ec:EC) (f:Expr) (es:List Expr) (p:Pos) (fb:PT V):PT V:=o3 (jy f) (λe x ap=>vd r Γ hd ec e x ap es p fb) (o1 (one es) (λa=>vf r Γ hd ec f a fb) (o2 (two es) (λe t=>ve r Γ ec f e t fb) fb))
def vg (ec:EC) (f:Expr) (es:List Expr) (kws:List NI) (p:Pos):PT V:=if kws.isEmpty=true then zu r Γ hd ec f es p (qk r Γ hd ec f es kws p) else qk r Γ hd ec f es kws p
def vH (c:Const):PT V:=match c with
 |.none=>pure .none
 |.bool b=>pure (.bool b)
 |.int i=>pure (.int i)
 |_=>PT.stuck
def unE (ec:EC) (op:UnaryOp) (e:Expr):PT V:=match op with
 |.Not=>do let a <-r.E ec e;let b <-ag a;pure (.bool !b)
 |.USub=>o1 (zm e) (λi=>pure (.int (-i))) PT.stuck
 |_=>PT.stuck
def zv (ec:EC) (e k:Expr):PT V:=o3 (qh k) (λlo hi sp=>match lo,hi,sp with
  |none,some h,none=>do let v <-r.E ec e;let k <-r.E ec h;fg v .none k .none
  |none,none,some h=>do let v <-r.E ec e;let k <-r.E ec h;fg v .none .none k
  |_,_,_=>PT.stuck)
 (do let v <-r.E ec e;let i <-r.E ec k;aG v i)
def vh (ec:EC):Expr->PT V
 |.Constant c _ _=>vH c
 |.Name x _=>if ec.isVar x=true then ad x else PT.stuck
 |.BinOp l op q _=>do let a <-r.E ec l;let b <-r.E ec q;bD op a b
 |.UnaryOp op e _=>unE r ec op e
 |.BoolOp op es _=>mU r ec op es
 |.IfExp t a b _=>do let c <-r.T ec t;if c=true then r.E ec a else r.E ec b
 |.List es _=>do let vs <-fh r ec es;newList vs
 |.Tuple es _ _=>do let vs <-fh r ec es;cu vs
 |.Dict ks vs _=>chk (ks.isEmpty=true∧vs.isEmpty=true) (dg (.dict 0 []))
 |.Compare l ops qs _=>o1 (one ops) (λop=>o1 (one qs) (λq=>chk (ew q=false) (do let a <-r.E ec l;let b <-r.E ec q;bb op a b)) PT.stuck) PT.stuck
 |.Attribute e x _=>chk (dK e=true) (do let v <-r.E ec e;am Γ hd v x)
 |.Subscript e k _=>zv r ec e k
 |.ListComp elt gs sc _=>o3 (sJ gs) (λx it ifs=>chk (fB ec sc x=true) (do
   let src <-eA r Γ hd ec it
   let vs <-gw r ec sc x elt ifs src
   newList vs)) PT.stuck
 |.Call f es kws p=>vg r Γ hd ec f es kws p
 |_=>PT.stuck
def vi (ec:EC) (e:Expr):PT Bool:=match e with
 |.UnaryOp op e' p=>if op=.Not then (do let b <-r.T ec e';pure !b) else (do let v <-r.E ec (.UnaryOp op e' p);ag v)
 |.BoolOp op es _=>vG r ec op es
 |.Compare l ops qs _=>o1 (one ops) (λop=>o1 (one qs) (λq=>chk (ew q=false) (do let a <-r.E ec l;let b <-r.E ec q;let c <-bb op a b;ag c)) PT.stuck) PT.stuck
 |.IfExp _ _ _ _=>PT.stuck
 |e=>do let v <-r.E ec e;ag v
def aL (ec:EC) (x:Str) (v:V):PT Unit:=chk ((ec.kd x=some .local∨ec.kd x=some .cell)∧ec.wr x=true) (al x v)
def cL (hd:Bool) (v:V):PT (V×V):=do
 bc (hd=true)
 let (_,o) <-bX v
 match o with
 |.tup [a,b]=>pure (a,b)
 |_=>PT.stuck
def cE (a i j y:V):PT Unit:=do
 let (k,o) <-bX a
 let (_,o') <-bX y
 match o,i,j,o' with
 |.list vs,.int m,.int n,.tup ws=>do
  bc (m=n∧0≤m∧m≤vs.length∧vs.length+ws.length≤lim)
  oX k (.list (vs.take m.toNat++ws++vs.drop m.toNat))
 |_,_,_,_=>PT.stuck
def zw (ec:EC) (y:Str) (e:Expr):PT Fl:=o3 (zo e) (λelt gs sc=>o3 (sJ gs) (λx it ifs=>chk (fB ec sc x=true) (do
  let src <-eA r Γ hd ec it
  let vs <-gw r ec sc x elt ifs src
  let v <-newList vs
  aL ec y v
  pure .next)) PT.stuck)
 (chk (dX e=false) (do let v <-r.E ec e;aL ec y v;pure .next))
def Ff (ec:EC) (o k e:Expr):PT Fl:=o3 (qh k) (λlo hi sp=>match lo,hi,sp with
  |some i,some j,none=>do let v <-r.E ec e;let ov <-r.E ec o;let iv <-r.E ec i;let jv <-r.E ec j;cE ov iv jv v;pure .next
  |_,_,_=>PT.stuck)
 (do let v <-r.E ec e;let ov <-r.E ec o;let kv <-r.E ec k;bL ov kv v;pure .next)
def zx (ec:EC) (t e:Expr):PT Fl:=o1 (gN t) (λy=>zw r Γ hd ec y e)
 (o3 (jy t) (λo x _=>chk (dX e=false) (do let v <-r.E ec e;let ov <-r.E ec o;aC Γ ov x v;pure .next))
 (o2 (Fd t) (λo k=>chk (dX e=false) (Ff r ec o k e))
 (o2 (u9 t) (λx y=>chk (dX e=false∧qg e=false) (do let v <-r.E ec e;let (a,b) <-cL hd v;aL ec x a;aL ec y b;pure .next)) PT.stuck)))
def Fg (ec:EC) (t u e:Expr):PT Fl:=o1 (gN t) (λy=>o3 (jy u) (λo x _=>do let v <-r.E ec e;aL ec y v;let ov <-r.E ec o;aC Γ ov x v;pure .next) PT.stuck) PT.stuck
def zy (ec:EC) (ts:List Expr) (e:Expr):PT Fl:=o1 (one ts) (λt=>zx r Γ hd ec t e) (o2 (two ts) (λt u=>Fg r Γ ec t u e) PT.stuck)
def vI (ec:EC) (x:Str) (op:Ov) (e:Expr):PT Fl:=chk (ec.isVar x=true∧op=.Add) (do
  let a <-ad x
  let b <-r.E ec e
  match a,b with
  |.int i,.int j=>(do let c <-bD op (.int i) (.int j);aL ec x c;pure .next)
  |_,_=>PT.stuck)
def zA (ec:EC) (t it:Expr) (b:List Stmt):PT Fl:=o1 (gN t) (λx=>do
  let src <-eA r Γ hd ec it
  bq src.G (λv=>do aL ec x v;cU r ec b) src.items)
 (o2 (u9 t) (λx y=>do
  let src <-eA r Γ hd ec it
  bq src.G (λv=>do let (p,q) <-cL hd v;aL ec x p;aL ec y q;cU r ec b) src.items) PT.stuck)
def ql (ec:EC) (e:Expr):PT Fl:=o1 (sK (bM Γ ec e)) (λC=>do bc (hd=true∧Γ.exc C=true);em (Γ.excOk C []);PT.raise C)
 (o3 (qi e) (λf es _=>o1 (sK (bM Γ ec f)) (λC=>chk (es.any aZ=false∧es.isEmpty=false) (do let vs <-fh r ec es;bc (hd=true∧Γ.exc C=true);em (Γ.excOk C vs);PT.raise C)) PT.stuck) PT.stuck)
def vj (ec:EC):Stmt->PT Fl
 |.Assign ts e _=>zy r Γ hd ec ts e
 |.Expr e _=>chk (dX e=false) (do let _ <-r.E ec e;pure .next)
 |.Continue _=>pure .cont
 |.Return o _=>oE o (λe=>do let v <-r.E ec e;pure (.ret v)) (pure (.ret .none))
 |.AugAssign t op e _=>o1 (gN t) (λx=>vI r ec x op e) PT.stuck
 |.If t b o _=>do let c <-r.T ec t;if c=true then cU r ec b else cU r ec o
 |.While t b o _=>chk (o.isEmpty=true) (λst Q E=>∃n,gu (r.T ec t) (cU r ec b) n st Q E)
 |.For t it b o _=>chk (o.isEmpty=true) (zA r Γ hd ec t it b)
 |.Assert t _ _=>do let c <-r.T ec t;bc (c=true);pure .next
 |.Raise o c _=>oE o (λe=>oE c (λ_=>PT.stuck) (ql r Γ hd ec e)) PT.stuck
 |_=>PT.stuck
end
def ev (Γ:Gam) (hd:Bool):Nat->Ev
 |0=>Ev.none
 |n+1=>⟨vh (ev Γ hd n) Γ hd,vi (ev Γ hd n),λec s=>match s with
  |.Try b hs o f p=>chk (o.isEmpty=true∧f.isEmpty=true) (o3 (qj hs) (λe O0 h=>o1 (sK (bM Γ ec e)) (λC=>
    λst Q E=>Γ.exc C=true∧cU (ev Γ hd n) ec b st Q (λC' st'=>Γ.exc C'=true∧if Γ.sub C' C=true then cU (ev Γ false n) ec (O0::h) st' Q E else E C' st')) PT.stuck) PT.stuck)
  |s=>vj (ev Γ hd n) Γ hd ec s⟩
set_option backward.match.sparseCases true
theorem ci {α:Type} {p:Prop} {_:Decidable p} {k:PT α} {st:AS} {Q:α->AS->Prop} {E:Nat->AS->Prop} (h:chk p k st Q E):p∧k st Q E:=by
 unfold chk at h
 split at h
 ·rename_i hp;exact ⟨hp,h⟩
 exact h.elim
set_option backward.match.sparseCases false
def Fh:Fl->V
 |.ret v=>v
 |_=>.none
def mW (Q:V->List O->Prop) (f:Fl) (st:AS):Prop:=Q (Fh f) st.hp
def iz (E:Nat->List O->Prop) (C:Nat) (st:AS):Prop:=E C st.hp
def fi (K:Frag) (f:Nat):Option NJ:=match K.lookup f with
 |some ⟨_,_,.func fd,_⟩=>some fd
 |_=>none
def an (K:Frag) (f:Nat):List Stmt:=match fi K f with
 |some fd=>(match fd.body with|.stmts b=>b|_=>[])
 |none=>[]
def aF (K:Frag) (f:Nat):Str->Option K0:=λx=>match fi K f with
 |some fd=>fd.scope.names.lookup x
 |none=>none
def aD (ns:List Str) (vs:List V):Option (List (Str×V)):=if vs.length=ns.length then some (ns.zip vs) else none
def aq (Γ:Gam) (n:Nat) (kd:Str->Option K0) (body:List Stmt) (bnd:List V->Option (List (Str×V))):FT:=λhd vs hp Q E=>match bnd vs with
 |some bs=>(bs.map (·.1)).Nodup∧cU (ev Γ hd n) ⟨kd,λ_=>true⟩ body ⟨hp,λx=>bs.lookup x⟩ (mW Q) (iz E)
 |none=>False
abbrev FnT:=Nat->List Str->Option FT
def aM (p q:PT Fl):PT Fl:=do
 let f <-p
 match f with
 |.next=>q
 |f=>pure f
def iA (t:PT Bool) (b:PT Fl):PT Fl:=λst Q E=>∃n,gu t b n st Q E
def dD (ns:List (Str×K0)) (vars:Str->Option V):Str->Option V:=λx=>if ns.lookup x==some .free then vars x else none
def bP (ns:List (Str×K0)) (x:Str) (ifs:PT Bool) (elt:PT V) (src:Src):PT (List V):=λst Q E=>
 gM src.G (λv=>do
  al x v
  let b <-ifs
  if b=true then (do let y <-elt;pure (some y)) else pure none) src.items ⟨st.hp,dD ns st.vars⟩
  (λvs st'=>Q vs ⟨st'.hp,st.vars⟩) (λC st'=>E C ⟨st'.hp,st.vars⟩)
def boV (op:BoolOp) (v:V) (b:Bool) (q:PT V):PT V:=match op,b with
 |.And,false=>pure v
 |.Or,true=>pure v
 |_,_=>q
def boT (op:BoolOp) (b:Bool) (q:PT Bool):PT Bool:=match op,b with
 |.And,false=>pure false
 |.Or,true=>pure true
 |_,_=>q
abbrev orV:=boV .Or
abbrev orT:=boT .Or
abbrev qm:=boT .And
def zB (x:Str) (op:Ov) (a b:V):PT Fl:=match a,b with
 |.int i,.int j=>(do let c <-bD op (.int i) (.int j);al x c;pure .next)
 |_,_=>PT.stuck
def vJ (Γ:Gam) (C:Nat) (b h:PT Fl):PT Fl:=λst Q E=>Γ.exc C=true∧b st Q (λC' st'=>Γ.exc C'=true∧if Γ.sub C' C=true then h st' Q E else E C' st')
def ko:List (Str×Value):=[("_legacy_mergeOrderings",.ref 28),("_legacy_flatten",.ref 35),("_legacy_ro",.ref 42),("InconsistentResolutionOrderError",.ref 59),("_StaticMRO",.ref 86),("_UseLegacyRO",.ref 100),("C3",.ref 204),
 ("_StrictC3",.ref 232),("ro",.ref 242),("Specification",.ref 336),("InterfaceClass",.ref 364),("_law_row",.ref 373),("_law_ahead",.ref 378),("_law_walk",.ref 385),("_law_kept",.ref 392),("_law_merged",.ref 397),("_law_orders",.ref 402),
 ("_law_told",.ref 407),("law",.ref 412),("len",.builtin "len"),("sorted",.builtin "sorted"),("isinstance",.builtin "isinstance"),("any",.builtin "any"),("list",.type "list"),("tuple",.type "tuple"),("set",.type "set"),("range",.type "range"),
 ("reversed",.type "reversed"),("filter",.type "filter")]
def oY:List (Str×AK):=[("leaf",.field),("memo",.field),("base_tree",.field),("bases_had_inconsistency",.field),("_mro",.val .none),("_own_legacy",.val .none),("direct_inconsistency",.val (.bool false)),("had_inconsistency",.prop 139),
 ("legacy_ro",.prop 147),("_can_choose_base",.stat 155),("_nonempty_bases_ignoring",.stat 163),("_choose_next_base",.fn 173),("_find_next_C3_base",.fn 180),("_merge",.fn 194),("mro",.fn 201)]
def b5 (C:Nat):List (Str×AK):=
 if C=336 then [("key",.field),("_ROOT",.field),("_dependents",.field),("bases",.field),("_implied",.field),("iro",.field),("sro",.field),("setBases",.fn 308),("changed",.fn 318),("subscribe",.fn 294),("_calculate_sro",.fn 313),
  ("dependents",.prop 286),("unsubscribe",.fn 301)]
 else if C=204 then ("_same_kind",.fn 132)::("_guess_next_base",.fn 187)::oY
 else if C=232 then ("_same_kind",.fn 222)::("_guess_next_base",.fn 229)::oY
 else if C=86 then [("leaf",.field),("_mro",.field),("had_inconsistency",.val .none),("mro",.fn 83)]
 else []
def fT (x:Str) (v:V) (hp:List O) (b:Bool):Prop:=x="had_inconsistency"∧∃i C fs,v=.obj i∧hp[i]?=some (.inst C fs)∧
 ((C=86∧aj fs x=none∧b=false)∨((C=204∨C=232)∧((aj fs "direct_inconsistency"=none∧aj fs "bases_had_inconsistency"=some (.bool b))∨
  (∃j E,aj fs "direct_inconsistency"=some (.obj j)∧hp[j]?=some (.exc E)∧b=true))))
def gam (fn:FnT):Gam where
 glob:=λx=>ko.lookup x
 fn:=fn
 ak:=λC x=>(b5 C).lookup x
 init:=λC=>if C=336 then some 279 else if C=204 then some 125 else if C=232 then some 125 else if C=86 then some 76 else none
 exc:=λC=>C==59||C==100
 excOk:=λC vs hp=>(C=100∧vs=[])∨(C=59∧∃i w fs C',vs=[.obj i,w]∧hp[i]?=some (.inst C' fs)∧(C'=204∨C'=232)∧(aj fs "leaf").isSome=true)
 sub:=λC' C=>C'==C
 isa:=λC v=>if C=336∧v=.ref 364 then some false else none
 cm:=λC x=>if C=204∧x="resolver" then some 117 else none
 pure:=fT
set_option backward.match.sparseCases true
section
variable {c:Cx} {g:GP} {fr:List Env} {wr:Str->Bool} {env:Env} {A:Kw} {hd:Bool} {D:Nat} {ρ ρ':Rho} {st:AS} {s:Ki}
theorem QL.move (e:QL c g fr wr env ρ hp vars h) (hp_:ρ<+:ρ')
  (k:∀o,h.get? env.locals=some o->h'.get? env.locals=some o) (kc:∀x a,env.cells.lookup x=some a->∀o,h.get? a=some o->h'.get? a=some o)
  (nl:∀(i:Nat) p,ρ'[i]?=some p->p.1≠env.locals∧p.2≠env.locals) (nc:∀x a,env.cells.lookup x=some a->∀(i:Nat) p,ρ'[i]?=some p->p.1≠a∧p.2≠a):
  QL c g fr wr env ρ' hp' vars h' where
 kfun:=e.kfun
 glob:=e.glob
 blt:=e.blt
 ns:=by
  obtain ⟨m,⟨o,es,ep,ho,r⟩,hx⟩:=e.ns
  exact ⟨m,⟨o,es,ep,k _ ho,r⟩,λx v h1 h2=>let ⟨y,h3,h4⟩:=hx x v h1 h2;⟨y,h3,h4.up hp_⟩⟩
 cel:=λx hx=>by
  obtain ⟨a,ha,ov,⟨o,ho,hd⟩,hr⟩:=e.cel x hx
  exact ⟨a,ha,ov,⟨o,kc x a ha _ ho,hd⟩,λv hv=>let ⟨y,h3,h4⟩:=hr v hv;⟨y,h3,h4.up hp_⟩⟩
 cis:=λx a ha=>let ⟨ov,o,ho,hd⟩:=e.cis x a ha;⟨ov,o,kc x a ha _ ho,hd⟩
 lno:=nl
 cno:=nc
 lg:=e.lg
 cg:=e.cg
 apart:=e.apart
 cl:=e.cl
 low:=e.low
 clow:=e.clow
 cfr:=e.cfr
 frame:=e.frame
 code:=e.code
theorem Inv.base_le (I:Inv c g fr wr env ρ st s) {h':Heap} (k:∀o,s.heap.get? env.locals=some o->h'.get? env.locals=some o):c.base.objs.size≤h'.objs.size:=by
 obtain ⟨m,⟨o,_,_,ho,_⟩,_⟩:=I.e.ns
 exact G2 I.e.low (Hk (Kj (k o ho)))
theorem Inv.kept (I:Inv c g fr wr env ρ st s) (k:∀b o,s.heap.get? b=some o->h'.get? b=some o):
  Inv c g fr wr env ρ st {s with heap:=h',toks:=tk}:=
 ⟨I.w.keeps (dr:=s.drawn) k (I.base_le λo=>k _ o) I.w.bare,I.e.move (GX _) (λo=>k _ o) (λ_ _ _ o=>k _ o) I.e.lno I.e.cno⟩
theorem Inv.keeps (I:Inv c g fr wr env ρ st s) (k:∀b o,s.heap.get? b=some o->h'.get? b=some o) (hs:s.heap.objs.size≤h'.objs.size) (hg:NV gs):
  Inv c g fr wr env ρ st {s with heap:=h',toks:=tk,gens:=gs,drawn:=dr}:=
 ⟨I.w.keeps k (I.base_le λo=>k _ o) hg,I.e.move (GX _) (λo=>k _ o) (λ_ _ _ o=>k _ o) I.e.lno I.e.cno⟩
theorem Inv.keeps' (I:Inv c g fr wr env ρ st s) (k:∀b o,s.heap.get? b=some o->h'.get? b=some o) (hs:s.heap.objs.size≤h'.objs.size):
  Inv c g fr wr env ρ st {s with heap:=h',toks:=tk}:=I.keeps (dr:=s.drawn) k hs I.w.bare
theorem Inv.tok (I:Inv c g fr wr env ρ st s):Inv c g fr wr env ρ st {s with toks:=tk}:=I.keeps' (λ_ _ e=>e) (GW _)
theorem QL.locals_lt (e:QL c g fr wr env ρ hp vars h):env.locals<h.objs.size:=let ⟨_,hm,_⟩:=e.ns;hm.lt
theorem Inv.new (I:Inv c g fr wr env ρ st s) (k:∀b o,s.heap.get? b=some o->h'.get? b=some o)
  (l1:s.heap.objs.size≤p.1) (l2:s.heap.objs.size≤p.2) (u1:∃ob,h'.get? p.1=some ob) (u2:∃ob,h'.get? p.2=some ob) (ho:Qy c (ρ++[p]) h' p o) (hself:∀C fs,o=.inst C fs->p.1≠p.2) (hro:o.isRo=false):
  Inv c g fr wr env (ρ++[p]) {st with hp:=st.hp++[o]} {s with heap:=h',toks:=tk}:=by
 have' at_:∀{i:Nat} {q:Nat×Nat},(ρ++[p])[i]?=some q->ρ[i]?=some q∨q=p:=λ{i q} e=>by
  by_cases hi:i<ρ.length
  ·rw [Ha hi] at e;exact .inl e
  rw [Hh (GU hi)] at e
  induction hq:i-ρ.length using Hn with
  |zero=>rw [hq] at e;exact .inr (Hm.inj e).symm
  |succ n=>rw [hq] at e;exact nNS e
 refine ⟨I.w.new k l1 l2 u1 u2 ho hself hro,I.e.move (GV ..) (λo=>k _ o) (λ_ _ _ o=>k _ o) (λi q e=>?_) λx a ha i q e=>?_⟩
 ·rcases at_ e with e|rfl
  ·exact I.e.lno i q e
  have:=I.e.locals_lt
  exact ⟨HE (G5 this l1),HE (G5 this l2)⟩
 rcases at_ e with e|rfl
 ·exact I.e.cno x a ha i q e
 have:=(I.e.cis x a ha).choose_spec.lt
 exact ⟨HE (G5 this l1),HE (G5 this l2)⟩
theorem Inv.upd (I:Inv c g fr wr env ρ st s) (hi:ρ[i]?=some p) (hoi:st.hp[i]?=some o) (hk:o'.isRo=o.isRo) (hr:o.isRo=false) (hc:∀C fs,o'=.inst C fs->p.1≠p.2)
  (k:∀b ob,b≠p.1->b≠p.2->s.heap.get? b=some ob->h'.get? b=some ob) (u2:∃ob,h'.get? p.2=some ob) (ho:Qy c ρ h' p o'):
  Inv c g fr wr env ρ {st with hp:=st.hp.set i o'} {s with heap:=h',toks:=tk}:=
 ⟨I.w.upd hi hoi hk hr hc k (I.base_le λo=>k _ o (Ne.symm (I.e.lno i p hi).1) (Ne.symm (I.e.lno i p hi).2)) ho.at1 u2 ho,I.e.move (GX _) (λo=>k _ o (Ne.symm (I.e.lno i p hi).1) (Ne.symm (I.e.lno i p hi).2))
  (λx a ha o=>k _ o (Ne.symm (I.e.cno x a ha i p hi).1) (Ne.symm (I.e.cno x a ha i p hi).2)) I.e.lno I.e.cno⟩
theorem PF.get (I:Inv c g fr wr env ρ st s) (h:PF ρ (.obj i) x) (ho:st.hp[i]?=some o):∃p,P8 (ρ[i]?=some p) (x=.ref p.1) (Qy c ρ s.heap p o):=by
 obtain ⟨p,hp,rfl⟩:=h
 exact ⟨p,hp,rfl,I.w.rep.obj hp ho⟩
theorem bF:lim≤Le:=by rw [MJ];decide
theorem mX:(lim:Int)<2^63:=!3
theorem PH.length (h:PH ρ vs xs):xs.length=vs.length:=PH.ind (P:=λvs xs=>xs.length=vs.length) rfl (λ_ _ _ _ _ _ h=>congrArg (·+1) h) h
theorem PH.get {ρ:Rho} {vs:List V} {xs:List Value} (h:PH ρ vs xs) {j:Nat} {v:V} (e:vs[j]?=some v):∃x,xs[j]?=some x∧PF ρ v x:=
 PH.ind (P:=λvs xs=>∀j,vs[j]?=some v->∃x,xs[j]?=some x∧PF ρ v x) (λj e=>by rw [List.getElem?_nil] at e;exact nNS e)
  (λu us y ys a _ ih j e=>by
   induction j using Hn with
   |zero=>exact ⟨y,rfl,ay e▸a⟩
   |succ j=>exact ih j e) h j e
theorem PH.append (h:PH ρ vs xs) (h':PH ρ ws ys):PH ρ (vs++ws) (xs++ys):=PH.ind (P:=λvs xs=>PH ρ (vs++ws) (xs++ys)) h' (λ_ _ _ _ a _ ih=>⟨a,ih⟩) h
theorem PH.none_of (h:PH ρ [] xs):xs=[]:=by induction xs using Lc with|nil=>rfl|cons x l=>exact h.elim
theorem PH.nil:PH ρ [] []:=trivial
theorem PH.snoc (h:PH ρ vs xs) (hv:PF ρ v x):PH ρ (vs++[v]) (xs++[x]):=h.append ⟨hv,trivial⟩
theorem PH.reverse (h:PH ρ vs xs):PH ρ vs.reverse xs.reverse:=
 PH.ind (P:=λvs xs=>PH ρ vs.reverse xs.reverse) trivial (λ_ _ _ _ a _ ih=>by rw [JG,JG];exact ih.snoc a) h
theorem PH.take (n:Nat) (h:PH ρ vs xs):PH ρ (vs.take n) (xs.take n):=
 PH.ind (P:=λvs xs=>∀n,PH ρ (vs.take n) (xs.take n)) (λn=>by rw [List.take_nil,List.take_nil];trivial) (λ_ _ _ _ a _ ih n=>by
  induction n using Hn with
  |zero=>trivial
  |succ n=>exact ⟨a,ih n⟩) h n
theorem PH.drop (n:Nat) (h:PH ρ vs xs):PH ρ (vs.drop n) (xs.drop n):=
 PH.ind (P:=λvs xs=>∀n,PH ρ (vs.drop n) (xs.drop n)) (λn=>by rw [List.drop_nil,List.drop_nil];trivial) (λ_ _ _ _ a b ih n=>by
  induction n using Hn with
  |zero=>exact ⟨a,b⟩
  |succ n=>exact ih n) h n
theorem PH.isEmpty (h:PH ρ vs xs):xs.isEmpty=vs.isEmpty:=PH.ind (P:=λvs xs=>xs.isEmpty=vs.isEmpty) rfl (λ_ _ _ _ _ _ _=>rfl) h
theorem PH.ints (h:PH ρ vs xs) (e:dC vs=some ns):IntsAre xs ns:=
 PH.ind (P:=λvs xs=>∀ns,dC vs=some ns->IntsAre xs ns) (λns e=>by (replace e:=ay e;subst e);exact .nil) (λv vs x xs a _ ih ns e=>by
  induction v with
  |int i=>
   obtain ⟨t,rfl⟩:=a
   replace e:(dC vs).map (i::·)=some ns:=e
   obtain ⟨r,hr,rfl⟩:=Ic.mp e
   exact .cons i t (ih r hr)
  |_=>exact nNS e) h ns e
theorem PH.ofInts (h:IntsAre xs ns):PH ρ (ns.map .int) xs:=by
 induction h with
 |nil=>trivial
 |cons _ t _ ih=>exact ⟨⟨t,rfl⟩,ih⟩
theorem PG.same (I:Inv c g fr wr env ρ st s) (r:R ρ b a) (q:Q b st):PG c g fr wr env ρ R Q a {s with toks:=tk}:=
 ⟨ρ,st,b,GX _,I.tok,r,q⟩
theorem PG.same' (I:Inv c g fr wr env ρ st s) (r:R ρ b a) (q:Q b st):PG c g fr wr env ρ R Q a s:=
 ⟨ρ,st,b,GX _,I,r,q⟩
end
section
variable {α β:Type}
theorem pure_def (a:α) (st:AS) (Q:α->AS->Prop) (E:Nat->AS->Prop):(pure a:PT α) st Q E=Q a st:=rfl
theorem qn {v:V} {st:AS} {Q:Nat×O->AS->Prop} {E:Nat->AS->Prop} (h:bX v st Q E):Ex2 λi o=>P8 (v=.obj i) (st.hp[i]?=some o) (Q (i,o) st):=by
 induction v with
 |obj i=>
  replace h:(match st.hp[i]? with
   |some o=>Q (i,o) st
   |none=>False):=h
  induction ho:st.hp[i]? with
  |none=>rw [ho] at h;exact h.elim
  |some o=>rw [ho] at h;exact ⟨i,o,rfl,ho,h⟩
 |_=>exact h.elim
theorem aB {v:V} {f:Nat×O->PT α} {st:AS} {Q:α->AS->Prop} {E:Nat->AS->Prop} (h:(bX v>>=f) st Q E):Ex2 λi o=>P8 (v=.obj i) (st.hp[i]?=some o) (f (i,o) st Q E):=qn (Q:=λa st'=>f a st' Q E) (E:=E) h
theorem cy {x:Option α} {st:AS} {Q:α->AS->Prop} {E:Nat->AS->Prop} (h:dp x st Q E):∃a,x=some a∧Q a st:=by
 induction x with
 |none=>exact h.elim
 |some a=>exact ⟨a,rfl,h⟩
end
section
variable {c:Cx} {g:GP} {fr:List Env} {wr:Str->Bool} {env:Env} {A:Kw} {hd:Bool} {D:Nat} {ρ ρ':Rho} {st:AS} {s:Ki}
 {Q:V->AS->Prop} {E:Nat->AS->Prop} {Qb:Bool->AS->Prop}
theorem Inv.toFr (I:Inv c g fr wr env ρ st s):∃m,Fr c.base env.locals s.heap m:=let ⟨m,hm,_⟩:=I.e.ns;⟨m,hm,I.w.keep,I.e.low⟩
theorem Inv.X (ok:c.Ok) (I:Inv c g fr wr env ρ st s):c.K.In s.heap:=ok.X.keeps I.w.keep
theorem dq (r:Qy c ρ h p (.inst C fs)):Ex2 λes n=>QK (Lj h p.1 (Ni C p.2) C (some (dictOf es n))) (P7 ρ fs es) (h.get? p.2=some (dictOf es n)) (Q9 c C):=by
 obtain ⟨es,n,a,b,d,q⟩:=r
 exact ⟨es,n,⟨a,rfl,rfl,b⟩,d,b,q⟩
theorem Inv.pushed (I:Inv c g fr wr env ρ st s) (X:Obj) (hX:X.isFreed=false):
  ∃OJ:Ki,Rx ({s with heap:=s.heap.push X}=OJ) (∀b o,s.heap.get? b=some o->OJ.heap.get? b=some o) (OJ.heap.get? s.heap.objs.size=some X) (OJ.heap.objs.size=s.heap.objs.size+1) (Inv c g fr wr env ρ st OJ) (OJ.gens=s.gens) (OJ.drawn=s.drawn) (OJ.os=s.os):=
 ⟨_,rfl,λb o e=>Kh _ e,Kk _ hX,Kv ..,I.kept (tk:=s.toks) λb o e=>Kh _ e,rfl,rfl,rfl⟩
theorem PG.push (I:Inv c g fr wr env ρ st s) (hf:ob.isFreed=false) (hi:∀C fs,o≠.inst C fs)
  (ho:Qy c (ρ++[(s.heap.objs.size,s.heap.objs.size)]) (s.heap.push ob) (s.heap.objs.size,s.heap.objs.size) o) (hq:Q (.obj st.hp.length) {st with hp:=st.hp++[o]}) (hro:o.isRo=false:=by rfl):
  PG c g fr wr env ρ PF Q (.ref s.heap.objs.size) {s with heap:=s.heap.push ob,toks:=tk}:=
 ⟨ρ++[(s.heap.objs.size,s.heap.objs.size)],_,.obj st.hp.length,GV ..,I.new (p:=(s.heap.objs.size,s.heap.objs.size)) (o:=o) (λb o e=>Kh _ e) (GW _) (GW _) ⟨_,Kk _ hf⟩ ⟨_,Kk _ hf⟩ ho (λC fs e=>absurd e (hi C fs)) hro,
  ⟨(s.heap.objs.size,s.heap.objs.size),by rw [<-I.w.rep.len];simp,rfl⟩,hq⟩
theorem PG.fresh (I:Inv c g fr wr env ρ st s) (k:∀b o,s.heap.get? b=some o->h'.get? b=some o) (hi:∀C fs,o≠.inst C fs)
  (ho:Qy c (ρ++[(s.heap.objs.size,s.heap.objs.size)]) h' (s.heap.objs.size,s.heap.objs.size) o) (hq:Q (.obj st.hp.length) {st with hp:=st.hp++[o]}) (hro:o.isRo=false:=by rfl):
  PG c g fr wr env ρ PF Q (.ref s.heap.objs.size) {s with heap:=h',toks:=tk}:=
 ⟨ρ++[(s.heap.objs.size,s.heap.objs.size)],_,.obj st.hp.length,GV ..,I.new (p:=(s.heap.objs.size,s.heap.objs.size)) (o:=o) k (GW _) (GW _) ho.at1 ho.at1 ho (λC fs e=>absurd e (hi C fs)) hro,
  ⟨(s.heap.objs.size,s.heap.objs.size),by rw [<-I.w.rep.len];simp,rfl⟩,hq⟩
theorem mY (I:Inv c g fr wr env ρ st s) (hv:PH ρ vs xs) (hp:newList vs st Q E):Kg c.M A (PySem.newList xs) (PG c g fr wr env ρ PF Q) (PE c g fr wr env ρ E) s:=by
 obtain ⟨hz,hq⟩:=hp
 have hl:=hv.length
 exact Kx (PG.push I (o:=.list vs) (tk:=s.toks) rfl (λ_ _ e=>by exact oNe e rfl) ⟨xs.toArray,0,Kk _ rfl,hv.up (GV ..)⟩ hq) (by show xs.toArray.size≤Le;rw [Iv,hl];exact G2 hz bF)
theorem oZ (I:Inv c g fr wr env ρ st s) (hv:PH ρ vs xs) (hp:cu vs st Q E):Kg c.M A (PySem.newTuple xs) (PG c g fr wr env ρ PF Q) (PE c g fr wr env ρ E) s:=by
 obtain ⟨hz,hq⟩:=hp
 have hl:=hv.length
 exact Kx (PG.push I (o:=.tup vs) (tk:=s.toks) rfl (λ_ _ e=>by exact oNe e rfl) ⟨xs.toArray,0,Kk _ rfl,hv.up (GV ..)⟩ hq) (by show xs.toArray.size≤Le;rw [Iv,hl];exact G2 hz bF)
theorem iB:∀{kvs:List (Int×Value)},P9 ρ kv kvs->kvs.length=kv.length:=by
 induction kv with
 |nil=>intro kvs h;induction kvs using Lc with|nil=>rfl|cons _ _=>exact h.elim
 |cons f r ih=>intro kvs h;induction kvs using Lc with|nil=>exact h.elim|cons _ _=>exact congrArg (·+1) (ih h.2.2)
theorem dj (ok:c.Ok) (h:c.base.objs.size≤a):(a==Oz)=false:=by
 have:=ok.sm
 simp only [beq_eq_false_iff_ne,ne_eq]
 intro e;subst e;exact absurd this (Hr.mpr h)
def tb (hp:List O):V->Bool
 |.none=>false
 |.bool b=>b
 |.int i=>i !=0
 |.obj i=>match hp[i]? with
  |some (.list vs)=>!vs.isEmpty
  |some (.ro ns)=>!ns.isEmpty
  |_=>true
theorem gx (ok:c.Ok) (I:Inv c g fr wr env ρ st s) (hv:PF ρ v x) (hp:ag v st Qb E):
  ∃b,P8 (Qb b st) (b=tb st.hp v) (∀{A:Kw} {Q:Bool->Ki->Prop} {E':Value->Ki->Prop} {s':Ki},(∀b o,s.heap.get? b=some o->s'.heap.get? b=some o)->(∀t,Q b {s' with toks:=t})->Kg c.M A (Ms x) Q E' s'):=by
 unfold ag at hp
 induction v with
 |none=>cases hv;exact ⟨_,hp,rfl,λ_ q=>truthy_none (q _)⟩
 |bool b=>cases hv;exact ⟨_,hp,rfl,λ_ q=>Mc (q _)⟩
 |int i=>obtain ⟨t,rfl⟩:=hv;exact ⟨_,hp,rfl,λ_ q=>PyProof.Rows.truthy_int (q _)⟩
 |obj i=>
  obtain ⟨j,o,e,ho,_⟩:=aB hp;clear hp;rename_i hp
  (replace e:=iq e;subst e)
  obtain ⟨p,hρ,rfl,r⟩:=PF.get I hv ho
  induction o with
  |list vs=>
   obtain ⟨its,n,h1,h2⟩:=r
   obtain ⟨hz,hq⟩:=hp
   have hl:=h2.length
   rw [G9] at hl
   have he:its.isEmpty=vs.isEmpty:=by rw [<-h2.isEmpty];cases its;simp
   exact ⟨_,hq,by simp [tb,ho],λk q=>wpAny_truthy_list (l:=p.1) (items:=its) ⟨_,k _ _ h1,rfl,n,rfl⟩ (by rw [hl];exact Hu (Im.mpr hz) mX) (by rw [he];exact q _)⟩
  |ro ns=>
   obtain ⟨its,h1,h2⟩:=r
   obtain ⟨hz,hq⟩:=hp
   have hl:=h2.length
   rw [G9] at hl
   have he:its.isEmpty=ns.isEmpty:=by
    have:=(PH.ofInts (ρ:=ρ) h2).isEmpty
    cases its;cases ns<;>simpa using this
   obtain ⟨o,hoo,x1,x2⟩:=h1
   exact ⟨_,hq,by simp [tb,ho],λk q=>wpAny_truthy_list (l:=p.1) (items:=its) ⟨o,k _ _ hoo,x1,x2⟩ (by rw [hl];exact Hu (Im.mpr hz) mX) (by rw [he];exact q _)⟩
  |_=>exact hp.elim
theorem eP {v:V} {x:Value} (S:aU c g fr hd D A) (I:Inv c g fr wr env ρ st s) (hv:PF ρ v x) (hp:ag v st Qb E):
  Kg c.M A (Ms x) (PG c g fr wr env ρ (λ_ b a=>a=b) Qb) (PE c g fr wr env ρ E) s:=
 let ⟨_,h1,_,k⟩:=gx S.ok I hv hp
 k (λ_ _ e=>e) λ_=>PG.same' (I.kept λ_ _ e=>e) rfl h1
end
section
variable {prog:Lb} {w:Lw} {K:Frag} {A:Kw} {E:Value->Ki->Prop} {s:Ki} {x y C D:Addr} {ox oy:Obj} {odx ody:Option Obj}
theorem gO (X:K.In s.heap) (I:Lj s.heap x ox C odx) (J:Lj s.heap y oy D ody) (he:KS K (.ref C) "__eq__"=some (some (.builtin "object.__eq__"))) (ho:Oq K C (.type "object")=some true) (hxy:x≠y) (hq:Q none s):
  Kg (Ku prog w) A (tryCompare (.ref x) "__eq__" (.ref y)) Q E s:=by
 have FB:=F.cmp_object
 have hsub:MM (Ku prog w) s.heap (Nt (.ref x) (.type "object")) true:=I.type.andThen (looks_mroIn X ho)
 have hnt:ox.cls≠.type "tuple":=by rw [I.cls];intro e;cases e
 have hcall:∀{Q:Value->Ki->Prop},Q .notImplemented s->Kg (Ku prog w) A (call (.builtin "object.__eq__") [.ref x,.ref y]) Q E s:=λhq=>
  LK (LP FB.eq.plain F.cmpEntry_eq (check_slot F.cmpKind_eq F.cmpSplit_eq hsub (F.cmpArgs_eq _ _) (objEq_entry_other hxy I.at_ J.at_ hnt hq)))
 have hspec:∀{Q:Option Value->Ki->Prop},Q (some .notImplemented) s->Kg (Ku prog w) A (callSpecialIfBound? (.ref x) "__eq__" [.ref y]) Q E s:=by
  intro Q hq
  simp only [callSpecialIfBound?,bindSpecialIfBound?]
  refine Km (Ke (Ke ?_))
  have L:MM (Ku prog w) s.heap (specialOf (.ref x) "__eq__") (some (.builtin "object.__eq__")):=I.type.andThen (Oh X he)
  refine L.here ?_
  simp only [FB.eq.bind]
  refine Ke (Lq (wpAny_ite ?_))
  have' fin:Kg (Ku prog w) A (call (.builtin "object.__eq__") ([.ref x]++[.ref y])>>=λv=>pure (some v)) Q E s:=Ke (hcall (Kf hq))
  split
  ·exact Ke (Kf (Kf fin))
  exact wpAny_tryCatch (Ke (Kf (Kf fin)))
 simp only [tryCompare]
 exact Ke (hspec (Kf hq))
theorem kr (X:K.In s.heap) (I:Lj s.heap x ox C odx) (J:Lj s.heap y oy C ody) (he:KS K (.ref C) "__eq__"=some (some (.builtin "object.__eq__"))) (ho:Oq K C (.type "object")=some true) (hxy:x≠y) (hu:A.units<cLine) (hq:Q (.bool false) s):
  Kg (Ku prog w) A (richCompare .Eq (.ref x) (.ref y)) Q E s:=by
 have hnt:ox.cls≠.type "tuple":=by rw [I.cls];intro e;cases e
 have h1:∀{Q:Value->Ki->Prop},Q (.ref C) s->Kg (Ku prog w) A (NX (.ref x)) Q E s:=λq=>(I.type (M:=Ku prog w)).here q
 have h2:∀{Q:Value->Ki->Prop},Q (.ref C) s->Kg (Ku prog w) A (NX (.ref y)) Q E s:=λq=>(J.type (M:=Ku prog w)).here q
 have hcc:((KI C) !=(KI C))=false:=by simp
 obtain ⟨hh,g,d,t,os⟩:=s
 simp only [richCompare,cmpInfo_Eq,oneThing_ref]
 repeat (first|with_reducible refine wpAny_cRoomFor hu ?_|with_reducible refine h1 ?_|with_reducible refine h2 ?_|(simp only [hcc,Hq,if_false])|with_reducible refine gO X I J he ho hxy ?_|with_reducible refine gO X J I he ho hxy.symm ?_|with_reducible refine wpAny_isSame_ref_other hxy I.at_ J.at_ hnt ?_|wp_step)
 exact hq
theorem lz (X:K.In s.heap) (I:Lj s.heap x ox C odx) (J:Lj s.heap y oy C ody) (he:KS K (.ref C) "__eq__"=some (some (.builtin "object.__eq__"))) (ho:Oq K C (.type "object")=some true) (hu:A.units<cLine) (hq:Q (decide (x=y)) s):
  Kg (Ku prog w) A (eqBool (.ref x) (.ref y)) Q E s:=by
 unfold eqBool
 refine Km ?_
 by_cases e:x=y
 ·subst e
  rw [decide_eq_true rfl] at hq
  rw [RA (by simp)]
  exact Ke (LH (Kf hq))
 rw [decide_eq_false e] at hq
 rw [Rz (by simpa using e)]
 refine Ke (kr X I J he ho e hu ?_)
 show Kg (Ku prog w) A (Ms (.bool false)) Q E s
 exact Mc hq
end
section
variable {c:Cx} {g:GP} {fr:List Env} {wr:Str->Bool} {env:Env} {A:Kw} {hd:Bool} {D:Nat} {ρ ρ':Rho} {st:AS} {s:Ki}
 {Q:V->AS->Prop} {E:Nat->AS->Prop} {Qb:Bool->AS->Prop}
set_option backward.match.sparseCases false in
theorem d0 (R:Rep c ρ hp h):∀(n:Nat) (v:V) (x:Value) (d:N2),PF ρ v x->aQ hp n v=some d->(∃as,Reads h x d as)∧d.canLay0=true∧d.depth≤n:=by
 have' flat:∀(n:Nat) (v:V) (x:Value) (d:N2),(∀i,v≠.obj i)->PF ρ v x->aQ hp n v=some d->(∃as,Reads h x d as)∧d.canLay0=true∧d.depth≤n:=by
  intro n v x d ho hv e
  induction v with
  |none=>cases hv;(replace e:some PyData.none=some d:=by cases n<;>exact e);(replace e:=ay e;subst e);exact ⟨⟨_,.none⟩,by simp [LW],by simp [Ln]⟩
  |bool b=>cases hv;(replace e:some (PyData.bool b)=some d:=by cases n<;>exact e);(replace e:=ay e;subst e);exact ⟨⟨_,.bool b⟩,by simp [LW],by simp [Ln]⟩
  |int i=>obtain ⟨t,rfl⟩:=hv;(replace e:some (Nx i)=some d:=by cases n<;>exact e);(replace e:=ay e;subst e);exact ⟨⟨_,.int i t⟩,by simp [LW],by simp [Ln]⟩
  |obj i=>exact absurd rfl (ho i)
 intro n
 induction n with
 |zero=>
  intro v x d hv e
  induction v with
  |obj i=>exact nNS e
  |_=>exact flat 0 _ x d (λ_ q=>by exact vNe q rfl) hv e
 |succ n ih=>
  intro v x d hv e
  have' all:∀(vs:List V) (xs:List Value) (ds:List N2),PH ρ vs xs->vs.mapM (aQ hp n)=some ds->(∃as,ReadsAll h xs ds as)∧M0 ds=true∧Mi ds≤n:=by
   intro vs
   induction vs with
   |nil=>intro xs ds hx e;induction xs using Lc with
    |nil=>rw [List.mapM_nil] at e;(replace e:=ay e;subst e);exact ⟨⟨_,.nil⟩,by simp [M0],by simp [Mi]⟩
    |cons _ _=>exact hx.elim
   |cons v vs ihv=>intro xs ds hx e;induction xs using Lc with
    |nil=>exact hx.elim
    |cons x xs=>
     rw [Ie] at e
     induction h1:aQ hp n v with
     |none=>rw [h1] at e;exact nNS e
     |some d1=>
      induction h2:vs.mapM (aQ hp n) with
      |none=>rw [h1,h2] at e;exact nNS e
      |some ds1=>
       rw [h1,h2] at e;(replace e:=ay e;subst e)
       obtain ⟨⟨as,r1⟩,c1,p1⟩:=ih v x d1 hx.1 h1
       obtain ⟨⟨bs,r2⟩,c2,p2⟩:=ihv xs ds1 hx.2 h2
       exact ⟨⟨_,.cons r1 r2⟩,by simp [M0,c1,c2],by simp only [Mi];exact Cs p1 p2⟩
  induction v with
  |obj i=>
   replace e:(match hp[i]? with
    |some (.list vs)=>(vs.mapM (aQ hp n)).map .list
    |some (.tup vs)=>(vs.mapM (aQ hp n)).map .tuple
    |_=>none:Option N2)=some d:=e
   induction ho:hp[i]? with
   |none=>rw [ho] at e;exact nNS e
   |some o=>
   rw [ho] at e
   obtain ⟨p,hp,rfl⟩:=hv
   have R':=R.obj hp ho
   induction o with
   |list vs=>
    obtain ⟨ds,e1,rfl⟩:=Ic.mp e
    obtain ⟨its,k,a,b⟩:=R'
    obtain ⟨⟨as,r⟩,c1,p1⟩:=all vs _ ds b e1
    exact ⟨⟨_,Reads.list a rfl rfl r⟩,by simp [LW,c1],by simp only [Ln];exact w22 p1⟩
   |tup vs=>
    obtain ⟨ds,e1,rfl⟩:=Ic.mp e
    obtain ⟨its,k,a,b⟩:=R'
    obtain ⟨⟨as,r⟩,c1,p1⟩:=all vs _ ds b e1
    exact ⟨⟨_,Reads.tuple a rfl rfl r⟩,by simp [LW,c1],by simp only [Ln];exact w22 p1⟩
   |_=>exact nNS e
  |_=>exact flat (n+1) _ x d (λ_ q=>by exact vNe q rfl) hv e
theorem eQ (h1:d.canLay0=true) (h2:d.depth≤3):SeqAt.shaped d=true:=by
 show (d.canLay0&&decide (d.depth≤64))=true
 rw [h1,decide_eq_true (Ed h2)];rfl
theorem zC (S:aU c g fr hd D A) (I:Inv c g fr wr env ρ st s) (ha:PF ρ a x) (hb:PF ρ b y) (hp:(do let r <-eqP a b;pure (V.bool r):PT V) st Q E):
  Kg c.M A (MQ .Eq x y) (PG c g fr wr env ρ PF Q) (PE c g fr wr env ρ E) s:=by
 replace hp:eqP a b st (λr st'=>Q (.bool r) st') E:=hp
 unfold eqP at hp
 induction e1:aQ st.hp 3 a with
 |none=>rw [e1] at hp;exact hp.elim
 |some da=>
 induction e2:aQ st.hp 3 b with
 |none=>rw [e1,e2] at hp;exact hp.elim
 |some db=>
  rw [e1,e2] at hp
  obtain ⟨⟨as,r1⟩,c1,p1⟩:=d0 I.w.rep 3 a x da ha e1
  obtain ⟨⟨bs,r2⟩,c2,p2⟩:=d0 I.w.rep 3 b y db hb e2
  exact eq_dataH r1 r2 (eQ c1 p1) (eQ c2 p2) (by have:=S.units;show _<9900;exact w57 this) (PG.same' (b:=V.bool _) I rfl hp)
theorem zD (S:aU c g fr hd D A) (I:Inv c g fr wr env ρ st s) (ha:PF ρ a x) (hb:PF ρ b y) (hp:(do let r <-eqP a b;pure (V.bool !r):PT V) st Q E):
  Kg c.M A (MQ .NotEq x y) (PG c g fr wr env ρ PF Q) (PE c g fr wr env ρ E) s:=by
 replace hp:eqP a b st (λr st'=>Q (.bool !r) st') E:=hp
 unfold eqP at hp
 induction e1:aQ st.hp 3 a with
 |none=>rw [e1] at hp;exact hp.elim
 |some da=>
 induction e2:aQ st.hp 3 b with
 |none=>rw [e1,e2] at hp;exact hp.elim
 |some db=>
  rw [e1,e2] at hp
  obtain ⟨⟨as,r1⟩,c1,p1⟩:=d0 I.w.rep 3 a x da ha e1
  obtain ⟨⟨bs,r2⟩,c2,p2⟩:=d0 I.w.rep 3 b y db hb e2
  exact ne_dataH r1 r2 (eQ c1 p1) (eQ c2 p2) (by have:=S.units;show _<9900;exact w57 this) (PG.same' (b:=V.bool _) I rfl hp)
set_option backward.match.sparseCases false in
theorem iC (h:dW hp (.obj i)=true):Ex2 λC fs=>hp[i]?=some (.inst C fs):=by
 revert h
 show (match hp[i]? with
  |some (.inst _ _)=>true
  |_=>false)=true->_
 induction ho:hp[i]? with
 |none=>exact λh=>nFT h
 |some o=>
  induction o with
  |inst C fs=>exact λ_=>⟨C,fs,rfl⟩
  |_=>exact λh=>nFT h
theorem oi (I:Inv c g fr wr env ρ st s) (ha:PF ρ a x) (hb:PF ρ b y) (hp:isP a b st Qb E):
  ∃r,Qb r st∧∀{R:Value->Ki->Prop} {E':Value->Ki->Prop},(R (.bool r) s->Kg c.M A (MQ .Is x y) R E' s)∧(R (.bool !r) s->Kg c.M A (MQ .IsNot x y) R E' s):=by
 unfold isP at hp
 induction a with
 |none=>
  induction b with
  |none=>
   cases ha;cases hb;exact ⟨true,hp,λh=>is_none h,λh=>OC h⟩
  |_=>exact hp.elim
 |obj i=>
  induction b with
  |obj j=>
   obtain ⟨h1,h2,hq⟩:=hp
   obtain ⟨C,fs,e1⟩:=iC h1
   obtain ⟨C',fs',e2⟩:=iC h2
   obtain ⟨p,p1,rfl,r1⟩:=PF.get I ha e1
   obtain ⟨q,q1,rfl,r2⟩:=PF.get I hb e2
   obtain ⟨es,n,a1,_⟩:=r1
   obtain ⟨es',n',b1,_⟩:=r2
   by_cases hij:i=j
   ·subst hij
    rw [p1] at q1;(replace q1:=ay q1;subst q1)
    rw [decide_eq_true rfl] at hq
    exact ⟨true,hq,λh=>wpAny_is_ref_self h,λh=>wpAny_isNot_ref_self h⟩
   rw [decide_eq_false hij] at hq
   have hne:=(I.w.rep.sep p1 q1 hij).1
   exact ⟨false,hq,λh=>wpAny_is_ref_other hne a1 b1 (by intro e;cases e) h,λh=>wpAny_isNot_ref_other hne a1 b1 (by intro e;cases e) h⟩
  |none=>
   cases hb
   obtain ⟨p,p1,rfl⟩:=ha
   exact ⟨false,hp,λh=>is_none h,λh=>OC h⟩
  |_=>exact hp.elim
 |bool _=>
  induction b with
  |none=>
   cases hb;cases ha
   exact ⟨false,hp,λh=>is_none h,λh=>OC h⟩
  |_=>exact hp.elim
 |_=>exact hp.elim
theorem ku {K:Type} [DecidableEq K] (q:K×Value) (qs:List (K×Value)) (k:K):Ng (q::qs) k=if q.1=k then some q.2 else Ng qs k:=by
 unfold Ng
 rw [IL]
 by_cases h:q.1=k
 ·simp [h]
 simp [h]
theorem mZ {k:Int} {kv:List (Int×V)} {kvs:List (Int×Value)} (h:P9 ρ kv kvs):(aj kv k=none∧Ng kvs k=none)∨Ex2 λv x=>P8 (aj kv k=some v) (Ng kvs k=some x) (PF ρ v x):=
 P9.ind (P:=λkv kvs=>(aj kv k=none∧Ng kvs k=none)∨Ex2 λv x=>P8 (aj kv k=some v) (Ng kvs k=some x) (PF ρ v x)) (.inl ⟨rfl,rfl⟩) (λf r q qs e a _ ih=>by
  rw [ku]
  show ((if f.1=k then some f.2 else aj r k)=none∧_)∨Ex2 λv x=>P8 ((if f.1=k then some f.2 else aj r k)=some v) _ _
  rw [e]
  by_cases hk:q.1=k
  ·rw [RA hk,RA hk];exact .inr ⟨f.2,q.2,rfl,rfl,a⟩
  rw [Rz hk,Rz hk];exact ih) h
theorem vk (S:aU c g fr hd D A) (I:Inv c g fr wr env ρ st s) (ha:PF ρ a x) (hb:PF ρ b y) (hp:inP a b st Qb E):
  Ex2 λr tk=>Qb r st∧∀{R:Value->Ki->Prop} {E':Value->Ki->Prop},(R (.bool r) {s with toks:=tk}->Kg c.M A (MQ .In x y) R E' s)∧(R (.bool !r) {s with toks:=tk}->Kg c.M A (MQ .NotIn x y) R E' s):=by
 unfold inP at hp
 replace hp:=aB hp
 obtain ⟨i,o,rfl,ho,hp⟩:=hp
 obtain ⟨p,hρ,rfl,r⟩:=PF.get I hb ho
 dsimp only at hp
 induction o with
 |set xs es0 ep0 t0=>
  induction a with
  |int k=>
   obtain ⟨t,rfl⟩:=ha
   obtain ⟨h0,h2⟩:=r
   have' h1:=h2.setOf (prog:=c.prog) h0
   exact ⟨_,s.toks+1,hp,λh=>wpAny_inSet_of (Lg _ _ k t) (by rfl) h1 h,λh=>wpAny_notInSet_of (Lg _ _ k t) (by rfl) h1 h⟩
  |_=>exact hp.elim
 |dict ep kv=>
  induction a with
  |int k=>
   obtain ⟨t,rfl⟩:=ha
   obtain ⟨kvs,hA,h3⟩:=r
   have' hD:=hA.dictOf
   have' e:(Ng kvs k).isSome=(aj kv k).isSome:=by
    rcases mZ (k:=k) h3 with ⟨a,b⟩|⟨v,x,a,b,_⟩<;>(rw [a,b];rfl)
   refine ⟨_,s.toks+1,hp,λh=>wpAny_in_of (Lg _ _ k t) (dj S.ok (I.w.rep.low hρ ho rfl).1) hD.mapOf ?_,λh=>wpAny_notIn_of (Lg _ _ k t) (dj S.ok (I.w.rep.low hρ ho rfl).1) hD.mapOf ?_⟩
   ·rw [e];exact h
   rw [e];exact h
  |_=>exact hp.elim
 |list vs=>
  induction a with
  |int k=>
   obtain ⟨t,rfl⟩:=ha
   obtain ⟨its,n,h1,h2⟩:=r
   dsimp only at hp
   induction hns:dC vs with
   |none=>rw [hns] at hp;exact hp.elim
   |some ns=>
    rw [hns] at hp
    obtain ⟨hz,hq⟩:=hp
    have' hi:=h2.ints hns
    have' e:(ns.any λx=>x==k)=decide (k∈ns):=by
     rw [Ja];simp [IR]
    have' hL:s.heap.IsList p.1 its.toList.toArray:=⟨_,h1,rfl,n,rfl⟩
    refine ⟨_,s.toks,hq,λh=>in_list_ints hL hi (by rw [e];exact h),λh=>?_⟩
    have' hroom:A.units+1+min (Mi (ns.map Nx)) (Ln (.int k))<cLine:=by
     have' h3:=S.units
     have' h1:=JK (Mi (ns.map Nx)) (Ln (.int k))
     have' h2:Ln (.int k)=0:=by simp [Ln]
     show _<9900
     exact Bd h3 h2
    refine SeqAt.notIn_list_reads (reads_of_ints hL hi) (Reads.int k t) (canLayAll0_ints ns) (by simp [LW]) hroom ?_
    have' e2:((ns.map Nx).any λy=>y.eqv (.int k))=decide (k∈ns):=by
     rw [<-e,List.any_map]
     congr 1
    rw [e2];exact h
  |_=>exact hp.elim
 |tup vs=>
  induction a with
  |obj k=>
   obtain ⟨⟨C,fs,hi,hall⟩,hz,hq⟩:=hp
   obtain ⟨p',hρ',rfl⟩:=ha
   obtain ⟨es1,n1,J,hfs,_,kc⟩:=dq (I.w.rep.obj hρ' hi)
   obtain ⟨its,n,h1,h2⟩:=r
   have' hT:s.heap.IsTuple p.1 its:=⟨_,h1,rfl,n,rfl⟩
   have' X:=I.X S.ok
   have' hu:A.units+1<cLine:=by have':=S.units;show _<9900;exact CJ this
   let e:Value->Bool:=λy=>match y with|.ref a=>decide (a=p'.1)|_=>false
   have' items:∀(vs:List V) (xs:List Value),PH ρ vs xs->(∀v∈vs,∃j fs',v=.obj j∧st.hp[j]?=some (.inst C fs'))->
     (∀y∈xs,SeqAt.EqAt A.in1 s y (.ref p'.1) (e y))∧xs.any e=decide (V.obj k∈vs):=by
    intro vs
    induction vs with
    |nil=>intro xs h _;induction xs using Lc with
     |nil=>exact ⟨(λ_ h=>nomatch h),rfl⟩
     |cons _ _=>exact h.elim
    |cons v vs ih=>
     intro xs h hv
     induction xs using Lc with
     |nil=>exact h.elim
     |cons x xs=>
      obtain ⟨i1,i2⟩:=ih xs h.2 λv' hv'=>hv v' (.tail _ hv')
      obtain ⟨j,fs',rfl,hj⟩:=hv v (.head _)
      obtain ⟨q,hq',rfl⟩:=h.1
      obtain ⟨es2,n2,J2,_,_,_⟩:=dq (I.w.rep.obj hq' hj)
      have' hiff:decide (q.1=p'.1)=decide (k=j):=by
       by_cases hkj:k=j
       ·subst hkj;rw [hρ'] at hq';(replace hq':=ay hq';subst hq');simp
       have':=(I.w.rep.sep hq' hρ' (Ne.symm hkj)).1
       simp [hkj,this]
      refine ⟨λy hy=>?_,?_⟩
      ·rcases G0.mp hy with rfl|hy
       ·exact λprog w E Q hQ=>lz X J2 J kc.eq kc.obj (by show A.in1.units<_;exact hu) hQ
       exact i1 y hy
      rw [IQ,i2]
      show (decide (q.1=p'.1)||_)=_
      rw [hiff]
      by_cases hkj:k=j
      ·subst hkj;simp
      have':(V.obj k=V.obj j)↔k=j:=⟨λe=>by (replace e:=iq e;subst e);rfl,λe=>by rw [e]⟩
      simp [hkj]
   obtain ⟨g1,g2⟩:=items vs its.toList h2 hall
   have' g1':∀y,y∈its->SeqAt.EqAt A.in1 s y (.ref p'.1) (e y):=λy hy=>g1 y (by simpa using hy)
   have' g2':its.any e=decide (V.obj k∈vs):=by rw [<-g2,IS]
   exact ⟨_,s.toks,hq,λh=>SeqAt.in_tupleAt e hT g1' (by rw [g2'];exact h),λh=>SeqAt.notIn_tupleAt e hT g1' (by rw [g2'];exact h)⟩
  |_=>exact hp.elim
 |_=>exact hp.elim
end
section
variable {c:Cx} {g:GP} {fr:List Env} {wr:Str->Bool} {env:Env} {A:Kw} {hd:Bool} {D:Nat} {ρ ρ':Rho} {st:AS} {s:Ki}
 {Q:V->AS->Prop} {E:Nat->AS->Prop} {Qb:Bool->AS->Prop} {Qu:Unit->AS->Prop}
theorem PG.bool (I:Inv c g fr wr env ρ st s) (q:Q (.bool b) st):PG c g fr wr env ρ PF Q (.bool b) {s with toks:=tk}:=PG.same (b:=V.bool b) I rfl q
theorem PG.int (I:Inv c g fr wr env ρ st s) (q:Q (.int i) st):PG c g fr wr env ρ PF Q (.int i t) {s with toks:=tk}:=PG.same (b:=V.int i) I ⟨t,rfl⟩ q
theorem qo (S:aU c g fr hd D A) (I:Inv c g fr wr env ρ st s) (ha:PF ρ a x) (hb:PF ρ b y) (hp:bb op a b st Q E):
  Kg c.M A (MQ op x y) (PG c g fr wr env ρ PF Q) (PE c g fr wr env ρ E) s:=by
 unfold bb at hp
 induction op with
 |Is=>
  obtain ⟨r,q,h⟩:=oi (Qb:=λr st'=>Q (.bool r) st') I ha hb hp
  exact h.1 (PG.same' (b:=V.bool r) I rfl q)
 |IsNot=>
  obtain ⟨r,q,h⟩:=oi (Qb:=λr st'=>Q (.bool !r) st') I ha hb hp
  exact h.2 (PG.same' (b:=V.bool !r) I rfl q)
 |In=>
  obtain ⟨r,tk,q,h⟩:=vk (Qb:=λr st'=>Q (.bool r) st') S I ha hb hp
  exact h.1 (PG.bool I q)
 |NotIn=>
  obtain ⟨r,tk,q,h⟩:=vk (Qb:=λr st'=>Q (.bool !r) st') S I ha hb hp
  exact h.2 (PG.bool I q)
 |Eq=>exact zC S I ha hb hp
 |NotEq=>exact zD S I ha hb hp
 |Lt=>
  cases a<;>cases b<;>first|exact hp.elim|skip
  obtain ⟨t,rfl⟩:=ha
  obtain ⟨u,rfl⟩:=hb
  exact lt_int (PG.bool I hp)
 |Gt=>
  cases a<;>cases b<;>first|exact hp.elim|skip
  obtain ⟨t,rfl⟩:=ha
  obtain ⟨u,rfl⟩:=hb
  exact gt_int (PG.bool I hp)
 |_=>exact hp.elim
theorem o0 (I:Inv c g fr wr env ρ st s) (hp:bD op (.int i) (.int j) st Q E):
  Kg c.M A (binaryOp op (.int i t) (.int j u)) (PG c g fr wr env ρ PF Q) (PE c g fr wr env ρ E) s:=by
 unfold bD at hp
 induction op with
 |Add=>exact add_int (PG.int I hp)
 |Sub=>exact sub_int (PG.int I hp)
 |Mod=>exact mod_int' hp.1 (PG.int I hp.2)
 |_=>exact hp.elim
theorem oj (I:Inv c g fr wr env ρ st s) (h:PF ρ (.obj i) x) (ho:st.hp[i]?=some (.list vs)):
  Ex3 λp its n=>Rp (ρ[i]?=some p) (x=.ref p.1) (s.heap.get? p.1=some (W.listOf its n)) (PH ρ vs its.toList) (its.size=vs.length) (s.heap.IsList p.1 its):=by
 obtain ⟨p,hρ,rfl,its,n,h1,h2⟩:=PF.get I h ho
 exact ⟨p,its,n,hρ,rfl,h1,h2,by rw [<-h2.length,G9],⟨_,h1,rfl,n,rfl⟩⟩
theorem vK (S:aU c g fr hd D A) (I:Inv c g fr wr env ρ st s) (ha:PF ρ a x) (hb:PF ρ b y) (hp:bD op a b st Q E):
  Kg c.M A (binaryOp op x y) (PG c g fr wr env ρ PF Q) (PE c g fr wr env ρ E) s:=by
 induction a with
 |int i=>
  induction b with
  |int j=>obtain ⟨t,rfl⟩:=ha;obtain ⟨u,rfl⟩:=hb;exact o0 I hp
  |_=>unfold bD at hp;cases op<;>exact hp.elim
 |obj i=>
  induction b with
  |obj j=>
   unfold bD at hp
   induction op with
   |Add=>
    obtain ⟨i',o,e,ho,_⟩:=aB hp;clear hp;rename_i hp
    (replace e:=iq e;subst e)
    obtain ⟨j',o',e,ho',_⟩:=aB hp;clear hp;rename_i hp
    (replace e:=iq e;subst e)
    induction o with
    |list vs=>
     induction o' with
     |list ws=>
      obtain ⟨p,its,n,hρ,rfl,h1,h2,h3,h4⟩:=oj I ha ho
      obtain ⟨q,its2,n2,hρ2,rfl,g1,g2,g3,g4⟩:=oj I hb ho'
      replace hp:newList (vs++ws) st Q E:=hp
      obtain ⟨hz,hq⟩:=hp
      have hz':vs.length+ws.length≤lim:=by simpa using hz
      refine P.add_list h1 g1 (PG.push I (o:=.list (vs++ws)) (tk:=s.toks) rfl (λ_ _ e=>by exact oNe e rfl) ⟨its++its2,0,Kk _ rfl,?_⟩ hq) (by rw [h3,g3];exact G2 hz' bF)
      rw [Jv];exact (h2.append g2).up (GV ..)
     |_=>exact hp.elim
    |_=>exact hp.elim
   |BitOr=>
    obtain ⟨i',o,e,ho,_⟩:=aB hp;clear hp;rename_i hp
    (replace e:=iq e;subst e)
    obtain ⟨j',o',e,ho',_⟩:=aB hp;clear hp;rename_i hp
    (replace e:=iq e;subst e)
    induction o with
    |set xs es ep t=>
     induction o' with
     |set ys es' ep' t'=>
      obtain ⟨p,hρ,rfl,h1,h2⟩:=PF.get I ha ho
      obtain ⟨q,hρ2,rfl,g1,g2⟩:=PF.get I hb ho'
      replace hp:iw (aW ys xs) st Q E:=hp
      exact qc h2 h1 g2 g1 λes1 ep1 t1 h' hok hk hg=>PG.fresh I (tk:=s.toks) (o:=.set (aW ys xs) es1 ep1 t1) hk (λ_ _ e=>by exact oNe e rfl) ⟨hg,hok⟩ (hp _ _ _)
     |_=>exact hp.elim
    |_=>exact hp.elim
   |_=>exact hp.elim
  |_=>unfold bD at hp;cases op<;>exact hp.elim
 |_=>unfold bD at hp;cases op<;>exact hp.elim
theorem vL {n:Int} (h:n<1000000):n<2^63:=JS h !3
theorem vM (h: -1000000<n): -(2^63)≤n:=JR (JS (!3) h)
theorem kx (h:idx n i=some j):seqIndex? i n=some j:=by
 unfold idx at h
 unfold seqIndex?
 by_cases h0:0≤i
 ·rw [RA h0] at h
  split at h
  ·rename_i h1;(replace h:=ay h;subst h)
   have e:(if i<0 then i+(n:Int) else i)=i:=Rz (E7 h0)
   rw [e,RA (by simp;exact ⟨h0,(Int.toNat_lt h0).mp h1⟩)]
  exact nNS h
 rw [Rz h0] at h
 split at h
 ·rename_i h1;(replace h:=ay h;subst h)
  have e:(if i<0 then i+(n:Int) else i)=i+n:=RA (w38 h0)
  rw [e,RA (by simp;exact EN h0 h1)]
 exact nNS h
theorem sL {a k:V} {x y:Value} (S:aU c g fr hd D A) (I:Inv c g fr wr env ρ st s) (ha:PF ρ a x) (hk:PF ρ k y) (hp:aG a k st Q E):
  (Ex2 λT id=>s.TypeIs x T∧MT (.type T) "__getitem__"=pure (some (.builtin id)))∧Kg c.M A (getItem x y) (PG c g fr wr env ρ PF Q) (PE c g fr wr env ρ E) s:=by
 unfold aG at hp
 replace hp:=aB hp
 obtain ⟨i,o,rfl,ho,hp⟩:=hp
 obtain ⟨p,hρ,rfl,r⟩:=PF.get I ha ho
 dsimp only at hp
 induction o with
 |dict ep kv=>
  induction k with
  |int n=>
   obtain ⟨t,rfl⟩:=hk
   obtain ⟨kvs,hA,h3⟩:=r
   have' hD:=hA.dictOf
   obtain ⟨v,hv,hq⟩:=cy hp
   refine ⟨⟨"dict",_,hD.typeIs,slot_dict_getitem.lookup⟩,?_⟩
   rcases mZ (k:=n) h3 with ⟨e,_⟩|⟨v',z,e1,e2,e3⟩
   ·rw [e] at hv;exact nNS hv
   rw [e1] at hv;(replace hv:=ay hv;subst hv)
   exact wpAny_getItem_of (Lg _ _ n t) hD.mapOf e2 (PG.same I e3 hq)
  |_=>exact hp.elim
 |list vs=>
  induction k with
  |int n=>
   obtain ⟨t,rfl⟩:=hk
   obtain ⟨its,m,h1,h2⟩:=r
   have' hL:s.heap.IsList p.1 its:=⟨_,h1,rfl,m,rfl⟩
   have' hz:its.size=vs.length:=by rw [<-h2.length,G9]
   obtain ⟨⟨b1,b2,b3⟩,hp⟩:=hp
   obtain ⟨j,hj,hp⟩:=cy (E:=E) (Q:=λj st'=>dp vs[j]? st' Q E) hp
   obtain ⟨v,hv,hq⟩:=cy hp
   obtain ⟨z,hz1,hz2⟩:=h2.get hv
   rw [He] at hz1
   refine ⟨⟨"list",_,hL.typeIs,slot_list_getitem.lookup⟩,?_⟩
   unfold idx at hj
   split at hj
   ·rename_i h0
    split at hj
    ·(replace hj:=ay hj;subst hj)
     exact wpAny_getItem_list hL h0 (vL b2) hz1 (PG.same' I hz2 hq)
    exact nNS hj
   rename_i h0
   split at hj
   ·rename_i h5
    (replace hj:=ay hj;subst hj)
    exact wpAny_getItem_list_neg hL (w38 h0) (by rw [hz];exact h5) (vM b1) (by rw [hz];exact hz1) (PG.same' I hz2 hq)
   exact nNS hj
  |_=>exact hp.elim
 |tup vs=>
  induction k with
  |int n=>
   obtain ⟨t,rfl⟩:=hk
   obtain ⟨its,m,h1,h2⟩:=r
   have' hL:IsTup s.heap p.1 its:=⟨_,h1,rfl,m,rfl⟩
   have' hz:its.size=vs.length:=by rw [<-h2.length,G9]
   obtain ⟨⟨b1,b2,b3⟩,hp⟩:=hp
   obtain ⟨j,hj,hp⟩:=cy (E:=E) (Q:=λj st'=>dp vs[j]? st' Q E) hp
   obtain ⟨v,hv,hq⟩:=cy hp
   obtain ⟨z,hz1,hz2⟩:=h2.get hv
   rw [He] at hz1
   refine ⟨⟨"tuple",_,⟨_,h1,rfl⟩,PySem.F.slot_tuple_getitem.lookup⟩,?_⟩
   refine getItem_tuple (j:=j) hL (vM b1) (vL b2) ?_ hz1 (PG.same' I hz2 hq)
   rw [hz];exact kx hj
  |_=>exact hp.elim
 |ro ns=>
  induction k with
  |int n=>
   obtain ⟨t,rfl⟩:=hk
   obtain ⟨its,hL,h2⟩:=r
   have' hz:its.size=ns.length:=by have':=h2.length;rwa [G9] at this
   obtain ⟨⟨b1,b2,b3⟩,hp⟩:=hp
   obtain ⟨j,hj,hp⟩:=cy (E:=E) (Q:=λj st'=>dp (ns[j]?.map V.int) st' Q E) hp
   obtain ⟨v,hv,hq⟩:=cy hp
   have' hv':(ns.map V.int)[j]?=some v:=by rw [Hg];exact hv
   obtain ⟨z,hz1,hz2⟩:=(PH.ofInts (ρ:=ρ) h2).get hv'
   rw [He] at hz1
   refine ⟨⟨"list",_,hL.typeIs,slot_list_getitem.lookup⟩,?_⟩
   unfold idx at hj
   split at hj
   ·rename_i h0
    split at hj
    ·(replace hj:=ay hj;subst hj)
     exact wpAny_getItem_list hL h0 (vL b2) hz1 (PG.same' I hz2 hq)
    exact nNS hj
   rename_i h0
   split at hj
   ·rename_i h5
    (replace hj:=ay hj;subst hj)
    exact wpAny_getItem_list_neg hL (w38 h0) (by rw [hz];exact h5) (vM b1) (by rw [hz];exact hz1) (PG.same' I hz2 hq)
   exact nNS hj
  |_=>exact hp.elim
 |_=>exact hp.elim
end
section
variable {prog:Lb} {w:Lw} {A:Kw} {E:Value->Ki->Prop} {s:Ki} {K:Frag} {x C dx:Addr}
theorem lA (X:K.In s.heap) (hx:s.heap.get? x=some (Ni C dx)) (hdx:s.heap.get? dx=some (dictOf es n))
  (hs:KS K (.ref C) "__setattr__"=some (some (.builtin "object.__setattr__"))) (hp:plainOver K C=true) (ht:NS K C name=some none) (hh:hasDictIn K C=true)
  (hl:(getL name es).isSome=true) (hz:(putL name (KY w.params name) (.str name (s.toks+1)) v es).length≤1000)
  (h:∀h' n',KF dx s.heap h'->h'.get? dx=some (dictOf (putL name (KY w.params name) (.str name (s.toks+1)) v es) n')->Q () {s with heap:=h',toks:=s.toks+2}):
  Kg (Ku prog w) A (NT (.ref x) name v) Q E s:=by
 have I:Lj s.heap x (Ni C dx) C (some (dictOf es n)):=⟨hx,rfl,rfl,hdx⟩
 refine set_plain X I hs (osa_open (s:={s with toks:=s.toks+1}) X I hp ht λb=>?_)
 obtain ⟨cd,hc,hd⟩:=any_some hh
 show Kg _ _ (Builtin.ObjectAttr.storeInOwnDict (.ref x) (.ref C) (.str name s.toks) name v b) _ _ _
 refine Ke (Kf (Ke (Ke (Md hx (Ke (N8 (s:={s with toks:=s.toks+1}) (NO X hc) ?_))))))
 rw [hd]
 refine Kf (a:=some dx) (Ke (Kf (Ke ?_)))
 unfold nsSet
 refine Ke (Ke (Lq (Kf (Ke (wpAny_mkText (Ke (Md hdx ?_)))))))
 have cnd:Mu name es.toArray=false:=by
  rw [aRefKeyMayBeTheName_at,<-IS,<-IS]
  show (!es.any (·.key.isStr name)&&es.any (·.refKey))=false
  unfold getL at hl
  split at hl
  ·rename_i en he
   rw [IR.mpr ⟨en,Ik he,Jb he⟩];rfl
  split at hl
  ·exact nFT hl
  rename_i q;rw [JO] at q;rw [q,Bool.and_false]
 show Kg _ _ (if Mu name es.toArray=true then _ else _) _ _ _
 rw [Rz (by rw [cnd];exact HG)]
 refine wpAny_updatePart hdx ?_
 have' e:Ny name (KY w.params name) (.str name (s.toks+1)) v (dictOf es n)=_:=putName_dict name (KY w.params name) (.str name (s.toks+1)) v es n
 have' g:=Kn (Ny name (KY w.params name) (.str name (s.toks+1)) v) hdx (by rw [e];rfl)
 rw [e] at g
 refine Ke (wpAny_lookBehind g (pastItsLine_dict (by rw [Iv,MJ];exact w78 hz)) ?_)
 exact Kf (h _ _ (Ks ..) g)
end
section
variable {c:Cx} {g:GP} {fr:List Env} {wr:Str->Bool} {env:Env} {A:Kw} {hd:Bool} {D:Nat} {ρ ρ':Rho} {st:AS} {s:Ki}
 {Q:V->AS->Prop} {E:Nat->AS->Prop} {Qb:Bool->AS->Prop} {Qu:Unit->AS->Prop}
theorem dL:(Value.str y t).isStr x=decide (y=x):=by
 show (y==x)=_
 by_cases h:y=x
 ·subst h;simp
 simp [h]
theorem dE (hfe:P7 ρ fs es):(aj fs x=none∧getL x es=some none)∨Ex2 λv y=>P8 (aj fs x=some v) (getL x es=some (some y)) (PF ρ v y):=by
 refine P7.ind (P:=λfs es=>(aj fs x=none∧getL x es=some none)∨Ex2 λv y=>P8 (aj fs x=some v) (getL x es=some (some y)) (PF ρ v y)) (.inl ⟨rfl,rfl⟩) ?_ hfe
 rintro f fs e es ⟨t,hk⟩ hv hr ih
 rw [bE];unfold getL
 rw [IL,hk,dL]
 by_cases h:f.1=x
 ·rw [RA h,decide_eq_true h];exact .inr ⟨_,_,rfl,rfl,hv⟩
 rw [Rz h,decide_eq_false h]
 rcases ih with ⟨a,b⟩|⟨v,y,a,b,d⟩
 ·refine .inl ⟨a,?_⟩
  unfold getL at b
  dsimp only
  split at b
  ·cases b
  rename_i q
  rw [q]
  dsimp only
  have hne:e.refKey=false:=by unfold DictEntry.refKey;rw [hk]
  rw [IQ,hne,I9];exact b
 refine .inr ⟨v,y,a,?_,d⟩
 unfold getL at b
 dsimp only
 split at b
 ·rename_i en q;rw [q];exact b
 split at b<;>(first|exact nNS b|cases b)
theorem vN (hv:PF ρ v y) (hfe:P7 ρ fs es):P7 ρ (aV fs x v) (putL x hsh (.str x t) y es):=by
 refine P7.ind (P:=λfs es=>P7 ρ (aV fs x v) (putL x hsh (.str x t) y es)) ⟨⟨t,rfl⟩,hv,trivial⟩ ?_ hfe
 rintro f fs e es ⟨u,hk⟩ h2 hr ih
 rw [ca];unfold putL
 by_cases h:f.1=x
 ·rw [RA h,RA (by rw [hk,dL];exact decide_eq_true h)]
  exact ⟨⟨u,hk⟩,hv,hr⟩
 rw [Rz h,Rz (by rw [hk,dL,decide_eq_false h];exact HG)]
 exact ⟨⟨u,hk⟩,h2,ih⟩
theorem vO (h:P7 ρ fs es):es.length=fs.length:=P7.ind (P:=λfs es=>es.length=fs.length) rfl (λ_ _ _ _ _ _ _ h=>congrArg (·+1) h) h
end
def om (c:Cx) (g:GP) (fr:List Env) (ρ:Rho) (Q:V->List O->Prop) (E:Nat->List O->Prop) (r:Result) (s':Ki):Prop:=
 match r with
 |.ok (.ret y)=>Ex3 λρ' hp' v=>QK (ρ<+:ρ') (PP c g fr ρ' hp' s') (PF ρ' v y) (Q v hp')
 |.ok _=>False
 |.error e=>Ex3 λρ' hp' C=>QK (ρ<+:ρ') (PP c g fr ρ' hp' s') (P6 c g ρ' none C e s'.heap) (E C hp')
def bn (c:Cx) (D:Nat) (f:Nat) (ks:List Str) (F:FT):Prop:=
 ∀g fr A hd ρ hp s (vs:List V) (ps kw:List Value) (Q:V->List O->Prop) (E:Nat->List O->Prop),
  PP c g fr ρ hp s->PU c g fr hd D 10 A->(Ex3 λe0 rest L0=>fr=e0::rest∧e0.frame=some L0)->PH ρ vs (ps++kw)->kw.length=ks.length->F hd vs hp Q E->
  Ly c.M A (.call (.ref f) ⟨ps,ks.zip kw⟩) (om c g fr ρ Q E) s
def iD (c:Cx) (s:Ki) (z:Value) (b:Bool):Prop:=∀{A:Kw} {Q:Bool->Ki->Prop} {E:Value->Ki->Prop} {u:Ki},(∀a o,s.heap.get? a=some o->a∉c.tabs->u.heap.get? a=some o)->(∀t,u.toks≤t->Q b {u with toks:=t})->
 Kg c.M A (Ms z) Q E u
def zE (c:Cx) (Γ:Gam):Prop:=∀x v,Γ.glob x=some v->(x==("__debug__":Str))=false∧(nsIn c.K Lv x=some (some v)∨(nsIn c.K Lv x=some none∧bootBuiltins x=some v∧x≠"__name__"))
def zF (c:Cx) (Γ:Gam):Prop:=∀C f,Γ.init C=some f->makesIn c.K C=true∧KS c.K (.ref C) "__init__"=some (some (.ref f))∧isFn c.K (.ref f)=true∧LC c.K (.ref C)=true∧Q9 c C
def qp (c:Cx) (Γ:Gam):Prop:=∀C x,Γ.ak C x=some .field->LL c.K C x=true∧KS c.K (.ref C) x=some none∧NS c.K C x=some none
def vP (c:Cx) (Γ:Gam):Prop:=∀C x v,Γ.ak C x=some (.val v)->LL c.K C x=true∧NS c.K C x=some none∧copiedNames.contains x=false∧∃a,Q6 (KS c.K (.ref C) x=some (some a)) (LZ c.K a "__get__"=some none) (noGet c.K (some a)=true) (Os a=true) (∀ρ,PF ρ v a)
def zG (c:Cx) (Γ:Gam):Prop:=∀C x f,Γ.ak C x=some (.fn f)->LL c.K C x=true∧KS c.K (.ref C) x=some (some (.ref f))∧isFn c.K (.ref f)=true
def sM (c:Cx) (Γ:Gam):Prop:=∀C x f,Γ.ak C x=some (.prop f)->LL c.K C x=true∧Ex2 λp rest=>QK (KS c.K (.ref C) x=some (some (.ref p))) (LZ c.K (.ref p) "__get__"=some (some (.builtin "property.__get__"))) (NC c.K (.ref p)=some true) (Ob c.K p "property"=some (.ref f::rest))
def sN (c:Cx) (Γ:Gam):Prop:=∀C x f,Γ.ak C x=some (.stat f)->LL c.K C x=true∧copiedNames.contains x=false∧Ex2 λp rest=>Q6 (KS c.K (.ref C) x=some (some (.ref p))) (typeIn c.K (.ref p)=some (.type "staticmethod")) (LZ c.K (.ref p) "__get__"=some (some (.builtin "staticmethod.__get__"))) (NC c.K (.ref p)=some false) (Ob c.K p "staticmethod"=some (.ref f::rest))
def vQ (c:Cx) (Γ:Gam):Prop:=∀C tv b,Γ.isa C tv=some b->kitOne c.K (.ref C) tv=some b∧LL c.K C "__class__"=true∧KS c.K (.ref C) "__class__"=some (some (.builtin "object.__class__"))∧
  LZ c.K (.builtin "object.__class__") "__get__"=some (some (.builtin "getset_descriptor.__get__"))∧NC c.K (.builtin "object.__class__")=some true∧Oq c.K C (.type "object")=some true
def zH (c:Cx) (Γ:Gam):Prop:=∀C x m,Γ.cm C x=some m->LZ c.K (.ref C) "__getattribute__"=some (some (.builtin "type.__getattribute__"))∧Ex3 λmc p rest=>P8 (typeIn c.K (.ref C)=some mc) (readsIn c.K C mc=true) (((findCls c.K (.ref C) mc x=some (.get (.builtin "staticmethod.__get__") (.ref p) .none (.ref C))∧Ob c.K p "staticmethod"=some (.ref m::rest))∨findCls c.K (.ref C) mc x=some (.val (.ref m))))
def sO (c:Cx) (Γ:Gam) (D:Nat):Prop:=∀C vs,Γ.exc C=true->∀{g fr wr env A hd e ρ st s xs},PU c g fr hd D e A->10≤e->Inv c g fr wr env ρ st s->PH ρ vs xs->Γ.excOk C vs st.hp->∀{Q:Value->Ki->Prop} {E:Value->Ki->Prop},
  (∀x ox od fs h' tk,(∀b o,s.heap.get? b=some o->h'.get? b=some o)->s.heap.objs.size≤x->Lj h' x ox C od->ox.data=.fields fs->fs[1]?=some .none->fs[2]?=some .none->
   (∀d,ox.dict=some d->s.heap.objs.size≤d∧∃o,h'.get? d=some o)->Q (.ref x) {s with heap:=h',toks:=tk})->Kg c.M A (call (.ref C) xs) Q E s
def sP (c:Cx) (Γ:Gam):Prop:=c.Ok->∀x v b {g fr wr env ρ st s y},Γ.pure x v st.hp b->Inv c g fr wr env ρ st s->PF ρ v y->∀{A:Kw} {u:Ki} {Q:Value->Ki->Prop} {E:Value->Ki->Prop},A.handled=none->A.depth+8<1000->A.units+100<9900->
  (∀a o,s.heap.get? a=some o->a∉c.tabs->u.heap.get? a=some o)->
  (∀z h' tk,(∀a o,u.heap.get? a=some o->h'.get? a=some o)->iD c s z b->Q z {u with heap:=h',toks:=tk})->Kg c.M A (getAttr y x true) Q E u
structure PJ (c:Cx) (Γ:Gam) (D:Nat):Prop where
 glob:zE c Γ
 fn:∀f ks F,Γ.fn f ks=some F->bn c D f ks F∧LC c.K (.ref f)=true
 init:zF c Γ
 akField:qp c Γ
 akVal:vP c Γ
 akFn:zG c Γ
 akProp:sM c Γ
 akStat:sN c Γ
 excCls:∀C,Γ.exc C=true->Rt c C∧LC c.K (.ref C)=true
 subSelf:∀C,Γ.exc C=true->Γ.sub C C=true
 subOk:∀C' C,Γ.exc C'=true->Γ.exc C=true->exmOne c.K (.ref C') (.ref C)=some (Γ.sub C' C)
 isaOk:vQ c Γ
 cmOk:zH c Γ
 excNew:sO c Γ D
 pureOk:sP c Γ
section
variable {c:Cx} {g:GP} {fr:List Env} {wr:Str->Bool} {env:Env} {A:Kw} {hd:Bool} {D:Nat} {ρ ρ':Rho} {st:AS} {s:Ki} {Γ:Gam}
 {Q:V->AS->Prop} {E:Nat->AS->Prop} {Qb:Bool->AS->Prop} {Qu:Unit->AS->Prop}
open Classical in
def gOf (c:Cx) (s:Ki) (ρ:Rho) (hp:List O):GP:=λb=>if PZ ρ hp b∨b∈c.tabs then none else s.heap.get? b
theorem qq {hp:List O} {b:Nat} {o:Obj} (h:gOf c s ρ hp b=some o):s.heap.get? b=some o∧¬PZ ρ hp b:=by
 unfold gOf at h
 split at h
 ·exact nNS h
 rename_i n;exact ⟨h,λf=>n (.inl f)⟩
theorem fC {hp:List O} {b:Nat} {o:Obj} (h:s.heap.get? b=some o) (n:¬PZ ρ hp b) (n':b∉c.tabs):gOf c s ρ hp b=some o:=by
 unfold gOf;rw [Rz (λx=>x.elim n n')];exact h
theorem qr {hp:List O} {b:Nat} (h:PZ ρ hp b):gOf c s ρ hp b=none:=by unfold gOf;rw [RA (.inl h)]
theorem sQ {hp:List O} {b:Nat} (h:b∈c.tabs):gOf c s ρ hp b=none:=by unfold gOf;rw [RA (.inr h)]
theorem lB {hp:List O} {b:Nat} (h:gOf c s ρ hp b=none):PZ ρ hp b∨b∈c.tabs∨s.heap.get? b=none:=by
 unfold gOf at h
 split at h
 ·rename_i f;exact f.elim .inl λf=>.inr (.inl f)
 exact .inr (.inr h)
theorem PP.enter {hp:List O} (ok:c.Ok) (I:PP c g fr ρ hp s):PP c (gOf c s ρ hp) fr ρ hp s:=
 {I with
  prot:=λb o e=>⟨o.slots,(qq e).1,λ_=>rfl⟩
  gfoot:=λa f=>qr f
  bg:=λb o e=>fC (I.keep b o e) (λf=>absurd (Kj e) (Hr.mpr (I.base_foot f))) λm=>by rw [ok.tb b m] at e;exact nNS e
  gtab:=λP hP=>sQ hP}
theorem PP.back {hp hp':List O} {s':Ki} (I:PP c g fr ρ hp s) (J:PP c (gOf c s ρ hp) fr ρ' hp' s'):PP c g fr ρ' hp' s':=
 {J with
  prot:=λb o e=>by
   obtain ⟨sl,q,r⟩:=I.prot b o e
   have nf:¬PZ ρ hp b:=λf=>by rw [I.gfoot b f] at e;exact nNS e
   obtain ⟨sl',q',r'⟩:=J.prot b _ (fC q nf (I.tabG e))
   exact ⟨sl',q',λh=>(r' h).trans (r h)⟩
  gfoot:=λa f=>by
   rcases lB (J.gfoot a f) with h|h|h
   ·exact I.gfoot a h
   ·exact I.gtab a h
   induction e:g a with
   |none=>rfl
   |some o=>obtain ⟨sl,q,_⟩:=I.prot a o e;rw [h] at q;exact nNS q
  bg:=I.bg
  gtab:=I.gtab}
theorem Inv.back {hp':List O} {s':Ki} (I:Inv c g fr wr env ρ st s) (hρ:ρ<+:ρ') (J:PP c (gOf c s ρ st.hp) fr ρ' hp' s'):Inv c g fr wr env ρ' ⟨hp',st.vars⟩ s':=by
 have e:=I.e
 replace hL:∃oL,s.heap.get? env.locals=some oL:=let ⟨_,⟨o,_,_,ho,_⟩,_⟩:=e.ns;⟨o,ho⟩
 obtain ⟨oL,hoL⟩:=hL
 have nL:=bJ (hp:=st.hp) e.lno
 obtain ⟨sl,q,_⟩:=J.prot _ _ (fC hoL nL (I.w.tabNo e.low))
 have' out:∀(a:Nat) (o:Obj),s.heap.get? a=some o->¬PZ ρ st.hp a->c.base.objs.size≤a->∀(i:Nat) p,ρ'[i]?=some p->p.1≠a∧p.2≠a:=by
  intro a o ho nf hb i p hp
  have hi:i<hp'.length:=J.rep.len▸(G4.mp hp).1
  obtain ⟨x,hx⟩:∃x,hp'[i]?=some x:=⟨_,G3 hi⟩
  induction hr:x.isRo with
  |true=>
   have:=J.rep.rolow hp hx hr
   exact ⟨λz=>absurd this.1 (Hr.mpr (z▸hb)),λz=>absurd this.2 (Hr.mpr (z▸hb))⟩
  |false=>
   have' g1:=J.gfoot p.1 ⟨i,p,x,hp,hx,hr,.inl rfl⟩
   have' g2:=J.gfoot p.2 ⟨i,p,x,hp,hx,hr,.inr rfl⟩
   refine ⟨λz=>?_,λz=>?_⟩
   ·rw [z,fC ho nf (I.w.tabNo hb)] at g1;exact nSN g1
   rw [z,fC ho nf (I.w.tabNo hb)] at g2;exact nSN g2
 refine ⟨I.w.back J,?_⟩
 have' Ol:∀x a,env.cells.lookup x=some a->∀o,s.heap.get? a=some o->s'.heap.get? a=some o:=λx a ha o ho=>by
  obtain ⟨sl,q,r⟩:=J.prot a o (fC ho (bJ (e.cno x a ha)) (I.w.tabNo (e.clow x a ha)))
  rw [r (e.cfr x a ha)] at q;exact q
 have ns':∃m,s'.heap.Ns env.locals m∧∀x v,env.kindOf x=some .local->st.vars x=some v->∃y,m x=some y∧PF ρ' v y:=by
  obtain ⟨m,⟨o,es,ep,ho,hd,r⟩,hx⟩:=e.ns
  rw [hoL] at ho;(replace ho:=ay ho;subst ho)
  exact ⟨m,⟨_,es,ep,q,hd,r⟩,λx v h1 h2=>let ⟨y,h3,h4⟩:=hx x v h1 h2;⟨y,h3,h4.up hρ⟩⟩
 exact {
  kfun:=e.kfun
  glob:=e.glob
  blt:=e.blt
  ns:=ns'
  cel:=λx hx=>by
   obtain ⟨a,ha,ov,⟨o,ho,hd⟩,hr⟩:=e.cel x hx
   exact ⟨a,ha,ov,⟨o,Ol x a ha o ho,hd⟩,λv hv=>let ⟨y,h3,h4⟩:=hr v hv;⟨y,h3,h4.up hρ⟩⟩
  cis:=λx a ha=>let ⟨ov,o,ho,hd⟩:=e.cis x a ha;⟨ov,o,Ol x a ha o ho,hd⟩
  lno:=out _ _ hoL nL e.low
  cno:=λx a ha=>let ⟨ov,o,ho,_⟩:=e.cis x a ha;out a o ho (bJ (e.cno x a ha)) (e.clow x a ha)
  lg:=e.lg
  cg:=e.cg
  apart:=e.apart
  cl:=e.cl
  low:=e.low
  clow:=e.clow
  cfr:=e.cfr
  frame:=e.frame
  code:=e.code}
theorem P3.back {a:Nat} {hp hp':List O} {s':Ki} (I:PP c g fr ρ hp s) (h:P3 (gOf c s ρ hp) ρ' a):P3 g ρ' a:=by
 refine ⟨?_,h.2⟩
 rcases lB h.1 with f|f|f
 ·exact I.gfoot a f
 ·exact I.gtab a f
 induction e:g a with
 |none=>rfl
 |some o=>obtain ⟨sl,q,_⟩:=I.prot a o e;rw [f] at q;exact nNS q
theorem P6.back {C:Nat} {e:Value} {h:Heap} {hp:List O} {L:Option Addr} (I:PP c g fr ρ hp s) (x:P6 c (gOf c s ρ hp) ρ' L C e h):P6 c g ρ' L C e h:=by
 obtain ⟨a,oe,vs,v1,h1,h2,h3,h4,h5,h6,h7,h8,h9⟩:=x
 refine ⟨a,oe,vs,v1,h1,h2,h3,h4,h5,h6.back (hp':=hp) (s':=s) I,h7,h8,h9.imp id ?_⟩
 rintro ⟨T,oT,ts,f3,k1,k2,k3,k4,k5,k6,k7,k8⟩
 exact ⟨T,oT,ts,f3,k1,k2,k3,k4,k5,k6,k7.back (hp':=hp) (s':=s) I,k8⟩
theorem PU.enter {e:Nat} (S:PU c g fr hd D e A) {hp:List O} (I:PP c g fr ρ hp s):PU c (gOf c s ρ hp) fr hd D e A:=
 {S with hsome:=S.hsome.imp id λ⟨eh,oe,vs,h1,h2,h3,h4,h5⟩=>⟨eh,oe,vs,h1,fC (I.prot.at h2 h3) (λf=>by rw [I.gfoot eh f] at h2;exact nNS h2) (I.tabG h2),h3,h4,h5⟩}
theorem PU.room {A':Kw} (S:aU c g fr hd D A) (hf:A'.frames=A.frames) (hh:A'.handled=A.handled) (h1:A'.depth≤A.depth+10) (h2:A'.units≤A.units+100):PU c g fr hd D 10 A' where
 ok:=S.ok
 frames:=hf.trans S.frames
 depth:=by have:=S.depth;exact Cc h1 this
 units:=by have:=S.units;exact Cb h2 this
 hnone:=λh=>hh.trans (S.hnone h)
 hsome:=hh▸S.hsome
theorem hJ {f:Nat} {ks:List Str} {F:FT} {vs:List V} {ps kw:List Value} (hF:bn c D f ks F) (S:PU c g fr hd D 10 A) (I:Inv c g fr wr env ρ st s) (hv:PH ρ vs (ps++kw)) (hk:kw.length=ks.length)
  (hp:dh hd F vs st Q E):Ly c.M A (.call (.ref f) ⟨ps,ks.zip kw⟩) (λr s'=>match r with|.ok (.ret y)=>PG c g fr wr env ρ PF Q y s'|.ok _=>False|.error e=>PE c g fr wr env ρ E e s') s:=by
 have fr0:Ex3 λe0 rest L0=>fr=e0::rest∧e0.frame=some L0:=let ⟨a,b,d,h1,h2,_⟩:=I.e.frame;⟨a,b,d,h1,h2⟩
 refine KO (hF _ _ _ _ _ _ _ _ _ _ _ _ (I.w.enter S.ok) (S.enter I.w) fr0 hv hk hp) λr s' h=>?_
 unfold om at h
 split at h
 ·obtain ⟨ρ',hp',v,h1,h2,h3,h4⟩:=h
  exact ⟨ρ',_,v,h1,I.back h1 h2,h3,h4⟩
 ·exact h.elim
 obtain ⟨ρ',hp',C,h1,h2,h3,h4⟩:=h
 exact ⟨ρ',_,C,h1,I.back h1 h2,(h3.back I.w).any,h4⟩
theorem d2 {v:V} {y:Value} (h:PF ρ v y):Os y=true:=by
 induction v with
 |none=>cases h;rfl
 |bool b=>cases h;rfl
 |int i=>obtain ⟨t,rfl⟩:=h;rfl
 |obj i=>obtain ⟨p,_,rfl⟩:=h;rfl
theorem sR {v:V} {x:Str} {y:Value} (G:PJ c Γ D) (S:aU c g fr hd D A) (I:Inv c g fr wr env ρ st s) (hv:PF ρ v y) (hp:am Γ hd v x st Q E):
  Kg c.M A (getAttr y x true) (PG c g fr wr env ρ PF Q) (PE c g fr wr env ρ E) s:=by
 unfold am at hp
 replace hp:=aB hp
 obtain ⟨i,o,rfl,ho,hp⟩:=hp
 obtain ⟨p,hρ,rfl,r⟩:=PF.get I hv ho
 dsimp only at hp
 induction o with
 |inst C fs=>
  dsimp only at hp
  obtain ⟨m,F⟩:=I.toFr
  obtain ⟨es,n,J,hfs,hd',k⟩:=dq r
  induction ha:Γ.ak C x with
  |none=>rw [ha] at hp;exact hp.elim
  |some a=>
   rw [ha] at hp
   induction a with
   |field=>
    obtain ⟨g1,g2,g3⟩:=G.akField C x ha
    obtain ⟨z,hz,hq⟩:=cy hp
    rcases dE (x:=x) hfs with ⟨e,_⟩|⟨v',y',e1,e2,e3⟩
    ·rw [e] at hz;exact nNS hz
    rw [e1] at hz;(replace hz:=ay hz;subst hz)
    exact Oi F S.ok.X J g1 k.dict g2 rfl e2 (d2 e3) (PG.same I e3 hq)
   |val w=>
    obtain ⟨g1,g2,g3,a,g4,g5,g6,g7,g8⟩:=G.akVal C x w ha
    rcases dE (x:=x) hfs with ⟨e1,e2⟩|⟨v',y',e1,e2,e3⟩
    ·have hq:Q w st:=by have hp:Q ((aj fs x).getD w) st:=hp;rw [e1] at hp;exact hp
     exact get_cls F S.ok.X J g1 k.dict g4 g5 g7 g3 e2 (PG.same I (g8 ρ) hq)
    have hq:Q v' st:=by have hp:Q ((aj fs x).getD w) st:=hp;rw [e1] at hp;exact hp
    exact Oi F S.ok.X J g1 k.dict g4 g6 e2 (d2 e3) (PG.same I e3 hq)
   |prop f=>
    obtain ⟨g1,q,rest,g2,g3,g4,g5⟩:=G.akProp C x f ha
    replace hp:cv Γ hd f [.obj i] st Q (λ_ _=>False):=hp
    unfold cv at hp
    induction hf:Γ.fn f [] with
    |none=>rw [hf] at hp;exact hp.elim
    |some F'=>
     rw [hf] at hp
     refine get_prop F S.ok.X J g1 k.dict g2 g3 g4 g5 ?_
     refine KO (hJ (vs:=[.obj i]) (ps:=[.ref p.1]) (kw:=[]) (G.fn f [] F' hf).1 (S.room (A':=A.in1) rfl rfl (by show A.depth≤_;exact w37) (by show A.units+1≤_;exact DZ)) (I.tok (tk:=s.toks+1)) ⟨hv,trivial⟩ rfl hp) λr s' h=>?_
     induction r with
     |error e=>obtain ⟨ρ',st',C',h1,h2,h3,h4⟩:=h;exact h4.elim
     |ok f=>
      induction f with
      |ret z=>
       obtain ⟨ρ',st',v,h1,h2,h3,h4⟩:=h
       show Kg _ _ (handedOut z) _ _ _
       rw [handedOut_of (d2 h3)]
       exact Kf ⟨ρ',st',v,h1,h2,h3,h4⟩
      |_=>exact h.elim
   |fn f=>exact hp.elim
   |stat f=>exact hp.elim
 |_=>exact hp.elim
theorem m5 {v u:V} {x:Str} {y z:Value} (G:PJ c Γ D) (S:aU c g fr hd D A) (I:Inv c g fr wr env ρ st s) (hv:PF ρ v y) (hu:PF ρ u z) (hp:aC Γ v x u st Qu E):
  Kg c.M A (NT y x z) (PG c g fr wr env ρ (λ_ _ _=>True) Qu) (PE c g fr wr env ρ E) s:=by
 unfold aC at hp
 replace hp:=aB hp
 obtain ⟨i,o,rfl,ho,hp⟩:=hp
 obtain ⟨p,hρ,rfl,r⟩:=PF.get I hv ho
 dsimp only at hp
 induction o with
 |inst C fs=>
  dsimp only at hp
  have r':=r
  obtain ⟨es,n,a1,a2,hfs,k⟩:=r'
  have' main:NS c.K C x=some none->fs.length≤100->Qu () ⟨st.hp.set i (.inst C (aV fs x u)),st.vars⟩->Kg c.M A (NT (.ref p.1) x z) (PG c g fr wr env ρ (λ_ _ _=>True) Qu) (PE c g fr wr env ρ E) s:=by
   intro ht hz hq
   have hl:(getL x es).isSome=true:=by rcases dE (x:=x) hfs with ⟨_,e⟩|⟨_,_,_,e,_⟩<;>rw [e]<;>rfl
   have' hput:=vN (x:=x) (hsh:=KY c.w.params x) (t:=s.toks+1) hu hfs
   have hlen:=vO hput
   have hle:=bB fs x u
   refine lA (I.X S.ok) a1 a2 k.setattr k.over ht k.dict hl (by rw [hlen];exact C5 hz hle) λh' n' hs hg=>?_
   have self:=I.w.rep.self hρ ho
   refine ⟨ρ,_,(),GX _,I.upd (o':=.inst C (aV fs x u)) hρ ho rfl rfl (λ_ _ _=>self) (λb ob n1 n2 e=>(hs.2 b n2).trans e) ⟨_,hg⟩ ⟨_,n',(hs.2 _ self).trans a1,hg,hput,k⟩,trivial,hq⟩
  induction ha:Γ.ak C x with
  |none=>rw [ha] at hp;exact hp.elim
  |some a=>
   rw [ha] at hp
   induction a with
   |field=>exact main (G.akField C x ha).2.2 hp.1 hp.2
   |val w=>exact main (G.akVal C x w ha).2.1 hp.1 hp.2
   |_=>exact hp.elim
 |_=>exact hp.elim
end
section
variable {c:Cx} {g:GP} {fr:List Env} {wr:Str->Bool} {env:Env} {A:Kw} {hd:Bool} {D:Nat} {ρ ρ':Rho} {st:AS} {s:Ki} {Γ:Gam}
 {Q:V->AS->Prop} {E:Nat->AS->Prop} {Qb:Bool->AS->Prop} {Qu:Unit->AS->Prop}
theorem Inv.put (I:Inv c g fr wr env ρ st s) (hρ:ρ[i]?=some p) (ho:st.hp[i]?=some o) (hk:o'.isRo=o.isRo) (hr:o.isRo=false) (hc:∀C fs,o'≠.inst C fs)
  (hs:KF p.1 s.heap h') (h:Qy c ρ h' p o'):Inv c g fr wr env ρ {st with hp:=st.hp.set i o'} {s with heap:=h',toks:=tk}:=
 I.upd hρ ho hk hr (λC fs e=>absurd e (hc C fs)) (λb ob n1 _ e=>(hs.2 b n1).trans e) (by
  by_cases e:p.2=p.1
  ·rw [e];exact h.at1
  exact (I.w.rep.inb hρ).2.imp λob q=>(hs.2 _ e).trans q) h
theorem PF.mkInt (h:j=i):PF ρ (.int i) (.int j t):=⟨t,by rw [h]⟩
theorem vR (S:aU c g fr hd D A) (I:Inv c g fr wr env ρ st s) (hv:PF ρ v x) (hp:kh v st Q E):
  Kg c.M A (call (.builtin "len") [x]) (PG c g fr wr env ρ PF Q) (PE c g fr wr env ρ E) s:=by
 unfold kh at hp
 replace hp:=aB hp
 obtain ⟨i,o,rfl,ho,hp⟩:=hp
 obtain ⟨p,hρ,rfl,r⟩:=PF.get I hv ho
 dsimp only at hp
 have hlim:=mX
 induction o with
 |list vs=>
  obtain ⟨its,m,h1,h2⟩:=r
  have hL:s.heap.IsList p.1 its:=⟨_,h1,rfl,m,rfl⟩
  have' hz:its.size=vs.length:=by rw [<-h2.length,G9]
  exact call_len_list hL (by rw [hz];have:=hp.1;exact w25 hlim this) (PG.same (R:=PF) (b:=.int vs.length) I (PF.mkInt (by rw [hz])) hp.2)
 |tup vs=>
  obtain ⟨its,m,h1,h2⟩:=r
  have hL:IsTup s.heap p.1 its:=⟨_,h1,rfl,m,rfl⟩
  have' hz:its.size=vs.length:=by rw [<-h2.length,G9]
  exact PyProof.Rows.len_tuple hL (by rw [hz];have:=hp.1;exact w25 hlim this) (PG.same (R:=PF) (b:=.int vs.length) I (PF.mkInt (by rw [hz])) hp.2)
 |ro ns=>
  obtain ⟨its,hL,h2⟩:=r
  have' hz:its.size=ns.length:=by have:=h2.length;rwa [G9] at this
  exact call_len_list hL (by rw [hz];have:=hp.1;exact w25 hlim this) (PG.same (R:=PF) (b:=.int ns.length) I (PF.mkInt (by rw [hz])) hp.2)
 |_=>exact hp.elim
section
variable {prog:Lb} {w:Lw} {E:Value->Ki->Prop}
theorem lC (ho:s.heap.get? it=some (listOf its n)) (hz:its.size≤Le)
  (h:∀h',h'.objs.size=s.heap.objs.size+1->(∀b o,s.heap.get? b=some o->h'.get? b=some o)->Qc its.toList {s with heap:=h'}):Kg (Ku prog w) A (collect (.ref it)) Qc E s:=by
 unfold collect
 refine Ke (Na (KG PySem.F.entry_proto_collect ?_))
 rw [KL PySem.F.plain_proto_collect _]
 show Kg _ A.in1 (PySem.newList []>>=λl=>again (.builtin "list.__iadd__" ⟨[l,.ref it],[]⟩)) _ _ s
 refine Ke (Kx ?_)
 refine Kf ⟨LB PySem.F.plain_list_iadd _,KG PySem.F.entry_list_iadd ?_⟩
 rw [KL PySem.F.plain_list_iadd _]
 show Kg _ A.in1 (Ld (.ref s.heap.objs.size) (.ref it) (.ref s.heap.objs.size)) _ _ _
 have' hS:(s.heap.push {cls:=.type "list",data:=.seq ([]:List Value).toArray}).get? s.heap.objs.size=some {cls:=.type "list",data:=.seq #[] 0}:=Kk _ rfl
 have OY:=Kn (Ls (·++its)) hS rfl
 have e0:((#[]:Array Value)++its).toList=its.toList:=by simp
 refine Kl (wpAny_extend_seq (hsz:=hz) (A:=A) (R:=λr s'=>r=.ok (.ret (.ref s.heap.objs.size))∧s'={s with heap:=(s.heap.push {cls:=.type "list",data:=.seq ([]:List Value).toArray}).update s.heap.objs.size (Ls (·++its))})
  (s:={s with heap:=s.heap.push {cls:=.type "list",data:=.seq ([]:List Value).toArray}}) _ it _ 0 (.inl rfl) hS (Kh _ ho) rfl rfl ⟨rfl,rfl⟩) (λfin s' h1=>?_) (λe s' h1=>absurd h1.1 (by simp))
 have' last:∀s',s'={s with heap:=(s.heap.push {cls:=.type "list",data:=.seq ([]:List Value).toArray}).update s.heap.objs.size (Ls (·++its))}->
   Kg (Ku prog w) A (do
    match (<-load s.heap.objs.size).data with
     |Data.seq xs _=>pure xs.toList
     |_=>Mn "internal:collect") Qc E s':=by
  rintro _ rfl
  refine Ke (Oy OY (Kf ?_))
  show Qc ((#[]:Array Value)++its).toList _
  rw [e0]
  exact h _ (by rw [(Ks ..).1,Kv]) λb o hb=>(Kt _ _ (HE (Kj hb))).trans (Kh _ hb)
 induction fin with
 |done f=>obtain ⟨e,rfl⟩:=h1;cases e;exact last _ rfl
 |again c'=>exact ⟨h1.1,KO h1.2 λr s'' hr=>by obtain ⟨rfl,rfl⟩:=hr;exact last _ rfl⟩
theorem iE (l:Addr) (its:Array Value) (n:Nat) (hz:its.size≤Le):
  Meets (KV.«tuple.__new__» ⟨[.type "tuple",.ref l],[]⟩)
   (λ_ R s=>s.heap.get? l=some (listOf its n)∧∀h':Heap,h'.objs.size=s.heap.objs.size+1->(∀b o',s.heap.get? b=some o'->h'.get? b=some o')->R (.ok (.ret (.ref h'.objs.size))) {s with heap:=h'.push {cls:=.type "tuple",data:=.seq its}}):=
 .of_wp λprog w A R s h=>by
  obtain ⟨hp,g,d,tk,os⟩:=s;obtain ⟨ht,h⟩:=h
  have hsub:=sub_tuple_self
  have hinit:=init_tuple_lookup
  have hmh:=madeHere_tuple
  have hT:Mv ⟨hp,g,d,tk,os⟩ (.ref l) "list":=⟨_,ht,rfl⟩
  wp_walk using wpAny_loadPart' ht,Mb hT,lC ht hz
  intro h' hs hk
  show Kg _ _ (Lz its.toList.toArray>>=λv=>ret v) _ _ _
  unfold Lz
  refine Ke (Kx ?_ (by show its.toList.toArray.size≤Le;simpa using hz))
  refine Kf ⟨_,rfl,?_⟩
  have e:its.toList.toArray=its:=by simp
  rw [e]
  exact h h' hs hk
theorem jj (ho:s.heap.get? l=some (listOf its n)) (hz:its.size≤Le)
  (h:∀h':Heap,h'.objs.size=s.heap.objs.size+1->(∀b o',s.heap.get? b=some o'->h'.get? b=some o')->Qv (.ref h'.objs.size) {s with heap:=h'.push {cls:=.type "tuple",data:=.seq its}}):
  Kg (Ku prog w) A (call (.type "tuple") [.ref l]) Qv E s:=
 callType_new PySem.F.called_tuple (!3) (PySem.F.typeCall_tuple_1 _) (PySem.F.newCall_tuple_1 _) (λobj=>PySem.F.args_object_init_2 obj _) PySem.F.entry_tuple_new
  (iE l its n hz) ⟨ho,λh' hs hk=>⟨⟨_,Kk _ rfl,rfl⟩,h h' hs hk⟩⟩
end
theorem vS (I:Inv c g fr wr env ρ st s) (hv:PF ρ v x) (hp:mS v st Q E):
  Kg c.M A (call (.type "tuple") [x]) (PG c g fr wr env ρ PF Q) (PE c g fr wr env ρ E) s:=by
 unfold mS at hp
 replace hp:=aB hp
 obtain ⟨i,o,rfl,ho,hp⟩:=hp
 obtain ⟨p,hρ,rfl,r⟩:=PF.get I hv ho
 dsimp only at hp
 induction o with
 |list vs=>
  obtain ⟨its,m,h1,h2⟩:=r
  obtain ⟨hz,hq⟩:=hp
  have hl:=h2.length
  refine jj h1 (by rw [<-G9,hl];exact G2 hz bF) (λh' hs hk=>?_)
  have I':=I.keeps' (tk:=s.toks) hk (CW hs)
  refine PG.push (s:={s with heap:=h'}) I' (o:=.tup vs) (tk:=s.toks) rfl (λ_ _ e=>by exact oNe e rfl) ⟨its,0,Kk _ rfl,h2.up (GV ..)⟩ hq
 |tup vs=>
  obtain ⟨its,m,h1,h2⟩:=r
  exact call_tuple_same ⟨_,h1,rfl,m,rfl⟩ (PG.same' I hv hp)
 |_=>exact hp.elim
theorem sS (I:Inv c g fr wr env ρ st s) (hv:PF ρ v x) (hp:ix v st Q E):
  Kg c.M A (call (.type "list") [x]) (PG c g fr wr env ρ PF Q) (PE c g fr wr env ρ E) s:=by
 unfold ix at hp
 replace hp:=aB hp
 obtain ⟨i,o,rfl,ho,hp⟩:=hp
 obtain ⟨p,hρ,rfl,r⟩:=PF.get I hv ho
 dsimp only at hp
 have' main:∀(its:Array Value) (n:Nat) (T:String) (o:Obj) (vs:List V),T="list"∨T="tuple"->s.heap.get? p.1=some o->o.cls=.type T->o.data=.seq its n->PH ρ vs its.toList->newList vs st Q E->
   Kg c.M A (call (.type "list") [.ref p.1]) (PG c g fr wr env ρ PF Q) (PE c g fr wr env ρ E) s:=by
  intro its n T o vs hT h1 hc hd h2 hq
  obtain ⟨hz,hq⟩:=hq
  have hl:=h2.length
  refine call_list_seq p.1 hT h1 hc hd (λh' n' hk hg=>?_) (by rw [<-G9,hl];exact G2 hz bF)
  refine ⟨ρ++[(s.heap.objs.size,s.heap.objs.size)],_,.obj st.hp.length,GV ..,I.new (p:=(s.heap.objs.size,s.heap.objs.size)) (o:=.list vs) hk (GW _) (GW _) ⟨_,hg⟩ ⟨_,hg⟩ ⟨its,n',hg,h2.up (GV ..)⟩ (λC fs e=>by exact oNe e rfl) rfl,
   ⟨(s.heap.objs.size,s.heap.objs.size),by rw [<-I.w.rep.len];simp,rfl⟩,hq⟩
 induction o with
 |list vs=>
  obtain ⟨its,m,h1,h2⟩:=r
  exact main its m "list" _ vs (.inl rfl) h1 rfl rfl h2 hp
 |tup vs=>
  obtain ⟨its,m,h1,h2⟩:=r
  exact main its m "tuple" _ vs (.inr rfl) h1 rfl rfl h2 hp
 |_=>exact hp.elim
theorem sT (I:Inv c g fr wr env ρ st s) (hq:iw [] st Q E):
  Kg c.M A (call (.type "set") []) (PG c g fr wr env ρ PF Q) (PE c g fr wr env ρ E) s:=
 ji λled hl=>PG.push I (tk:=s.toks) (o:=.set [] #[] 0 (.fresh 0 0 led)) rfl (λ_ _ e=>by exact oNe e rfl) ⟨Kk _ rfl,.fresh hl⟩ (hq _ _ _)
theorem vT (S:aU c g fr hd D A) (I:Inv c g fr wr env ρ st s) (hv:PF ρ v x) (hp:qe hd v st Q E):
  Kg c.M A (call (.type "set") [x]) (PG c g fr wr env ρ PF Q) (PE c g fr wr env ρ E) s:=by
 unfold qe at hp
 obtain ⟨hh,hp⟩:=hp
 replace hp:=aB hp
 obtain ⟨i,o,rfl,ho,hp⟩:=hp
 obtain ⟨p,hρ,rfl,r⟩:=PF.get I hv ho
 dsimp only at hp
 induction o with
 |list vs=>
  obtain ⟨its,m,h1,h2⟩:=r
  have hL:s.heap.IsList p.1 its:=⟨_,h1,rfl,m,rfl⟩
  dsimp only at hp
  induction hns:dC vs with
  |none=>rw [hns] at hp;exact hp.elim
  |some ns=>
   rw [hns] at hp
   obtain ⟨hz,hq⟩:=hp
   have hi:=h2.ints hns
   refine io (S.hnone hh) hL hi hz λh' tk es ep t hok hg hk=>?_
   exact PG.fresh I (o:=.set (aW ns []) es ep t) hk (λ_ _ e=>by exact oNe e rfl) ⟨hg,hok⟩ (hq _ _ _)
 |_=>exact hp.elim
theorem iF (hv:PF ρ v y):∀{kvs:List (Int×Value)},P9 ρ kv kvs->(kvs.map (·.1)).Nodup->P9 ρ (aV kv k v) (Nq kvs k y):=by
 induction kv with
 |nil=>intro kvs h _;induction kvs using Lc with
  |nil=>exact ⟨rfl,hv,trivial⟩
  |cons _ _=>exact h.elim
 |cons f r ih=>intro kvs h hn;induction kvs using Lc with
  |nil=>exact h.elim
  |cons e es=>
   obtain ⟨h1,h2,h3⟩:=h
   rw [Hc,HS] at hn
   rw [ca]
   by_cases hk:f.1=k
   ·rw [RA hk]
    have hk':e.1=k:=h1▸hk
    have:Nq (e::es) k y=(e.1,y)::es:=by
     unfold Nq
     rw [RA (by simp [hk']),Hc,RA hk',map_store_of_not_mem es k y (hk'▸hn.1)]
    rw [this]
    exact ⟨h1,hv,h3⟩
   rw [Rz hk]
   have hk':¬e.1=k:=h1▸hk
   have:Nq (e::es) k y=e::Nq es k y:=by
    unfold Nq
    rw [IQ,decide_eq_false hk',I9]
    split
    ·rw [Hc,Rz hk']
    rw [IT]
   rw [this]
   exact ⟨h1,h2,ih h3 hn.2⟩
theorem lD {prog:Lb} {w:Lw} {E:Value->Ki->Prop} {d:Addr} {kvs:List (Int×Value)} {ep:Nat} {k:Int} {key v:Value} {Qn:Unit->Ki->Prop} (hkey:(KU prog w).is k key=true)
  (hm:s.heap.DictAt (KU prog w) d kvs ep) (hk:(kvs.any λkv=>decide (kv.1=k))=true)
  (hQ:∀h',h'.DictAt (KU prog w) d (Nq kvs k v) ep->KF d s.heap h'->Qn () {s with heap:=h',toks:=s.toks+1}):Kg (Ku prog w) A (Of (.ref d) key v) Qn E s:=by
 have hT:=hm.dictOf.typeIs
 obtain ⟨o,es,ho,hc,hd,hks,hp,hn⟩:=hm
 unfold Of
 try with_reducible refine Km ?_
 refine Ke (wpAny_sequenceKey hT (!3) ?_)
 refine Ke (KD (name:=Kp "__setitem__") hT slot_dict_setitem
  (KC slot_dict_setitem hT entry_dict_setitem ?_ (args_dict_setitem _ _ _)))
 show Kg _ _ (Builtin.Dict.notOrdered "__setitem__" ⟨[.ref d,key,v],[]⟩>>=_) _ _ s
 refine Ke (wpAny_notOrdered_dict hT ?_)
 show Kg _ _ (dictSet d key v>>=_) _ _ s
 refine Ke ?_
 unfold dictSet
 try with_reducible refine Km ?_
 refine Ke ((KU prog w).pyHash hkey ?_)
 unfold dictSetHashed
 try with_reducible refine Km ?_
 refine Ke (wpAny_dictFind_of (s:={s with toks:=s.toks+1}) hkey ho hd hks ?_)
 have hl0:=hp.findIdx k
 have' hi0:(es.findIdx? λe=>(KU prog w).is k e.key)=kvs.findIdx? λkv=>decide (kv.1=k):=by rw [<-hl0];obtain ⟨l⟩:=es;simp
 induction hi:es.findIdx? λe=>(KU prog w).is k e.key with
 |none=>
  exfalso
  rw [hi] at hi0
  have:=JA.mp hi0.symm
  obtain ⟨kv,h1,h2⟩:=IR.mp hk
  have h3:=this kv h1
  rw [h2] at h3;exact nTF h3
 |some i=>
  have hl:(es.toList.findIdx? λe=>(KU prog w).is k e.key)=some i:=by rw [hl0,<-hi0,hi]
  have hmod:=hp.modify hn hl v
  refine Ke (LH (Ke (wpAny_updateDict (s:={s with toks:=s.toks+1}) ho hd (wpAny_point ?_))))
  refine Kf ⟨_,rfl,Kf (hQ _ ⟨_,_,Kn _ ho (Obj.isFreed_of_dict (Obj.data_mapDict hd _)),hc.mapDict _,Obj.data_mapDict hd _,hks.modify _ _,?_,?_⟩ (Ks ..))⟩
  ·rw [Nq,RA hk]
   obtain ⟨l⟩:=es
   simpa using hmod
  rw [Nq,RA hk]
  have:(kvs.map λkv=>if kv.1=k then (kv.1,v) else kv).map (·.1)=kvs.map (·.1):=by
   rw [Hx]
   refine HC λa _=>?_
   dsimp only [Function.comp]
   split<;>rfl
  rw [this];exact hn
theorem m6:∀{kvs:List (Int×Value)},P9 ρ kv kvs->(aj kv k).isSome=kvs.any λp=>decide (p.1=k):=by
 induction kv with
 |nil=>intro kvs h;induction kvs using Lc with
  |nil=>rfl
  |cons _ _=>exact h.elim
 |cons f r ih=>intro kvs h;induction kvs using Lc with
  |nil=>exact h.elim
  |cons e es=>
   obtain ⟨h1,h2,h3⟩:=h
   rw [bE]
   rw [IQ,<-h1]
   by_cases hk:f.1=k
   ·simp [hk]
   rw [Rz hk,decide_eq_false hk,I9];exact ih h3
theorem m9 (S:aU c g fr hd D A) (I:Inv c g fr wr env ρ st s) (ha:PF ρ a x) (hk:PF ρ k y) (hu:PF ρ u z) (hp:bL a k u st Qu E):
  Kg c.M A (Of x y z) (PG c g fr wr env ρ (λ_ _ _=>True) Qu) (PE c g fr wr env ρ E) s:=by
 unfold bL at hp
 replace hp:=aB hp
 obtain ⟨i,o,rfl,ho,hp⟩:=hp
 obtain ⟨p,hρ,rfl,r⟩:=PF.get I ha ho
 dsimp only at hp
 induction o with
 |dict ep kv=>
  induction k with
  |int n=>
   obtain ⟨t,rfl⟩:=hk
   obtain ⟨kvs,hA,h3⟩:=r
   have hD:=hA.dictOf
   obtain ⟨hz,hq⟩:=hp
   have hl:=iB h3
   have hks:=m6 (k:=n) h3
   by_cases hg:(aj kv n).isSome=true
   ·rw [RA hg] at hq
    rw [hg] at hks
    refine lD (Lg _ _ n t) hA hks.symm λh' hA' hs=>?_
    exact ⟨ρ,_,(),GX _,I.put (o':=.dict ep (aV kv n u)) hρ ho rfl rfl (λ_ _ e=>by exact oNe e rfl) hs ⟨_,hA',iF hu h3 hA.nodup⟩,trivial,hq⟩
   rw [Rz hg] at hq
   refine wpAny_setItem_pairs (Lg _ _ n t) hD (λh' hD' hs=>?_) (by rw [hl];exact G2 hz bF)
   obtain ⟨ep',hA'⟩:=hD'.dictAt
   exact ⟨ρ,_,(),GX _,I.put (o':=.dict ep' (aV kv n u)) hρ ho rfl rfl (λ_ _ e=>by exact oNe e rfl) hs ⟨_,hA',iF hu h3 hA.nodup⟩,trivial,hq ep'⟩
  |_=>exact hp.elim
 |_=>exact hp.elim
end
def lE (m:Rg) (x:Str) (id:String):Prop:=match m with
 |.lst=>(x=Kp "append"∧id="list.append")∨(x=Kp "insert"∧id="list.insert")
 |.set=>x=Kp "add"∧id="set.add"
 |.dct=>(x=Kp "get"∧id="dict.get")∨(x=Kp "clear"∧id="dict.clear")
 |_=>False
def eR (y:Value) (x:Str) (m:Rg) (fx:Value×List Value):Prop:=match m with
 |.fn f=>fx=(.ref f,[y])
 |.stat f=>fx=(.ref f,[])
 |m=>∃id,lE m x id∧fx=(.builtin id,[y])
section
variable {c:Cx} {g:GP} {fr:List Env} {wr:Str->Bool} {env:Env} {A:Kw} {hd:Bool} {D:Nat} {ρ ρ' ρ₀:Rho} {st:AS} {s:Ki} {Γ:Gam}
 {Q:V->AS->Prop} {E:Nat->AS->Prop} {Qb:Bool->AS->Prop} {Qu:Unit->AS->Prop}
theorem o4 (G:PJ c Γ D) (S:aU c g fr hd D A) (I:Inv c g fr wr env ρ st s) (hv:PF ρ v y) (hp:aA Γ v x st Qm E):
  Kg c.M A (getMethod y x pl) (PG c g fr wr env ρ (λ_ m fx=>eR y x m fx) Qm) (PE c g fr wr env ρ E) s:=by
 unfold aA at hp
 replace hp:=aB hp
 obtain ⟨i,o,rfl,ho,hp⟩:=hp
 obtain ⟨p,hρ,rfl,r⟩:=PF.get I hv ho
 dsimp only at hp
 induction o with
 |inst C fs=>
  dsimp only at hp
  obtain ⟨m,F⟩:=I.toFr
  obtain ⟨es,n,J,hfs,hd',k⟩:=dq r
  induction ha:Γ.ak C x with
  |none=>rw [ha] at hp;exact hp.elim
  |some a=>
   rw [ha] at hp
   induction a with
   |fn f=>
    obtain ⟨h0,hq⟩:=hp
    obtain ⟨g1,g2,g3⟩:=G.akFn C x f ha
    have hl:getL x es=some none:=by rcases dE (x:=x) hfs with ⟨_,e⟩|⟨_,_,e,_⟩;exact e;rw [e] at h0;exact nSN h0
    exact method_inst F S.ok.X J g1 g2 g3 hl (PG.same' (R:=λ_ m fx=>eR (.ref p.1) x m fx) (b:=.fn f) I rfl hq)
   |stat f=>
    obtain ⟨h0,hq⟩:=hp
    obtain ⟨g1,g0,q,rest,g2,g3,g4,g5,g6⟩:=G.akStat C x f ha
    have hl:getL x es=some none:=by rcases dE (x:=x) hfs with ⟨_,e⟩|⟨_,_,e,_⟩;exact e;rw [e] at h0;exact nSN h0
    exact kmu_sm F S.ok.X J g1 k.dict g2 g3 g4 g5 g0 hl g6 rfl (PG.same (R:=λ_ m fx=>eR (.ref p.1) x m fx) (b:=.stat f) I rfl hq)
   |_=>exact hp.elim
 |list vs=>
  obtain ⟨its,n,h1,h2⟩:=r
  obtain ⟨hk,hq⟩:=hp
  have hT:s.TypeIs (.ref p.1) "list":=⟨_,h1,rfl⟩
  have hD:∀a,KI p.1=.ref a->∃o,s.heap.get? a=some o∧o.dict=none:=λa e=>by cases e;exact ⟨_,h1,rfl⟩
  have' fin:∀id,lE .lst x id->PG c g fr wr env ρ (λ_ m fx=>eR (.ref p.1) x m fx) Qm (.builtin id,[.ref p.1]) s:=λid hb=>PG.same' (b:=.lst) I ⟨id,hb,rfl⟩ hq
  unfold cb at hk
  rcases Bool.or_eq_true_iff.mp hk with e|e
  ·rw [beq_iff_eq.mp e]
   exact Mf hT PySem.F.plainAttrs_list PySem.F.slot_list_append PySem.F.type_list_append hD (beq_iff_eq.mp e▸fin _ (.inl ⟨beq_iff_eq.mp e,rfl⟩))
  rw [beq_iff_eq.mp e]
  exact Mf hT PySem.F.plainAttrs_list PySem.F.slot_list_insert PySem.F.type_list_insert hD (beq_iff_eq.mp e▸fin _ (.inr ⟨beq_iff_eq.mp e,rfl⟩))
 |set xs es ep t=>
  obtain ⟨h0,h2⟩:=r
  have hS:=h2.setOf (prog:=c.prog) h0
  obtain ⟨hk,hq⟩:=hp
  unfold cb at hk
  have e:=beq_iff_eq.mp hk
  have fin:∀id,lE .set x id->PG c g fr wr env ρ (λ_ m fx=>eR (.ref p.1) x m fx) Qm (.builtin id,[.ref p.1]) s:=λid hb=>PG.same' (b:=.set) I ⟨id,hb,rfl⟩ hq
  rw [e]
  exact getMethod_set_add hS (e▸fin _ ⟨e,rfl⟩)
 |dict ep kv=>
  obtain ⟨kvs,hA,h3⟩:=r
  have hDo:=hA.dictOf
  obtain ⟨hk,hq⟩:=hp
  have' fin:∀id,lE .dct x id->PG c g fr wr env ρ (λ_ m fx=>eR (.ref p.1) x m fx) Qm (.builtin id,[.ref p.1]) s:=λid hb=>PG.same' (b:=.dct) I ⟨id,hb,rfl⟩ hq
  unfold cb at hk
  rcases Bool.or_eq_true_iff.mp hk with e|e
  ·rw [beq_iff_eq.mp e]
   exact Mf hDo.typeIs PySem.F.plainAttrs_dict PySem.F.slot_dict_get PySem.F.type_dict_get hDo.mapOf.noDict (beq_iff_eq.mp e▸fin _ (.inl ⟨beq_iff_eq.mp e,rfl⟩))
  rw [beq_iff_eq.mp e]
  exact Mf hDo.typeIs PySem.F.plainAttrs_dict PySem.F.slot_dict_clear PySem.F.type_dict_clear hDo.mapOf.noDict (beq_iff_eq.mp e▸fin _ (.inr ⟨beq_iff_eq.mp e,rfl⟩))
 |_=>exact hp.elim
theorem iG {v:V} {x:Str} {y:Value} {m:Rg} {id:String} {vs:List V} {xs:List Value} (S:aU c g fr hd D A) (I:Inv c g fr wr env ρ st s) (hv:PF ρ v y) (hm:lE m x id) (hvs:PH ρ vs xs) (hp:ax Γ hd v x m vs st Q E):
  Kg c.M A (call (.builtin id) (y::xs)) (PG c g fr wr env ρ PF Q) (PE c g fr wr env ρ E) s:=by
 have ne1:Kp "insert"≠Kp "append":=!3
 have ne2:Kp "clear"≠Kp "get":=!3
 induction m with
 |lst=>
  unfold ax at hp
  replace hp:=aB hp
  obtain ⟨i,o,rfl,ho,hp⟩:=hp
  obtain ⟨p,hρ,rfl,r⟩:=PF.get I hv ho
  dsimp only at hp
  induction o with
  |list l=>
   obtain ⟨its,n,h1,h2⟩:=r
   have' hz:its.size=l.length:=by rw [<-h2.length,G9]
   dsimp only at hp
   unfold dI at hp
   rcases hm with ⟨rfl,rfl⟩|⟨rfl,rfl⟩
   ·rw [RA rfl] at hp
    induction vs using Lc with
    |nil=>exact hp.elim
    |cons u us=>
     induction us using Lc with
     |cons _ _=>exact hp.elim
     |nil=>
      induction xs using Lc with
      |nil=>exact hvs.elim
      |cons z zs=>
       induction zs using Lc with
       |cons _ _=>exact hvs.2.elim
       |nil=>
        obtain ⟨hl,hq⟩:=hp
        refine append_at h1 (λh' hs hg=>?_) (by rw [hz];exact G2 (Hk hl) bF)
        exact ⟨ρ,_,.none,GX _,I.put (o':=.list (l++[u])) (tk:=s.toks) hρ ho rfl rfl (λ_ _ e=>by exact oNe e rfl) hs ⟨_,_,hg,by rw [JE];exact h2.snoc hvs.1⟩,rfl,hq⟩
   rw [Rz ne1,RA rfl] at hp
   induction vs using Lc with
   |cons v0 vs=>
    induction v0 with
    |int i0=>
     induction vs using Lc with
     |cons u vs=>
      induction vs using Lc with
      |nil=>
       induction xs using Lc with
       |nil=>exact hvs.elim
       |cons z0 zs=>
        induction zs using Lc with
        |nil=>exact hvs.2.elim
        |cons z zs=>
         induction zs using Lc with
         |cons _ _=>exact hvs.2.2.elim
         |nil=>
          obtain ⟨⟨t0,rfl⟩,hz1,_⟩:=hvs
          obtain ⟨⟨rfl,hl⟩,hq⟩:=hp
          refine call_meets PySem.F.slot_list_insert ⟨_,h1,rfl⟩ PySem.F.entry_list_insert (PySem.F.args_list_insert_3 _ _ _) (AutoSeq1.list_insert_list_int_val_1 p.1 its n 0 t0 z (!3) (by rw [hz];exact G2 (Hk hl) bF)) ⟨h1,?_⟩
          have' hg:=Kn (Ls λxs=>have k:=if (0:Int)<0 then ((0:Int)+(xs.size:Int)).toNat else min (0:Int).toNat xs.size;(xs.extract 0 k).push z++xs.extract k) h1 rfl
          refine ⟨ρ,_,.none,GX _,I.put (o':=.list (u::l)) (tk:=s.toks) hρ ho rfl rfl (λ_ _ e=>by exact oNe e rfl) (Ks ..) ⟨_,_,hg,?_⟩,rfl,hq⟩
          have' e:(((its.extract 0 (min (0:Int).toNat its.size)).push z++its.extract (min (0:Int).toNat its.size)):Array Value).toList=z::its.toList:=by simp
          show PH ρ (u::l) (((its.extract 0 (min (0:Int).toNat its.size)).push z++its.extract (min (0:Int).toNat its.size)):Array Value).toList
          rw [e]
          exact ⟨hz1,h2⟩
      |_=>exact hp.elim
     |_=>exact hp.elim
    |_=>exact hp.elim
   |_=>exact hp.elim
  |_=>exact hp.elim
 |set=>
  unfold ax at hp
  replace hp:=aB hp
  obtain ⟨i,o,rfl,ho,hp⟩:=hp
  obtain ⟨p,hρ,rfl,r⟩:=PF.get I hv ho
  dsimp only at hp
  induction o with
  |set l es ep tb=>
   obtain ⟨h0,h2⟩:=r
   dsimp only at hp
   unfold gZ at hp
   obtain ⟨rfl,rfl⟩:=hm
   rw [RA rfl] at hp
   induction vs using Lc with
   |cons v0 vs=>
    induction v0 with
    |int k=>
     induction vs using Lc with
     |nil=>
      induction xs using Lc with
      |nil=>exact hvs.elim
      |cons z zs=>
       induction zs using Lc with
       |cons _ _=>exact hvs.2.elim
       |nil=>
        obtain ⟨⟨t,rfl⟩,_⟩:=hvs
        obtain ⟨hl,hq⟩:=hp
        refine ip h2 h0 hl λes1 ep1 t1 h' hok hs hg=>?_
        exact ⟨ρ,_,.none,GX _,I.put (o':=.set (cI k l) es1 ep1 t1) (tk:=s.toks+1) hρ ho rfl rfl (λ_ _ e=>by exact oNe e rfl) hs ⟨hg,hok⟩,rfl,hq _ _ _⟩
     |_=>exact hp.elim
    |_=>exact hp.elim
   |_=>exact hp.elim
  |_=>exact hp.elim
 |dct=>
  unfold ax at hp
  replace hp:=aB hp
  obtain ⟨i,o,rfl,ho,hp⟩:=hp
  obtain ⟨p,hρ,rfl,r⟩:=PF.get I hv ho
  dsimp only at hp
  induction o with
  |dict ep kv=>
   obtain ⟨kvs,hA,h3⟩:=r
   have hD:=hA.dictOf
   have lo:=dj S.ok (I.w.rep.low hρ ho rfl).1
   dsimp only at hp
   unfold dJ at hp
   rcases hm with ⟨rfl,rfl⟩|⟨rfl,rfl⟩
   ·rw [RA rfl] at hp
    induction vs using Lc with
    |cons v0 vs=>
     induction v0 with
     |int k=>
      induction vs using Lc with
      |cons d vs=>
       induction vs using Lc with
       |nil=>
        induction xs using Lc with
        |nil=>exact hvs.elim
        |cons z0 zs=>
         induction zs using Lc with
         |nil=>exact hvs.2.elim
         |cons z zs=>
          induction zs using Lc with
          |cons _ _=>exact hvs.2.2.elim
          |nil=>
           obtain ⟨⟨t0,rfl⟩,hz1,_⟩:=hvs
           refine MV PySem.F.slot_dict_get hD.typeIs PySem.F.entry_dict_get (PySem.F.args_dict_get_3 _ _ _) (meets_dict_get_default (KU c.prog c.w) p.1 (Lg _ _ k t0) lo z) ⟨_,hD.mapOf,?_⟩
           have hq:Q ((aj kv k).getD d) st:=hp
           rcases mZ (k:=k) h3 with ⟨e1,e2⟩|⟨v',z',e1,e2,e3⟩
           ·rw [e1] at hq;rw [e2];exact PG.same I hz1 hq
           rw [e1] at hq;rw [e2];exact PG.same I e3 hq
       |_=>exact hp.elim
      |_=>exact hp.elim
     |_=>exact hp.elim
    |_=>exact hp.elim
   rw [Rz ne2,RA rfl] at hp
   induction vs using Lc with
   |cons _ _=>exact hp.elim
   |nil=>
    induction xs using Lc with
    |cons _ _=>exact hvs.elim
    |nil=>
     obtain ⟨hz,hq⟩:=hp
     refine MV PySem.F.slot_dict_clear hD.typeIs PySem.F.entry_dict_clear (PySem.F.args_dict_clear_1 _) (meets_dict_clear (KU c.prog c.w) p.1) ⟨kvs,hD,by rw [iB h3];exact G2 hz bF,λh' hD' hs=>?_⟩
     obtain ⟨ep',hA'⟩:=hD'.dictAt
     exact ⟨ρ,_,.none,GX _,I.put (o':=.dict ep' []) (tk:=s.toks) hρ ho rfl rfl (λ_ _ e=>by exact oNe e rfl) hs ⟨[],hA',trivial⟩,rfl,hq ep'⟩
  |_=>exact hp.elim
 |fn f=>exact hm.elim
 |stat f=>exact hm.elim
end
section
variable {c:Cx} {g:GP} {fr:List Env} {wr:Str->Bool} {env:Env} {A:Kw} {hd:Bool} {D:Nat} {ρ ρ' ρ₀:Rho} {st:AS} {s:Ki} {Γ:Gam}
 {Q:V->AS->Prop} {E:Nat->AS->Prop} {Qb:Bool->AS->Prop} {Qu:Unit->AS->Prop}
def qt (c:Cx) (hd:Bool) (src:Src) (it:Addr) (ρ₀:Rho) (P:Nat->Obj->Prop):Prop:=∀{g fr wr env A D e ρ st s j o v} {Q:Option Value->Ki->Prop} {E:Value->Ki->Prop},PU c g fr hd D e A->ρ₀<+:ρ->Inv c g fr wr env ρ st s->src.G st.hp->s.heap.get? it=some o->P j o->src.items[j]?=some v->
  (∀y h' o' tk,PF ρ v y->KF it s.heap h'->h'.get? it=some o'->P (j+1) o'->Q (some y) {s with heap:=h',toks:=tk})->Kg c.M A (Mm (.ref it)) Q E s
def qu (c:Cx) (hd:Bool) (src:Src) (it:Addr) (ρ₀:Rho) (P:Nat->Obj->Prop):Prop:=∀{g fr wr env A D e ρ st s j o} {Q:Option Value->Ki->Prop} {E:Value->Ki->Prop},PU c g fr hd D e A->ρ₀<+:ρ->Inv c g fr wr env ρ st s->src.G st.hp->s.heap.get? it=some o->P j o->src.items[j]?=none->
  (∀h',Nw it s.heap h'->Q none {s with heap:=h'})->Kg c.M A (Mm (.ref it)) Q E s
structure Rn (c:Cx) (hd:Bool) (src:Src) (it:Addr) (ρ₀:Rho) (P:Nat->Obj->Prop):Prop where
 iter:∀{A j o} {s:Ki} {Q:Value->Ki->Prop} {E:Value->Ki->Prop},s.heap.get? it=some o->P j o->Q (.ref it) s->Kg c.M A (Mz (.ref it)) Q E s
 len:src.items.length≤lim
 own:∀{j o},P j o->∃n,o.cls=.type n∧["enumerate","zip","dict_itemiterator","dict_reverseitemiterator","odict_iterator","itertools.zip_longest","itertools.pairwise"].contains n=false
 item:qt c hd src it ρ₀ P
 stop:qu c hd src it ρ₀ P
structure P4 (c:Cx) (g:GP) (fr:List Env) (env:Env) (ρ:Rho) (it:Addr):Prop where
 out:P3 g ρ it
 fr:it∉dB fr
 loc:it≠env.locals
 cell:∀x a,env.cells.lookup x=some a->a≠it
 low:c.base.objs.size≤it
theorem Inv.free (I:Inv c g fr wr env ρ st s) (h:s.heap.objs.size≤it):P4 c g fr env ρ it where
 out:=⟨by
  induction e:g it with
  |none=>rfl
  |some o=>obtain ⟨sl,q,_⟩:=I.w.prot it o e;exact absurd (Kj q) (Hr.mpr h),
  λi p hp=>⟨Hb (G5 (Kj (I.w.rep.inb hp).1.choose_spec) h),Hb (G5 (Kj (I.w.rep.inb hp).2.choose_spec) h)⟩⟩
 fr:=λhm=>by
  obtain ⟨_,o,ho,_⟩:=I.w.ffun.mem hm
  exact absurd (Kj ho) (Hr.mpr h)
 loc:=HE (G5 I.e.locals_lt h)
 cell:=λx a ha=>by
  obtain ⟨ov,o,ho,_⟩:=I.e.cis x a ha
  exact Hb (G5 (Kj ho) h)
 low:=G2 I.w.size h
theorem Inv.touch (I:Inv c g fr wr env ρ st s) (F:P4 c g fr env ρ it) (k:∀b ob,b≠it->s.heap.get? b=some ob->h'.get? b=some ob):
  Inv c g fr wr env ρ st {s with heap:=h',toks:=tk}:=
 ⟨I.w.touch k (I.base_le λo=>k _ o (Ne.symm F.loc)) (bJ F.out.2) F.out.1 F.low F.out.2 (λhm=>absurd hm F.fr),
  I.e.move (GX _) (λo=>k _ o (Ne.symm F.loc)) (λx a ha o=>k _ o (F.cell x a ha)) I.e.lno I.e.cno⟩
def cB (g:GP) (it:Addr) (o:Obj):GP:=λb=>if b=it then some o else g b
theorem gy:cB g it o it=some o:=RA rfl
theorem cM (h:cB g it o a=none):g a=none∧a≠it:=by
 unfold cB at h
 split at h
 ·exact nSN h
 rename_i n;exact ⟨h,n⟩
theorem ky (n:g it=none) (h:g b=some o'):cB g it o b=some o':=by
 unfold cB
 rw [Rz (λe=>by rw [e,n] at h;exact nNS h)];exact h
theorem Inv.guard (I:Inv c g fr wr env ρ st s) (F:P4 c g fr env ρ it) (ho:s.heap.get? it=some o):Inv c (cB g it o) fr wr env ρ st s where
 w:={I.w with
  prot:=λb ob e=>by
   unfold cB at e
   split at e
   ·rename_i hb;(replace e:=ay e;subst e);subst hb;exact ⟨_,ho,λ_=>rfl⟩
   exact I.w.prot b ob e
  gfoot:=λa f=>by
   unfold cB
   rw [Rz (λe=>bJ F.out.2 (e▸f))];exact I.w.gfoot a f
  bg:=λb ob e=>ky F.out.1 (I.w.bg b ob e)
  gtab:=λP hP=>by unfold cB;rw [Rz (λe=>by rw [e] at hP;exact I.w.tabNo F.low hP)];exact I.w.gtab P hP}
 e:={I.e with
  lg:=by unfold cB;rw [Rz (Ne.symm F.loc)];exact I.e.lg
  cg:=λx a hw hk ha=>by unfold cB;rw [Rz (F.cell x a ha)];exact I.e.cg x a hw hk ha}
theorem Inv.unguard (F:P4 c g fr env ρ it) (I:Inv c (cB g it o) fr wr env ρ' st s):Inv c g fr wr env ρ' st s∧s.heap.get? it=some o∧P4 c g fr env ρ' it:=by
 have' out:∀(i:Nat) p,ρ'[i]?=some p->p.1≠it∧p.2≠it:=λi p hp=>by
  have hi:i<st.hp.length:=I.w.rep.len▸(G4.mp hp).1
  obtain ⟨x,hx⟩:∃x,st.hp[i]?=some x:=⟨_,G3 hi⟩
  induction hr:x.isRo with
  |true=>
   have:=I.w.rep.rolow hp hx hr
   exact ⟨λz=>absurd this.1 (Hr.mpr (z▸F.low)),λz=>absurd this.2 (Hr.mpr (z▸F.low))⟩
  |false=>
   exact ⟨(cM (I.w.gfoot p.1 ⟨i,p,x,hp,hx,hr,.inl rfl⟩)).2,(cM (I.w.gfoot p.2 ⟨i,p,x,hp,hx,hr,.inr rfl⟩)).2⟩
 refine ⟨⟨{I.w with
  prot:=λb ob e=>I.w.prot b ob (ky F.out.1 e)
  gfoot:=λa f=>(cM (I.w.gfoot a f)).1
  bg:=λb ob e=>?_
  gtab:=λP hP=>(cM (I.w.gtab P hP)).1},{I.e with
  lg:=(cM I.e.lg).1
  cg:=λx a hw hk ha=>(cM (I.e.cg x a hw hk ha)).1}⟩,I.w.prot.at gy F.fr,{F with out:=⟨F.out.1,out⟩}⟩
 have:=I.w.bg b ob e
 unfold cB at this
 split at this
 ·rename_i hb;exact absurd (Kj e) (Hr.mpr (hb▸F.low))
 exact this
theorem PU.guard (S:PU c g fr hd D e A) (n:g it=none):PU c (cB g it o) fr hd D e A:=
 {S with hsome:=S.hsome.imp id λ⟨eh,oe,vs,h1,h2,h3,h4,h5⟩=>⟨eh,oe,vs,h1,ky n h2,h3,h4,h5⟩}
theorem P3.unguard (h:P3 (cB g it o) ρ a):P3 g ρ a:=⟨(cM h.1).1,h.2⟩
theorem P6.unguard (x:P6 c (cB g it o) ρ L C e h):P6 c g ρ L C e h:=by
 obtain ⟨a,oe,vs,v1,h1,h2,h3,h4,h5,h6,h7,h8,h9⟩:=x
 refine ⟨a,oe,vs,v1,h1,h2,h3,h4,h5,h6.unguard,h7,h8,h9.imp id ?_⟩
 rintro ⟨T,oT,ts,f3,k1,k2,k3,k4,k5,k6,k7,k8⟩
 exact ⟨T,oT,ts,f3,k1,k2,k3,k4,k5,k6,k7.unguard,k8⟩
inductive PN (c:Cx) (g:GP) (fr:List Env) (wr:Str->Bool) (env:Env) (hd:Bool) (ρ:Rho) (Q:Src->AS->Prop) (y:Value) (s':Ki):Prop
 |mk (ρ':_) (st':_) (src:_) (it:_) (o:_) (P:Nat->Obj->Prop) (z1:y=.ref it) (z2:ρ<+:ρ') (z3:Inv c g fr wr env ρ' st' s') (z4:s'.heap.get? it=some o) (z5:P 0 o) (z6:Rn c hd src it ρ' P) (z7:P4 c g fr env ρ' it) (z8:Q src st'):PN c g fr wr env hd ρ Q y s'
theorem PN.push (I:Inv c g fr wr env ρ st s) (hf:ob.isFreed=false) (h0:P 0 ob) (X:Rn c hd src s.heap.objs.size ρ P) (hq:Qs src st):
  PN c g fr wr env hd ρ Qs (.ref s.heap.objs.size) {s with heap:=s.heap.push ob}:=
 ⟨ρ,st,src,_,ob,P,rfl,GX _,I.kept (tk:=s.toks) λb o e=>Kh _ e,Kk _ hf,h0,X,I.free (GW _),hq⟩
theorem d3 {i:Nat} {p:Nat×Nat} (h:ρ₀<+:ρ) (e:ρ₀[i]?=some p):ρ[i]?=some p:=n8 h e
theorem zI {k:Int} {kv:List (Int×V)} {kvs:List (Int×Value)} {i:Nat} (h:P9 ρ kv kvs) (e:(kv.map λp=>V.int p.1)[i]?=some (.int k)):∃v,kvs[i]?=some (k,v):=
 P9.ind (P:=λkv kvs=>∀i,(kv.map λp=>V.int p.1)[i]?=some (.int k)->∃v,kvs[i]?=some (k,v)) (λi e=>by rw [List.map_nil,List.getElem?_nil] at e;exact nNS e) (λf r q qs h1 _ _ ih i e=>by
  induction i using Hn with
  |zero=>exact ⟨q.2,by rw [<-V.int.inj (ay e),h1];rfl⟩
  |succ i=>exact ih i e) h i e
theorem qw {v:V} {x:Value} {Qs:Src->AS->Prop} {E':Value->Ki->Prop} {e:Nat} (S:PU c g fr hd D e A) (I:Inv c g fr wr env ρ st s) (hv:PF ρ v x) (hp:aI hd v st Qs E):
  Kg c.M A (Mz x) (PN c g fr wr env hd ρ Qs) E' s:=by
 unfold aI at hp
 obtain ⟨hh,hp⟩:=hp
 replace hp:=aB hp
 obtain ⟨i,o,rfl,ho,hp⟩:=hp
 obtain ⟨p,hρ,rfl,r⟩:=PF.get I hv ho
 dsimp only at hp
 induction o with
 |list vs=>
  obtain ⟨its,n,h1,h2⟩:=r
  obtain ⟨hz,hq⟩:=hp
  have hL:s.heap.IsList p.1 its:=⟨_,h1,rfl,n,rfl⟩
  refine MG hL (PN.push I (P:=λj o=>o.cls=.type "list_iterator"∧o.data=.fields #[.ref p.1,.int j 0]) rfl ⟨rfl,rfl⟩ ⟨λho hP hq=>wpAny_pyIter_listiter ⟨_,ho,hP.1,hP.2⟩ hq,hz,λh=>⟨_,h.1,!3⟩,?_,?_⟩ hq)
  ·intro g fr wr env A D e OH OI OG j ob v Q E OT OO OP hG hob hP hv hk
   have R:=OP.w.rep.obj (d3 OO hρ) hG
   obtain ⟨its',n',k1,k2⟩:=R
   obtain ⟨y,hy,hr⟩:=k2.get hv
   rw [He] at hy
   refine wpAny_pyNext_list_item (i:=j) ⟨ob,hob,hP.1,hP.2⟩ ⟨_,k1,rfl,n',rfl⟩ hy λh' hit hs=>?_
   obtain ⟨o',a1,a2,a3⟩:=hit
   exact hk y h' o' OG.toks hr hs a1 ⟨a2,a3⟩
  intro g fr wr env A D e OH OI OG j ob Q E OT OO OP hG hob hP hv hk
  have R:=OP.w.rep.obj (d3 OO hρ) hG
  obtain ⟨its',n',k1,k2⟩:=R
  have hlen:=k2.length
  refine wpAny_pyNext_list_end (i:=j) (OT.hnone hh) ⟨ob,hob,hP.1,hP.2⟩ ⟨_,k1,rfl,n',rfl⟩ ?_ hk
  rw [<-He,Hj,hlen];exact Hj.mp hv
 |tup vs=>
  obtain ⟨its,n,h1,h2⟩:=r
  obtain ⟨hz,hq⟩:=hp
  have hL:s.heap.IsTuple p.1 its:=⟨_,h1,rfl,n,rfl⟩
  refine wpAny_pyIter_tuple hL (PN.push I (P:=λj o=>o.cls=.type "tuple_iterator"∧o.data=.fields #[.ref p.1,.int j 0]) rfl ⟨rfl,rfl⟩ ⟨λho hP hq=>wpAny_pyIter_tupleiter ⟨_,ho,hP.1,hP.2⟩ hq,hz,λh=>⟨_,h.1,!3⟩,?_,?_⟩ hq)
  ·intro g fr wr env A D e OH OI OG j ob v Q E OT OO OP hG hob hP hv hk
   have R:=OP.w.rep.obj (d3 OO hρ) hG
   obtain ⟨its',n',k1,k2⟩:=R
   obtain ⟨y,hy,hr⟩:=k2.get hv
   rw [He] at hy
   refine wpAny_pyNext_tuple_item (i:=j) ⟨ob,hob,hP.1,hP.2⟩ ⟨_,k1,rfl,n',rfl⟩ hy λh' hit hs=>?_
   obtain ⟨o',a1,a2,a3⟩:=hit
   exact hk y h' o' OG.toks hr hs a1 ⟨a2,a3⟩
  intro g fr wr env A D e OH OI OG j ob Q E OT OO OP hG hob hP hv hk
  have R:=OP.w.rep.obj (d3 OO hρ) hG
  obtain ⟨its',n',k1,k2⟩:=R
  have hlen:=k2.length
  refine wpAny_pyNext_tuple_end (i:=j) (OT.hnone hh) ⟨ob,hob,hP.1,hP.2⟩ ⟨_,k1,rfl,n',rfl⟩ ?_ hk
  rw [<-He,Hj,hlen];exact Hj.mp hv
 |dict ep kv=>
  obtain ⟨kvs,hA,h3⟩:=r
  obtain ⟨hz,hq⟩:=hp
  have hlo:=dj S.ok (I.w.rep.low hρ ho rfl).1
  have hl:=iB h3
  refine wpAny_pyIter_dict hlo hA (PN.push I (P:=λj o=>o.cls=.type "dict_keyiterator"∧o.data=.fields #[.ref p.1,.int j 0,.int kv.length 0,.int ep 0]) rfl ⟨rfl,by rw [hl];rfl⟩ ⟨λho hP hq=>wpAny_pyIter_keyiter ⟨_,ho,hP.1,hP.2⟩ hq,by rw [G6];exact hz,λh=>⟨_,h.1,!3⟩,?_,?_⟩ hq)
  ·intro g fr wr env A D e OH OI OG j ob v Q E OT OO OP hG hob hP hv hk
   obtain ⟨kv',hG,hkv⟩:=hG
   have R:=OP.w.rep.obj (d3 OO hρ) hG
   obtain ⟨kvs',k1,k2⟩:=R
   have' hl':kvs'.length=kv.length:=by rw [iB k2,<-G6 (f:=(·.1)),hkv,G6]
   have hv':(kv'.map λp=>V.int p.1)[j]?=some v:=by
    have e1:(kv'.map λp=>V.int p.1)=(kv'.map (·.1)).map V.int:=by rw [Hx];rfl
    have e2:(kv.map λp=>V.int p.1)=(kv.map (·.1)).map V.int:=by rw [Hx];rfl
    rw [e1,hkv,<-e2];exact hv
   obtain ⟨q,hq1,rfl⟩:∃q,kv[j]?=some q∧V.int q.1=v:=by rw [Hg] at hv;exact Ic.mp hv
   obtain ⟨u,hu⟩:=zI (i:=j) k2 hv'
   refine wpAny_pyNext_dict_item (i:=j) (knd:=KU c.prog c.w) (by rw [hl'];exact ⟨ob,hob,hP.1,hP.2⟩) k1 hu λkey h' hkey hit hs=>?_
   obtain ⟨o',a1,a2,a3⟩:=hit
   rw [hl'] at a3
   have hr:PF OH (.int q.1) key:=Value.isInt_shape hkey
   exact hk key h' o' OG.toks hr hs a1 ⟨a2,a3⟩
  intro g fr wr env A D e OH OI OG j ob Q E OT OO OP hG hob hP hv hk
  obtain ⟨kv',hG,hkv⟩:=hG
  have R:=OP.w.rep.obj (d3 OO hρ) hG
  obtain ⟨kvs',k1,k2⟩:=R
  have' hl':kvs'.length=kv.length:=by rw [iB k2,<-G6 (f:=(·.1)),hkv,G6]
  refine wpAny_pyNext_dict_end (i:=j) (knd:=KU c.prog c.w) (OT.hnone hh) (by rw [hl'];exact ⟨ob,hob,hP.1,hP.2⟩) k1 ?_ hk
  rw [Hj,hl']
  rw [Hj,G6] at hv;exact hv
 |set ns es ep t=>
  obtain ⟨h1,h2⟩:=r
  obtain ⟨ns',hpm,hes⟩:=eu (eO (w:=c.w) (a:=p.1) (ep:=ep) (es:=es)) h2.vals
  have hq:Qs ⟨ns'.map V.int,λhp=>hp[i]?=some (.set ns es ep t)⟩ st:=hp ns' hpm
  have' hlen:ns'.length=es.size:=by rw [hpm.length_eq,h2.size]
  have hitem:∀{j:Nat} {v:V},(ns'.map V.int)[j]?=some v->∃e,(bZ c.w p.1 ep es)[j]?=some e∧∀ρ,PF ρ v e.2:=λ{j v} hv=>by
   rw [Hg] at hv
   obtain ⟨n,hn,rfl⟩:=Ic.mp hv
   obtain ⟨e,he,_,u,h⟩:=hes.get hn
   exact ⟨e,by rw [<-He];exact he,λρ=>⟨u,h⟩⟩
  refine ln h2 h1 (PN.push I (P:=λj o=>∃j':Nat,j'=j∧j≤es.size∧o.cls=.type "set_iterator"∧(o.data=.fields #[.int (cW c.w ns j') 0,.int j' 0,.ref p.1,.int es.size 0,.int ep 0])) rfl ⟨0,rfl,HK _,rfl,by simp [cW,ij]⟩ ⟨λho hP hq=>lq ⟨_,ho,hP.choose_spec.2.2.1⟩ hq,by rw [G6,hlen,h2.size];exact G2 h2.len !3,λh=>⟨_,h.choose_spec.2.2.1,!3⟩,?_,?_⟩ hq)
  ·intro g fr wr env A D e OH OI OG j ob v Q E OT OO OP hG hob hP hv hk
   obtain ⟨j,rfl,hle,hc,hdt⟩:=hP
   obtain ⟨k1,k2⟩:=OP.w.rep.obj (d3 OO hρ) hG
   obtain ⟨x,hx,hr⟩:=hitem hv
   refine lp k2 k1 ⟨ob,hob,hc,hdt⟩ hx λh' hit hs=>?_
   obtain ⟨o',a1,a2,a3⟩:=hit
   have hj:j<es.size:=by
    have':=(HF.mp hx).1
    rw [dH] at this;exact this
   exact hk _ h' o' OG.toks (hr _) hs a1 ⟨j+1,rfl,hj,a2,a3⟩
  intro g fr wr env A D e OH OI OG j ob Q E OT OO OP hG hob hP hv hk
  obtain ⟨j,rfl,hle,hc,hdt⟩:=hP
  obtain ⟨k1,k2⟩:=OP.w.rep.obj (d3 OO hρ) hG
  have hj:j=es.size:=by
   rw [Hj,G6,hlen] at hv
   exact Dx hv hle
  subst hj
  exact n7 (OT.hnone hh) k2 k1 ⟨ob,hob,hc,hdt⟩ hk
 |_=>exact hp.elim
theorem jk:MP Oa "proto.unchain"=some KV.«proto.unchain»:=MO !0
theorem o5 (hx:s.heap.get? x=some ox) (hd:ox.data=.fields vs) (hz:2<vs.size)
  (hh:A.handled=none∨Ex3 λeh oe us=>Q6 (A.handled=some (.ref eh)) (s.heap.get? eh=some oe) (oe.data=.fields us) (us[2]?=some .none) (eh≠x))
  (h:∀h' o',KF x s.heap h'->h'.get? x=some o'->o'.cls=ox.cls->(A.handled=none->h'=s.heap)->E' (.ref x) {s with heap:=h'}):Kg (Ku prog w) A (NF (.ref x):Sem α) Qa E' s:=by
 unfold NF
 refine Ke (N3 ?_)
 rcases hh with hh|⟨eh,oe,us,hh,h1,h2,h3,h4⟩
 ·rw [hh]
  exact Ke (Kf (ME (h _ ox ⟨rfl,λ_ _=>rfl⟩ hx rfl λ_=>rfl)))
 rw [hh]
 dsimp only
 have hne:(KI eh !=KI x)=true:=by simp [h4]
 rw [RA hne]
 refine Ke (Km (Na (KG jk ?_)))
 unfold KV.«proto.unchain»
 refine Ke (m:=field (.ref eh) 2) (KA h1 h2 h3 ?_)
 rw [RA (show (Kr==Kr)=true from rfl)]
 refine Kf ?_
 show Kg _ _ (Op x 2 (KI eh)>>=λ_=>throw (KI x)) _ _ _
 unfold Op
 refine Ke (Ke (Oy hx ?_))
 rw [hd]
 dsimp only
 rw [RA hz]
 exact wpAny_update hx (ME (h _ _ (Ks ..) (Kn _ hx (KQ (KN hd _))) (LY ..) (λz=>by rw [hh] at z;exact nSN z)))
theorem PU.handledAt {e:Nat} {hp:List O} (S:PU c g fr hd D e A) (I:PP c g fr ρ hp s) {x:Addr} {h':Heap} (hx:s.heap.objs.size≤x) (k:∀b o,g b≠none->s.heap.get? b=some o->h'.get? b=some o):
  A.handled=none∨Ex3 λeh oe us=>Q6 (A.handled=some (.ref eh)) (h'.get? eh=some oe) (oe.data=.fields us) (us[2]?=some .none) (eh≠x):=by
 refine S.hsome.imp id ?_
 rintro ⟨eh,oe,vs,h1,h2,h3,h4,h5⟩
 have q:=I.prot.at h2 h3
 exact ⟨eh,oe,vs,h1,k _ _ (by rw [h2];exact λz=>by exact nSN z) q,h4,h5,Hb (G5 (Kj q) hx)⟩
theorem lF {α:Type} {e:Nat} {hp:List O} {OG:Ki} {A':Kw} {Qa:α->Ki->Prop} {E':Value->Ki->Prop} (S:PU c g fr hd D e A) (I:PP c g fr ρ hp s) (hA:A'.handled=A.handled) (hsz:s.heap.objs.size≤OG.heap.objs.size)
  (k:∀b o,g b≠none->s.heap.get? b=some o->OG.heap.get? b=some o)
  (h:∀h' x o,(∀b o,OG.heap.get? b=some o->h'.get? b=some o)->h'.get? x=some o->o.cls=.type "StopIteration"->E' (.ref x) {OG with heap:=h'}):
  Kg c.M A' (do NF (<-OB (.type "StopIteration") []):Sem α) Qa E' OG:=by
 refine Ke ?_
 simp only [OB,PySem.newTuple]
 refine Ke (Kx ?_ (by size_fits))
 refine Ke (m:=Mg _ _) (Ll (a:=Kr) (by first|rfl|(simp only [Mg];rfl)) ?_)
 refine Kx ?_ (by size_fits)
 refine o5 (Kk _ rfl) rfl (by rw [Array.size_append];exact G5 (show 2<6 by decide) (Nat.le_add_right _ _)) ?_ λh' o' hs ho hcls _=>?_
 ·rw [hA]
  exact S.handledAt (h':=_) I (G2 hsz (by rw [Kv];exact IK _)) λb o n e=>Kh _ (Kh _ (k b o n e))
 exact h h' _ o' (λb o e=>(hs.2 b (Hb (by rw [Kv];exact Hz (Kj e)))).trans (Kh _ (Kh _ e))) ho hcls
theorem sU (S:PU c g fr hd D e A) (I:Inv c g fr wr env ρ st s) (hit:s.heap.IsRevIter it l (-1))
  (hQ:∀h',Nw it s.heap h'->Qo none {s with heap:=h'}):Kg c.M A (Mm (.ref it)) Qo E' s:=by
 obtain ⟨o,ho,hc,hdt⟩:=id hit
 unfold Mm
 refine Ke (MN (KD (name:=Kp "__next__") hit.typeIs PySem.F.slot_lri_next
  (KC PySem.F.slot_lri_next hit.typeIs PySem.F.entry_lri_next ?_ (PySem.F.args_lri_next_1 _))))
 unfold KV.«list_reverseiterator.__next__»
 refine Ke (Ll (a:=(KI it,[])) rfl ?_)
 try dsimp only
 refine Ke (KA ho hdt (x:=Lx (-1)) rfl ?_)
 show Kg _ _ (if (-1:Int)<0 then _ else _) _ _ s
 rw [RA !3]
 refine Ke (LH ?_)
 refine Ke ?_
 refine lF (A':=A.in1) S I.w rfl (GW _) (λ_ _ _ e=>e) λh' x o' hk hx hcls=>?_
 refine Ke (LQ (T:="StopIteration") (b:=true) ⟨_,hx,hcls⟩ NZ ?_)
 exact Kf (hQ _ λb ob _ e=>hk b ob e)
theorem qx {v:V} {x:Value} {Qs:Src->AS->Prop} {Qx:Value->Ki->Prop} {E':Value->Ki->Prop} {e:Nat} (S:PU c g fr hd D e A) (I:Inv c g fr wr env ρ st s) (hv:PF ρ v x) (hp:gK v st Qs E)
  (h:∀y s',Kg c.M A (Mz y) (PN c g fr wr env hd ρ Qs) E' s'->Qx y s'):
  Kg c.M A (call (.type "reversed") [x]) Qx E' s:=by
 unfold gK at hp
 replace hp:=aB hp
 obtain ⟨i,o,rfl,ho,hp⟩:=hp
 obtain ⟨p,hρ,rfl,r⟩:=PF.get I hv ho
 dsimp only at hp
 induction o with
 |list vs=>
  obtain ⟨its,n,h1,h2⟩:=r
  obtain ⟨hz,hq⟩:=hp
  have hL:s.heap.IsList p.1 its:=⟨_,h1,rfl,n,rfl⟩
  have hlen:=h2.length
  have hsz:its.size=vs.length:=by rw [<-hlen,G9]
  refine call_reversed_list hL (h _ _ ?_)
  have hI:(s.heap.push (revObj p.1 ((its.size:Int)-1))).IsRevIter s.heap.objs.size p.1 ((its.size:Int)-1):=⟨_,Kk _ rfl,rfl,rfl⟩
  refine wpAny_pyIter_revIter (s:={s with heap:=s.heap.push (revObj p.1 ((its.size:Int)-1))}) hI (PN.push I (P:=λj o=>j≤vs.length∧o.cls=.type "list_reverseiterator"∧o.data=.fields #[.ref p.1,Lx ((vs.length:Int)-1-(j:Int))]) rfl ⟨HK _,rfl,by rw [hsz];simp [revObj]⟩ ⟨λho hP hq=>wpAny_pyIter_revIter ⟨_,ho,hP.2.1,hP.2.2⟩ hq,by rw [IW];exact hz,λh=>⟨_,h.2.1,!3⟩,?_,?_⟩ hq)
  ·intro g fr wr env A D e OH OI OG j ob v Q E OT OO OP hG hob hP hv hk
   have R:=OP.w.rep.obj (d3 OO hρ) hG
   obtain ⟨its',n',k1,k2⟩:=R
   have' hj:j<vs.length:=by have:=(G4.mp hv).1;rwa [IW] at this
   rw [List.getElem?_reverse hj] at hv
   obtain ⟨y,hy,hr⟩:=k2.get hv
   rw [He] at hy
   have' e1:(vs.length:Int)-1-(j:Int)=((vs.length-1-j:Nat):Int):=CQ hj
   have hP2:=hP.2.2
   rw [e1] at hP2
   refine wpAny_pyNext_rev_item (i:=vs.length-1-j) ⟨ob,hob,hP.2.1,hP2⟩ ⟨_,k1,rfl,n',rfl⟩ hy λh' hit hs=>?_
   obtain ⟨o',a1,a2,a3⟩:=hit
   refine hk y h' o' OG.toks hr hs a1 ⟨hj,a2,?_⟩
   rw [a3]
   have':((vs.length-1-j:Nat):Int)-1=(vs.length:Int)-1-((j+1:Nat):Int):=CA e1
   rw [this]
  intro g fr wr env A D e OH OI OG j ob Q E OT OO OP hG hob hP hv hk
  rw [Hj,IW] at hv
  have hP2:=hP.2.2
  have e1:(vs.length:Int)-1-(j:Int)= -1:=by have:=hP.1;exact Dw hv this
  rw [e1] at hP2
  exact sU OT OP ⟨ob,hob,hP.2.1,hP2⟩ hk
 |_=>exact hp.elim
theorem ng (S:PU c g fr hd D e A) (I:Inv c g fr wr env ρ st s) (hv:PH ρ vs xs) (hp:cq hd vs st Qs E)
  (h:∀y s',Kg c.M A (Mz y) (PN c g fr wr env hd ρ Qs) E' s'->Qx y s'):
  Kg c.M A (call (.type "range") xs) Qx E' s:=by
 unfold cq at hp
 induction vs using Lc with
 |nil=>exact hp.elim
 |cons v vs=>
 induction v with
 |int n=>
  induction vs using Lc with
  |cons _ _=>exact hp.elim
  |nil=>
   obtain ⟨⟨hh,h0,hn⟩,hq⟩:=hp
   induction xs using Lc with
   |nil=>exact hv.elim
   |cons z zs=>
    induction zs using Lc with
    |cons _ _=>exact hv.2.elim
    |nil=>
     obtain ⟨⟨t,rfl⟩,_⟩:=hv
     refine call_range_1 (h _ _ ?_)
     have' hsz:Builtin.Range.rangeSize 0 n 1=n:=by rw [rangeSize_one];split<;>(first|exact E8|exact E6 h0 ‹_›)
     have small:Builtin.Range.small 0 n 1=true:=by
      unfold Builtin.Range.small
      rw [hsz]
      have hlim:(n:Int)≤100000:=hn
      have' a1:KP n=true:=by unfold KP;simp;exact w92 h0 hlim
      have' a2:KP (n+(1-1))=true:=by unfold KP;simp;exact w92 h0 hlim
      have a3:KP 0=true:=!3
      have a4:KP 1=true:=!3
      rw [a1,a3,a4]
      simp [a1]
     have I':Inv c g fr wr env ρ st {s with heap:=s.heap.push {cls:=.type "range",data:=.fields #[.int 0 s.toks,.int n t,.int 1 (s.toks+1)]},toks:=s.toks+1+1}:=I.kept λb o e=>Kh _ e
     refine wpAny_pyIter_range (Kk _ rfl) small (PN.push I' (P:=λj o=>∃j':Nat,j'=j∧o={cls:=.type "range_iterator",dict:=none,data:=.fields #[Lx (j:Int),Lx (n-(j:Int)),Lx 1],slots:=#[]}) rfl ⟨0,rfl,by rw [hsz];simp⟩ ⟨λho hP hq=>wpAny_pyIter_rangeiter (by obtain ⟨_,_,rfl⟩:=hP;exact ho) hq,by rw [G6,HA];have:=hn;exact EL this,λh=>⟨_,by obtain ⟨_,_,rfl⟩:=h;rfl,!3⟩,?_,?_⟩ hq)
     ·intro g fr wr env A D e OH OI OG j ob v Q E OT OO OP hG hob hP hv hk
      obtain ⟨_,_,rfl⟩:=hP
      have' hj:j<n.toNat:=by have:=(G4.mp hv).1;rwa [G6,HA] at this
      have hv':v=.int (j:Int):=by
       rw [Hg,IE hj] at hv
       exact (Hm.inj hv).symm
      subst hv'
      refine wpAny_pyNext_range_item hob (DG hj) λh' hit hs=>?_
      refine hk _ h' _ _ ⟨_,rfl⟩ hs hit ⟨j+1,rfl,?_⟩
      have e1:n-(j:Int)-1=n-((j+1:Nat):Int):=EG
      have e2:(j:Int)+1=((j+1:Nat):Int):=w73
      rw [e1,e2]
     intro g fr wr env A D e OH OI OG j ob Q E OT OO OP hG hob hP hv hk
     obtain ⟨_,_,rfl⟩:=hP
     rw [Hj,G6,HA] at hv
     exact wpAny_pyNext_range_end (OT.hnone hh) hob (EM hv) hk
 |_=>exact hp.elim
end
structure PR (ec:EC) (wr:Str->Bool) (env:Env):Prop where
 kd:∀x,ec.kd x=env.kindOf x
 wr:∀x,ec.wr x=wr x
def cj (ρ:Rho) (f:Fl) (x:Flow):Prop:=match f with
 |.next=>x=.next
 |.cont=>x=.cont
 |.ret v=>∃y,x=.ret y∧PF ρ v y
structure PM (c:Cx) (D:Nat) (hd:Bool) (r:Ev):Prop where
 E:∀{g fr wr env A ec},PR ec wr env->aU c g fr hd D A->∀e ρ₀,Sim c g fr wr env A ρ₀ (eval e env) (r.E ec e) PF
 T:∀{g fr wr env A ec},PR ec wr env->aU c g fr hd D A->∀e ρ₀,Sim c g fr wr env A ρ₀ (NY e env (eval e env)) (r.T ec e) (λ_ b a=>a=b)
 S:∀{g fr wr env A ec},PR ec wr env->aU c g fr hd D A->∀s ρ₀,Sim c g fr wr env A ρ₀ (exec s env) (r.S ec s) cj
section
variable {c:Cx} {g:GP} {fr:List Env} {wr:Str->Bool} {env:Env} {A:Kw} {hd:Bool} {D:Nat} {ρ ρ' ρ₀ OH:Rho} {st:AS} {s:Ki} {Γ:Gam} {r:Ev} {ec:EC}
 {Q:V->AS->Prop} {E:Nat->AS->Prop} {Qb:Bool->AS->Prop} {Qu:Unit->AS->Prop}
theorem PG.up {α β:Type} {R:Rho->β->α->Prop} {Q:β->AS->Prop} {a:α} {s':Ki} (h:ρ<+:OH) (x:PG c g fr wr env OH R Q a s'):PG c g fr wr env ρ R Q a s':=by
 obtain ⟨ρ',st',b,h1,y,z,u⟩:=x
 exact ⟨ρ',st',b,h.trans h1,y,z,u⟩
theorem PE.up {e:Value} {s':Ki} (h:ρ<+:OH) (x:PE c g fr wr env OH E e s'):PE c g fr wr env ρ E e s':=by
 obtain ⟨ρ',st',b,h1,y,z,u⟩:=x
 exact ⟨ρ',st',b,h.trans h1,y,z,u⟩
theorem Sim.go {α β β':Type} {t:Sem α} {p:PT β} {R:Rho->β->α->Prop} {q:β->PT β'} {Q:β'->AS->Prop} {X:α->Ki->Prop} (h:Sim c g fr wr env A ρ₀ t p R) (h0:ρ₀<+:ρ) (I:Inv c g fr wr env ρ st s) (hp:(p>>=q) st Q E)
  (k:∀OH OI OG a b,ρ<+:OH->Inv c g fr wr env OH OI OG->R OH b a->q b OI Q E->X a OG):Kg c.M A t X (PE c g fr wr env ρ E) s:=by
 refine Kl (h ρ st s _ E h0 I hp) (λa s' x=>?_) λ_ _ x=>x
 obtain ⟨OH,OI,b,h1,h2,h3,h4⟩:=x
 exact k OH OI s' a b h1 h2 h3 h4
theorem aH {e:Expr} {rest:List Expr} (h:aZ e=false):Ky (e::rest) env=(false,eval e env)::Ky rest env:=by
 cases e<;>first|rfl|exact nTF h
theorem eS (hR:PM c D hd r) (k:PR ec wr env) (S:aU c g fr hd D A) {pos:Pos}:∀(es:List Expr) (ρ₀:Rho),Sim c g fr wr env A ρ₀ (spliced (La pos (Ky es env))) (fh r ec es) PH:=by
 intro es
 induction es with
 |nil=>exact λρ₀ ρ st s Q E h0 I hp=>NE (PG.same' (R:=PH) (b:=[]) I trivial hp)
 |cons e es ih=>
  intro ρ₀ ρ st s Q E h0 I hp
  obtain ⟨hs,_⟩:=ci hp;clear hp;rename_i hp
  refine Mw (Sim.go (hR.E k S e ρ₀) h0 I hp λOH OI OG y v h1 I1 hv hp=>?_) (aH hs)
  refine Kl (ih OH OH OI OG _ E (GX _) I1 hp) (λys OJ x=>?_) λ_ _ x=>PE.up h1 x
  obtain ⟨OL,OM,vs,h2,I2,hvs,hq⟩:=x
  exact ⟨OL,OM,v::vs,h1.trans h2,I2,⟨hv.up h2,hvs⟩,hq⟩
theorem b6 (pos:Pos):∀(es:List Expr),(∀e∈es,aZ e=false)->(La pos (Ky es env)).any (·.1)=false
 |[],_=>rfl
 |e::es,h=>by
  rw [aH (h e (.head _))]
  show (false||(La pos (Ky es env)).any (·.1))=false
  rw [b6 pos es λx hx=>h x (.tail _ hx)];rfl
theorem sV {C:Nat} {vs:List V} {xs:List Value} {e:Nat} (G:PJ c Γ D) (S:PU c g fr hd D e A) (he:15≤e) (I:Inv c g fr wr env ρ st s) (hv:PH ρ vs xs) (hp:fq Γ hd C vs st Q E):
  Kg c.M A (call (.ref C) xs) (PG c g fr wr env ρ PF Q) (PE c g fr wr env ρ E) s:=by
 unfold fq at hp
 induction hi:Γ.init C with
 |none=>rw [hi] at hp;exact hp.elim
 |some f=>
  rw [hi] at hp
  obtain ⟨g1,g2,g3,g4,g5⟩:=G.init C f hi
  have X:=I.X S.ok
  replace hp:cv Γ hd f (.obj st.hp.length::vs) {st with hp:=st.hp++[.inst C []]} (λrv st'=>rv=.none∧Q (.obj st.hp.length) st') E:=hp
  unfold cv at hp
  induction hf:Γ.fn f [] with
  |none=>rw [hf] at hp;exact hp.elim
  |some F=>
   rw [hf] at hp
   obtain ⟨hh,gs,d,t,os⟩:=s
   refine LK (make_core (makes_of X g1) (Oh X g2) (λself=>bind_fn X self (beq_iff_eq.mp g3)) (.inl rfl) ?_)
   have' n1:((hh.push NL).push (Ni C hh.objs.size)).get? (hh.objs.size+1)=some (Ni C hh.objs.size):=by rw [<-Kv hh NL];exact Kk _ rfl
   have' n2:((hh.push NL).push (Ni C hh.objs.size)).get? hh.objs.size=some NL:=Kh _ (Kk _ rfl)
   have I':Inv c g fr wr env (ρ++[(hh.objs.size+1,hh.objs.size)]) {st with hp:=st.hp++[.inst C []]} ⟨(hh.push NL).push (Ni C hh.objs.size),gs,d,t,os⟩:=
    I.new (tk:=t) (p:=(hh.objs.size+1,hh.objs.size)) (o:=.inst C []) (λb o e=>Kh _ (Kh _ e)) (IK _) (GW _) ⟨_,n1⟩ ⟨_,n2⟩
     ⟨[],0,n1,n2,trivial,g5⟩ (λ_ _ _=>Nat.succ_ne_self _) rfl
   have' hx:PF (ρ++[(hh.objs.size+1,hh.objs.size)]) (.obj st.hp.length) (.ref (hh.objs.size+1)):=⟨(hh.objs.size+1,hh.objs.size),by rw [<-I.w.rep.len];simp,rfl⟩
   have S':PU c g fr hd D 10 (A.under (.builtin "type.__call__" ⟨.ref C::xs,[]⟩)):=⟨S.ok,S.frames,by have:=S.depth;show A.depth+1+_+_<1000;exact By he this,by have:=S.units;show A.units+1+_+_<9900;exact Bx he this,S.hnone,S.hsome⟩
   refine KO (hJ (vs:=.obj st.hp.length::vs) (ps:=.ref (hh.objs.size+1)::xs) (kw:=[]) (G.fn f [] F hf).1 S' I' ⟨hx,by show PH _ vs (xs++[]);rw [HR];exact hv.up (GV ..)⟩ rfl hp) λrr s' h=>?_
   induction rr with
   |error e=>exact PE.up (GV ..) h
   |ok fl=>
    induction fl with
    |ret z=>
     obtain ⟨OL,OM,v,h1,h2,h3,h4,h5⟩:=h
     subst h4
     cases h3
     exact ⟨rfl,OL,OM,.obj st.hp.length,(GV ..).trans h1,h2,hx.up h1,h5⟩
    |_=>exact h.elim
end
section
variable {c:Cx} {g:GP} {fr:List Env} {wr:Str->Bool} {env:Env} {A:Kw} {hd:Bool} {D:Nat} {ρ ρ' ρ₀ OH:Rho} {st:AS} {s:Ki} {Γ:Gam} {r:Ev} {ec:EC}
 {Q:V->AS->Prop} {E:Nat->AS->Prop} {Qb:Bool->AS->Prop} {Qu:Unit->AS->Prop}
theorem sW (S:aU c g fr hd D A) (I:Inv c g fr wr env ρ st s) (hv:PF ρ v x) (hp:lw hd v st Q E):
  Kg c.M A (call (.builtin "sorted") [x]) (PG c g fr wr env ρ PF Q) (PE c g fr wr env ρ E) s:=by
 unfold lw at hp
 obtain ⟨hh,hp⟩:=hp
 replace hp:=aB hp
 obtain ⟨i,o,rfl,ho,hp⟩:=hp
 obtain ⟨p,hρ,rfl,r⟩:=PF.get I hv ho
 dsimp only at hp
 induction o with
 |set ns es ep t=>
  obtain ⟨h1,h2⟩:=r
  obtain ⟨_,hq⟩:=hp
  refine kg (S.hnone hh) h2 h1 λha hb tk out m hI k1 k2 hg=>?_
  have I1:Inv c g fr wr env ρ st {s with heap:=ha,toks:=tk}:=I.kept k1
  exact PG.fresh I1 (tk:=tk) (o:=.list (ns.map V.int)) k2 (λ_ _ e=>by exact oNe e rfl) ⟨out,m,hg,PH.ofInts hI⟩ hq
 |_=>exact hp.elim
theorem vU (h:PH ρ [v] xs):∃x,xs=[x]∧PF ρ v x:=by
 induction xs using Lc with
 |nil=>exact h.elim
 |cons x r=>induction r using Lc with
  |nil=>exact ⟨x,rfl,h.1⟩
  |cons _ _=>exact h.2.elim
theorem on (G:PJ c Γ D) (hf:Γ.fn f []=some F) (S:aU c g fr hd D A) (I:Inv c g fr wr env ρ st s) (hv:PH ρ vs xs) (hp:dh hd F vs st Q E):
  Kg c.M A (call (.ref f) xs) (PG c g fr wr env ρ PF Q) (PE c g fr wr env ρ E) s:=by
 refine LK (KO (hJ (ps:=xs) (kw:=[]) (G.fn f [] F hf).1 (S.room (A':=A) rfl rfl (w37) (w85)) I (by show PH ρ vs (xs++[]);rw [HR];exact hv) rfl hp) λrr s' h=>?_)
 exact h
theorem sX (G:PJ c Γ D) (hC:Γ.exc C=true) (S:aU c g fr hd D A) (I:Inv c g fr wr env ρ st s) (hv:PH ρ vs xs) (hp:(em (Γ.excOk C vs)>>=λ_=>dg (.exc C)) st Q E):
  Kg c.M A (call (.ref C) xs) (PG c g fr wr env ρ PF Q) (PE c g fr wr env ρ E) s:=by
 obtain ⟨h1,hq⟩:=hp
 refine G.excNew C vs hC S (!3) I hv h1 λx ox od fs h' tk k hx hI hf _ _ hdict=>?_
 have I1:=hI
 obtain ⟨a1,a2,a3,a4⟩:=hI
 induction hdd:ox.dict with
 |none=>
  exact ⟨ρ++[(x,x)],_,.obj st.hp.length,GV ..,I.new (tk:=tk) (p:=(x,x)) (o:=.exc C) k hx hx ⟨_,a1⟩ ⟨_,a1⟩ ⟨ox,od,fs,I1,hf,(λd e=>by rw [hdd] at e;exact nNS e),(G.excCls C hC).1⟩ (λ_ _ e=>by exact oNe e rfl) rfl,
   ⟨(x,x),by rw [<-I.w.rep.len];simp,rfl⟩,hq⟩
 |some d=>
  obtain ⟨b1,b2⟩:=hdict d hdd
  exact ⟨ρ++[(x,d)],_,.obj st.hp.length,GV ..,I.new (tk:=tk) (p:=(x,d)) (o:=.exc C) k hx b1 ⟨_,a1⟩ b2 ⟨ox,od,fs,I1,hf,(λd' e=>by rw [hdd] at e;(replace e:=ay e;subst e);rfl),(G.excCls C hC).1⟩ (λ_ _ e=>by exact oNe e rfl) rfl,
   ⟨(x,d),by rw [<-I.w.rep.len];simp,rfl⟩,hq⟩
theorem qy (G:PJ c Γ D) (S:aU c g fr hd D A) (I:Inv c g fr wr env ρ st s) (hv:PH ρ vs xs) (hp:az Γ hd fv vs st Q E):
  Kg c.M A (call fv xs) (PG c g fr wr env ρ PF Q) (PE c g fr wr env ρ E) s:=by
 induction fv with
 |ref a=>
  replace hp:(match Γ.fn a [] with
   |some F=>dh hd F vs
   |none=>if Γ.exc a=true then (do em (Γ.excOk a vs);dg (.exc a)) else fq Γ hd a vs:PT V) st Q E:=hp
  induction hf:Γ.fn a [] with
  |some F=>rw [hf] at hp;exact on G hf S I hv hp
  |none=>
   rw [hf] at hp
   replace hp:(if Γ.exc a=true then (do em (Γ.excOk a vs);dg (.exc a)) else fq Γ hd a vs:PT V) st Q E:=hp
   by_cases hC:Γ.exc a=true
   ·rw [RA hC] at hp;exact sX G hC S I hv hp
   rw [Rz hC] at hp;exact sV G S (!3) I hv hp
 |builtin b=>
  revert hp
  refine ce (o:=one vs) λv hvs hp=>?_
  subst hvs
  obtain ⟨x,rfl,h⟩:=vU hv
  replace hp:u7 hd b v st Q E:=hp
  refine cX (λh1 hp=>?_) (λ_=>fR λh1 hp=>?_) hp
  ·subst h1;exact vR S I h hp
  subst h1;exact sW S I h hp
 |type T=>
  revert hp
  refine cX (λh0=>fR λh1 hp=>?_) λ_=>ce (o:=one vs) λv hvs hp=>?_
  ·obtain rfl:=HJ.mp h0
   rw [hv.none_of]
   subst h1;exact sT I hp
  subst hvs
  obtain ⟨x,rfl,h⟩:=vU hv
  replace hp:u8 hd T v st Q E:=hp
  refine cX (λh1 hp=>?_) (λ_=>cX (λh1 hp=>?_) λ_=>fR λh1 hp=>?_) hp
  ·subst h1;exact vS I h hp
  ·subst h1;exact sS I h hp
  subst h1;exact vT S I h hp
 |_=>exact hp.elim
theorem cA {es:List Expr} (h:es.any aZ=false):∀e∈es,aZ e=false:=λe he=>by
 induction hs:aZ e with
 |false=>rfl
 |true=>rw [IR.mpr ⟨e,he,hs⟩] at h;exact nTF h
theorem d4 {f:Value} {first:List Value} {pos:Pos} {es:List Expr} {q:List V->PT V} (ok:c.Ok) (hR:PM c D hd r) (k:PR ec wr env) (S:aU c g fr hd D A) (hs:es.any aZ=false) (h0:ρ₀<+:ρ) (I:Inv c g fr wr env ρ st s)
  (hf:(∃id,f=.builtin id)∨(∃T,f=.type T)∨(∀vs (st:AS),q vs st Q E->LC c.K f=true))
  (hp:(fh r ec es>>=q) st Q E)
  (hc:∀OH OI OG vs xs,ρ<+:OH->Inv c g fr wr env OH OI OG->PH OH vs xs->q vs OI Q E->Kg c.M A (call f (first++xs)) (PG c g fr wr env OH PF Q) (PE c g fr wr env OH E) OG):
  Kg c.M A (LA pos f first (La pos (Ky es env)) []) (PG c g fr wr env ρ PF Q) (PE c g fr wr env ρ E) s:=by
 have' hpl:=b6 (env:=env) pos es (cA hs)
 have' main:∀(P:Heap->Prop),(∀OH OI OG vs,Inv c g fr wr env OH OI OG->q vs OI Q E->P OG.heap)->Kg c.M A (evalArgs f true (La pos (Ky es env)) []) (λa OG=>P OG.heap∧a.kw=[]∧Kg c.M A (call f (first++a.pos) a.kw) (PG c g fr wr env ρ PF Q) (PE c g fr wr env ρ E) OG) (PE c g fr wr env ρ E) s:=by
  intro P hP
  have' fin:∀OH OI OG xs vs,ρ<+:OH->Inv c g fr wr env OH OI OG->PH OH vs xs->q vs OI Q E->P OG.heap∧([]:List (Str×Value))=[]∧Kg c.M A (call f (first++xs) []) (PG c g fr wr env ρ PF Q) (PE c g fr wr env ρ E) OG:=
   λOH OI OG xs vs h1 I1 hv hq=>⟨hP OH OI OG vs I1 hq,rfl,Kl (hc OH OI OG vs xs h1 I1 hv hq) (λ_ _ x=>PG.up h1 x) λ_ _ x=>PE.up h1 x⟩
  induction es using Lc with
  |nil=>exact N6 (fin ρ st s [] [] (GX _) I trivial hp)
  |cons e es=>
   have':=Sim.go (eS hR k S (pos:=pos) (e::es) ρ₀) h0 I hp (X:=λxs OG=>P OG.heap∧([]:List (Str×Value))=[]∧Kg c.M A (call f (first++xs) []) (PG c g fr wr env ρ PF Q) (PE c g fr wr env ρ E) OG) λOH OI OG xs vs h1 I1 hv hq=>fin OH OI OG xs vs h1 I1 hv hq
   rw [aH (cA hs e (.head _))] at this⊢
   exact Mh this
 rcases hf with ⟨id,rfl⟩|⟨T,rfl⟩|hk
 ·exact Lo hpl (Kl (main (λ_=>True) λ_ _ _ _ _ _=>trivial) (λa OG x=>x.2.2) λ_ _ x=>x)
 ·exact PyProof.Rows.callWith_type hpl (Kl (main (λ_=>True) λ_ _ _ _ _ _=>trivial) (λa OG x=>x.2.2) λ_ _ x=>x)
 refine Ot (P:=λh=>c.K.In h∧LC c.K f=true) (by rw [hpl];rfl) (λh x=>keeps_K x.2 h x.1) (Kl (main (λh=>c.K.In h∧LC c.K f=true) λOH OI OG vs I1 hq=>⟨I1.X ok,hk vs OI hq⟩) (λa OG x=>⟨x.1,x.2.2⟩) λ_ _ x=>x)
theorem cr (G:PJ c Γ D) (ok:c.Ok) (I:Inv c g fr wr env ρ st s) (hk:env.kindOf x=some .globalImplicit) (hx:Γ.glob x=some fv) (h:Qx fv s):Kg c.M A (eval (.Name x pos) env) Qx E' s:=by
 obtain ⟨hdb,hg⟩:=G.glob x fv hx
 have X:=I.X ok
 have T:=ok.T.keeps I.w.keep
 have e:=I.e
 refine Name_function_global e.kfun hk ?_ hdb
 rcases hg with hg|⟨h1,h2,h3⟩
 ·exact loadGlobal_global (by rw [e.glob];exact T.g) (mg_of X T.g hg) h
 exact loadGlobal_builtin (by rw [e.glob];exact T.g) (mg_none_of X T.g h1) (by rw [e.blt];exact T.b) ((T.builtins x h3).trans h2) h
theorem bo (h:bM Γ ec f=some fv):Ex2 λx pos=>P8 (f=.Name x pos) (ec.kd x=some .globalImplicit) (Γ.glob x=some fv):=by
 induction f using PySem.Expr.casesOn with
 |Name x pos=>
  replace h:(if ec.kd x==some .globalImplicit then Γ.glob x else none)=some fv:=h
  by_cases hk:(ec.kd x==some .globalImplicit)=true
  ·rw [RA hk] at h;exact ⟨x,pos,rfl,beq_iff_eq.mp hk,h⟩
  rw [Rz hk] at h;exact nNS h
 |_=>exact nNS h
theorem bd (h:dK e=true):Nm e x env w=w:=by
 cases e<;>first|rfl|skip
 rename_i f es kws p
 cases f<;>first|rfl|skip
 cases es<;>first|rfl|skip
 cases kws<;>first|rfl|exact nFT h
theorem fD {pos:Pos}:∀{es:List Expr},es.any aZ=false->(La pos (Ky es env)).all (λx=>!x.1)=true
 |[],_=>rfl
 |e::es,h=>by
  have:=cA h
  rw [aH (this e (.head _))]
  show (!false&&(La pos (Ky es env)).all (λx=>!x.1))=true
  rw [fD (es:=es) (by rw [IQ] at h;exact (Bool.or_eq_false_iff.mp h).2)];rfl
theorem vV (hR:PM c D hd r) (k:PR ec wr env) (S:aU c g fr hd D A):∀(kws:List NI) (ks:List Str),g9 kws=some ks->∀(ρ₀:Rho),Sim c g fr wr env A ρ₀ (evalAll ((MC pos (LO kws env)).map (·.2))) (fh r ec (km kws)) PH:=by
 intro kws
 induction kws with
 |nil=>exact λ_ _ ρ₀ ρ st s Q E h0 I hp=>evalAll_nil (PG.same' (R:=PH) (b:=[]) I trivial hp)
 |cons kw es ih=>
  intro ks hn ρ₀ ρ st s Q E h0 I hp
  obtain ⟨n,e,p⟩:=kw
  induction n with|none=>exact nNS hn|some n=>
  obtain ⟨ks,hks,_⟩:=Ic.mp hn
  obtain ⟨hs,_⟩:=ci hp;clear hp;rename_i hp
  refine kws_cons (Sim.go (hR.E k S e ρ₀) h0 I hp λOH OI OG y v h1 I1 hv hp=>?_)
  refine Kl (ih ks hks OH OH OI OG _ E (GX _) I1 hp) (λys OJ x=>?_) λ_ _ x=>PE.up h1 x
  obtain ⟨OL,OM,vs,h2,I2,hvs,hq⟩:=x
  exact ⟨OL,OM,v::vs,h1.trans h2,I2,⟨hv.up h2,hvs⟩,hq⟩
theorem nh:∀{kws:List NI} {ks:List Str},g9 kws=some ks->(MC pos (LO kws env)).filterMap (·.1)=ks∧(MC pos (LO kws env)).all (·.1.isSome)=true∧(MC pos (LO kws env)).any (·.1.isNone)=false∧ks.length=(km kws).length:=by
 intro kws
 induction kws with
 |nil=>intro ks h;(replace h:=ay h;subst h);exact ⟨rfl,rfl,rfl,rfl⟩
 |cons kw es ih=>
  intro ks h
  obtain ⟨n,e,p⟩:=kw
  induction n with|none=>exact nNS h|some n=>
  obtain ⟨ks',hks,rfl⟩:=Ic.mp h
  obtain ⟨a,b,d,l⟩:=ih hks
  refine ⟨?_,?_,?_,congrArg (·+1) l⟩
  ·show n::(MC pos (LO es env)).filterMap (·.1)=_;rw [a]
  ·show (true&&(MC pos (LO es env)).all (·.1.isSome))=true;rw [b];rfl
  show (false||(MC pos (LO es env)).any (·.1.isNone))=false;rw [d];rfl
theorem PH.app (h:PH ρ vs xs) (h':PH ρ ws ys):PH ρ (vs++ws) (xs++ys):=h.append h'
theorem cN {f:Nat} {vs:List V} {Q:V->AS->Prop} {E:Nat->AS->Prop} {G:Prop} (hq:cv Γ hd f vs st Q E) (h:∀F,Γ.fn f []=some F->dh hd F vs st Q E->G):G:=by
 unfold cv at hq
 induction hf:Γ.fn f [] with
 |none=>rw [hf] at hq;exact hq.elim
 |some F=>rw [hf] at hq;exact h F hf hq
theorem qz {f:Expr} {es:List Expr} {kws:List NI} {p:Pos} (G:PJ c Γ D) (hR:PM c D hd r) (k:PR ec wr env) (S:aU c g fr hd D A):Sim c g fr wr env A ρ₀ (eval (.Call f es kws p) env) (qk r Γ hd ec f es kws p) PF:=by
 intro ρ st s Q E h0 I hp
 revert hp
 refine cK (λe x ap he hp=>?_) λ_=>kj λfv hg hp=>?_
 ·subst he
  replace hp:=ci hp
  obtain ⟨⟨h1,h2,h3,h4,h5⟩,hp⟩:=hp
  obtain rfl:=HJ.mp h4
  show Kg c.M A (Nm e x env (eval e env)>>=λov=>Me ap.atName>>=λ_=>MU e x ap p env ov (es.length+0) (La p (Ky es env)) []) _ _ s
  rw [bd h1]
  refine Ke (Sim.go (hR.E k S e ρ₀) h0 I hp λOH OI OG y v OO I1 hv hp=>?_)
  refine Ke (Kq ?_)
  have hform:MA (es.length+0) (La p (Ky es env)) []=true:=by
   unfold MA
   rw [fD h5]
   simp;exact w77 h3
  have hpos:LX true e env ap p=pure p:=by unfold LX;simp [h2]
  unfold MU
  rw [hform]
  refine Ke (Km (Kl (o4 G S I1 hv hp) (λfx OJ X=>?_) λ_ _ x=>PE.up OO x))
  obtain ⟨OL,OM,m,Pe,I2,hm,hp⟩:=X
  refine Ke (Ll hpos ?_)
  have h12:=OO.trans Pe
  have hv2:=hv.up Pe
  refine Kl (d4 (ρ₀:=OL) S.ok hR k S h5 (GX _) I2 ?_ hp λOU OR ON vs xs h23 I3 hvs hq=>?_) (λ_ _ x=>PG.up h12 x) λ_ _ x=>PE.up h12 x
  ·induction m with
   |fn f=>
    rw [show fx=_ from hm]
    refine .inr (.inr λvs st hq=>?_)
    exact cN hq λF hf _=>(G.fn f [] F hf).2
   |stat f=>
    rw [show fx=_ from hm]
    refine .inr (.inr λvs st hq=>?_)
    exact cN hq λF hf _=>(G.fn f [] F hf).2
   |lst=>obtain ⟨id,_,rfl⟩:=hm;exact .inl ⟨id,rfl⟩
   |set=>obtain ⟨id,_,rfl⟩:=hm;exact .inl ⟨id,rfl⟩
   |dct=>obtain ⟨id,_,rfl⟩:=hm;exact .inl ⟨id,rfl⟩
  induction m with
  |fn f=>
   rw [show fx=_ from hm]
   exact cN (vs:=v::vs) hq λF hf hq=>on (vs:=v::vs) G hf S I3 ⟨hv2.up h23,hvs⟩ hq
  |stat f=>
   rw [show fx=_ from hm]
   exact cN hq λF hf hq=>on G hf S I3 hvs hq
  |lst=>obtain ⟨id,hb,rfl⟩:=hm;exact iG (Γ:=Γ) S I3 (hv2.up h23) hb hvs hq
  |set=>obtain ⟨id,hb,rfl⟩:=hm;exact iG (Γ:=Γ) S I3 (hv2.up h23) hb hvs hq
  |dct=>obtain ⟨id,hb,rfl⟩:=hm;exact iG (Γ:=Γ) S I3 (hv2.up h23) hb hvs hq
 ·obtain ⟨x,px,rfl,hkx,hgx⟩:=bo hg
  rw [k.kd] at hkx
  show Kg c.M A (eval (.Name x px) env>>=λf=>LA p f [] (La p (Ky es env)) (MC p (LO kws env))) _ _ s
  refine Ke (cr G S.ok I hkx hgx ?_)
  induction kws using Lc with
  |nil=>
   obtain ⟨h5,_⟩:=ci hp;clear hp;rename_i hp
   have fin:=d4 (f:=fv) (first:=[]) (pos:=p) S.ok hR k S h5 h0 I ?_ hp λOU OR ON vs xs h23 I3 hvs hq=>qy G S I3 hvs hq
   ·exact fin
   induction fv with
   |builtin id=>exact .inl ⟨id,rfl⟩
   |type T=>exact .inr (.inl ⟨T,rfl⟩)
   |ref a=>
    refine .inr (.inr λvs st hq=>?_)
    unfold az at hq
    dsimp only at hq
    induction hf:Γ.fn a [] with
    |some F=>exact (G.fn a [] F hf).2
    |none=>
     rw [hf] at hq
     dsimp only at hq
     by_cases hC:Γ.exc a=true
     ·exact (G.excCls a hC).2
     rw [Rz hC] at hq
     unfold fq at hq
     induction hi:Γ.init a with
     |none=>rw [hi] at hq;exact hq.elim
     |some f=>exact (G.init a f hi).2.2.2.1
   |_=>exact .inr (.inr λvs st hq=>by unfold az at hq;exact hq.elim)
  |cons kw kws=>
   revert hp
   refine kj λks hks hp=>?_
   replace hp:=ci hp
   obtain ⟨⟨h5,hne⟩,hp⟩:=hp
   induction es using Lc with
   |nil=>exact nTF hne
   |cons e es=>
    have hst:=cA h5
    have hpl:=b6 (env:=env) p (e::es) hst
    obtain ⟨q1,q2,q3,q4⟩:=nh (env:=env) (pos:=p) hks
    refine Ot (P:=λh=>c.K.In h∧LC c.K fv=true) (by rw [hpl,q3];rfl) (λh x=>keeps_K x.2 h x.1) (evalArgs_kw2 q2 ?_ (aH (hst e (.head _))))
    refine Sim.go (eS hR k S (pos:=p) (e::es) ρ₀) h0 I hp λOH OI OG xs vs h1 I1 hvs hp=>?_
    refine Kl (Q:=λks OJ=>(c.K.In OJ.heap∧LC c.K fv=true)∧Kg c.M A (call fv ([]++xs) (((MC p (LO (kw::kws) env)).filterMap (·.1)).zip ks)) (PG c g fr wr env ρ PF Q) (PE c g fr wr env ρ E) OJ) (E:=PE c g fr wr env OH E) ?_ (λ_ _ x=>x) λ_ _ x=>PE.up h1 x
    refine Sim.go (vV hR k S (pos:=p) (kw::kws) ks hks OH) (GX _) I1 hp λOL OM OJ ys ws h2 I2 hws hp=>?_
    have h12:=h1.trans h2
    replace hp:=ci hp
    obtain ⟨hwl,hp⟩:=hp
    unfold fA at hp
    induction fv with
    |ref a=>
     dsimp only at hp
     induction hf:Γ.fn a ks with
     |none=>rw [hf] at hp;exact hp.elim
     |some F=>
      rw [hf] at hp
      have hlen:ys.length=ks.length:=hws.length.trans hwl
      rw [q1]
      refine ⟨⟨I2.X S.ok,(G.fn a ks F hf).2⟩,LK (KO (hJ (ps:=xs) (kw:=ys) (G.fn a ks F hf).1 (S.room (A':=A) rfl rfl (w37) (w85)) I2 ((hvs.up h2).append hws) hlen hp) λrr s' h=>?_)⟩
      induction rr with
      |error e=>exact PE.up h12 h
      |ok fl=>
       induction fl with
       |ret z=>exact PG.up h12 h
       |_=>exact h.elim
    |_=>exact hp.elim
end
section
variable {c:Cx} {g:GP} {fr:List Env} {wr:Str->Bool} {env:Env} {A:Kw} {hd:Bool} {D:Nat} {ρ ρ' ρ₀ OH:Rho} {st:AS} {s:Ki} {Γ:Gam} {r:Ev} {ec:EC}
 {Q:V->AS->Prop} {E:Nat->AS->Prop} {Qb:Bool->AS->Prop} {Qu:Unit->AS->Prop}
inductive Qg (c:Cx) (g:GP) (ρ:Rho) (L:Addr) (C:Nat) (e:Value) (h:Heap):Prop
 |mk (x:_) (oe:_) (vs:_) (T:_) (oT:_) (ts:_) (z1:e=.ref x) (z2:h.get? x=some oe) (z3:oe.cls=.ref C) (z4:oe.data=.fields vs) (z5:vs[2]?=some .none) (z6:P3 g ρ x) (z7:c.base.objs.size≤x) (z8:vs[1]?=some (.ref T)) (z9:T≠x) (z10:h.get? T=some oT) (z11:oT.data=.fields ts) (z12:ts[3]?=some (Lx L)) (z13:P3 g ρ T) (z14:c.base.objs.size≤T):Qg c g ρ L C e h
theorem Qg.at (x:Qg c g ρ L C e h):P6 c g ρ (some L) C e h:=by
 obtain ⟨a,oe,vs,T,oT,ts,h1,h2,h3,h4,h5,h6,h7,h8,h9,h10,h11,h12,h13,h14⟩:=x
 exact ⟨a,oe,vs,_,h1,h2,h3,h4,h5,h6,h7,h8,.inr ⟨T,oT,ts,_,rfl,h9,h10,h11,h12,trivial,h13,h14⟩⟩
theorem Inv.free_fields (I:Inv c g fr wr env ρ st s) (hx:s.heap.get? x=some ox) (hd:ox.data=.fields vs) (o:P3 g ρ x) (l:c.base.objs.size≤x):P4 c g fr env ρ x where
 out:=o
 fr:=λhm=>by
  obtain ⟨_,o',ho,nf⟩:=I.w.ffun.mem hm
  rw [hx] at ho;(replace ho:=ay ho;subst ho);exact nf vs hd
 loc:=λe=>by
  obtain ⟨m,⟨o',_,_,ho,hd',_⟩,_⟩:=I.e.ns
  rw [<-e,hx] at ho;(replace ho:=ay ho;subst ho)
  rw [hd] at hd';cases hd'
 cell:=λy a ha e=>by
  obtain ⟨ov,o',ho,hd'⟩:=I.e.cis y a ha
  rw [e,hx] at ho;(replace ho:=ay ho;subst ho)
  rw [hd] at hd';cases hd'
 low:=l
theorem Inv.slots (I:Inv c g fr wr env ρ st s) (x:Heap.SlotsOnly (dB fr) s.heap h'):Inv c g fr wr env ρ st {s with heap:=h',toks:=tk}:=by
 have w:=I.w
 have e:=I.e
 have' keep:∀b o,b∉dB fr->s.heap.get? b=some o->h'.get? b=some o:=λb o hb q=>(x.2.1 b hb).trans q
 have nb:∀b o,c.base.get? b=some o->b∉dB fr:=λb o q hm=>by rw [(w.ffun.mem hm).1] at q;exact nNS q
 refine ⟨⟨⟨w.rep.len,λ{i p o} e1 e2=>(w.rep.obj e1 e2).move (GX _) (λob q=>keep _ ob (w.fro i p e1).1 q) λob q=>keep _ ob (w.fro i p e1).2 q,w.rep.low,w.rep.sep,w.rep.self,
   λ{i p} e1=>⟨(w.rep.inb e1).1.imp λob q=>keep _ ob (w.fro i p e1).1 q,(w.rep.inb e1).2.imp λob q=>keep _ ob (w.fro i p e1).2 q⟩,w.rep.rolow⟩,
  λb o q=>keep b o (nb b o q) (w.keep b o q),λb o q=>?_,w.gfoot,w.ffun.of_slotsOnly x,w.fro,w.bg,w.os,w.bare,G2 w.size (HN x.1.symm),λP hP=>?_,w.tlow,w.gtab⟩,?_⟩
 ·obtain ⟨sl,q1,q2⟩:=w.prot b o q
  obtain ⟨sl',q3⟩:=x.2.2 b _ q1
  refine ⟨sl',q3,λhn=>?_⟩
  have:=keep b _ hn q1
  rw [this] at q3
  have q4:=congrArg Obj.slots (Hm.inj q3)
  exact q4.symm.trans (q2 hn)
 ·obtain ⟨ps,q,t⟩:=w.tab P hP
  refine ⟨ps,keep P _ (λhm=>?_) q,t⟩
  obtain ⟨_,o',ho,nf⟩:=w.ffun.mem hm
  rw [q] at ho;(replace ho:=ay ho;subst ho);exact nf ps rfl
 have hns:∃m,h'.Ns env.locals m∧∀x v,env.kindOf x=some .local->st.vars x=some v->∃y,m x=some y∧PF ρ v y:=by
  obtain ⟨m,⟨o,es,ep,ho,hd,r⟩,hx⟩:=e.ns
  obtain ⟨sl,q⟩:=x.2.2 _ o ho
  exact ⟨m,⟨_,es,ep,q,hd,r⟩,hx⟩
 exact {e with
  ns:=hns
  cel:=λy hy=>let ⟨a,ha,ov,⟨o,ho,hd⟩,hr⟩:=e.cel y hy;⟨a,ha,ov,⟨o,keep a o (e.cfr y a ha) ho,hd⟩,hr⟩
  cis:=λy a ha=>let ⟨ov,o,ho,hd⟩:=e.cis y a ha;⟨ov,o,keep a o (e.cfr y a ha) ho,hd⟩}
theorem P3.fresh (I:Inv c g fr wr env ρ st s) (h:s.heap.objs.size≤a):P3 g ρ a:=(I.free h).out
theorem lG (hA:A.frames=some fr) (I:Inv c g fr wr env ρ st s) (hL:env.frame=some L)
  (hx:s.heap.get? x=some ox) (hC:ox.cls=.ref C) (hd:ox.data=.fields vs) (h2:vs[2]?=some .none) (hz:1<vs.size) (o:P3 g ρ x) (l:c.base.objs.size≤x)
  (h:∀h',Inv c g fr wr env ρ st {s with heap:=h'}->Qg c g ρ L C (.ref x) h'->Qx () {s with heap:=h'}):
  Kg c.M A (do let a <-frameOf env;let pl <-entryPlaceOf L hadNext;let b <-EntryCells.newEntry head a .none (Lx L) .none pl;setField (.ref x) 1 b) Qx E' s:=by
 obtain ⟨e0,rest,L0,hfr,h0,hf⟩:=I.e.frame
 rw [hL] at hf;(replace hf:=ay hf;subst hf)
 have hfl:s.heap.FunFrames c.base (e0::rest):=hfr▸I.w.ffun
 refine Ke ?_
 unfold PySem.frameOf
 refine Ke (wpAny_frameEnvs (hA.trans (congrArg some hfr)) ?_)
 have hdw:((e0::rest).dropWhile λy=>y.frame !=env.frame)=e0::rest:=by simp [List.dropWhile,h0,hL]
 rw [hdw]
 unfold frameObject
 refine Ke (Ke (wpAny_readyFrames_fun hfl λOQ O3=>Kf ?_))
 rw [h0]
 refine Kf ?_
 have' OP:Inv c g fr wr env ρ st {s with heap:=OQ}:=I.slots (tk:=s.toks) (by rw [hfr];exact O3)
 have F:=I.free_fields hx hd o l
 have' O1:OQ.get? x=some ox:=(O3.2.1 x (by have:=F.fr;rw [hfr] at this;exact this)).trans hx
 refine Ke (wpAny_entryPlaceOf λpl hpl=>?_)
 unfold EntryCells.newEntry newFields
 refine Ke (Kx ?_ (hpl.sizeOk5 _ _ _ _ _))
 generalize hT:({cls:=.type "traceback",dict:=none,data:=.fields ([head,.ref L,.none,Lx L,.none]++(if pl.isEmpty then List.replicate 6 Kr else pl)).toArray}:Obj)=oT
 have hTd:oT.data=.fields ([head,.ref L,.none,Lx L,.none]++(if pl.isEmpty then List.replicate 6 Kr else pl)).toArray:=by rw [<-hT]
 have hTf:oT.isFreed=false:=by rw [<-hT];rfl
 have' O7:=Kh (h:=OQ) oT O1
 have' Pf:Inv c g fr wr env ρ st {s with heap:=OQ.push oT}:=OP.kept (tk:=s.toks) λb ob q=>Kh _ q
 refine Li O7 hd hz ?_
 have hTx:OQ.objs.size≠x:=HE (Kj O1)
 have' Pg:=KN hd (·.setIfInBounds 1 (KI OQ.objs.size))
 refine h _ (Pf.touch (tk:=s.toks) (Pf.free_fields O7 hd o l) λb ob n q=>(Kt _ _ (Ne.symm n)).trans q) ?_
 refine ⟨x,_,_,OQ.objs.size,oT,_,rfl,Kn _ O7 (KQ Pg),(LY ..).trans hC,Pg,?_,o,l,?_,hTx,(Kt _ _ (Ne.symm hTx)).trans (Kk _ hTf),hTd,?_,P3.fresh OP (GW _),OP.w.size⟩
 ·rw [Array.getElem?_setIfInBounds_ne !3];exact h2
 ·simp [hz]
 rcases hpl with rfl|⟨_,_,_,_,_,_,_,rfl⟩<;>simp
theorem kz (hA:A.frames=some fr) (I:Inv c g fr wr env ρ st s) (x:P6 c g ρ env.frame C e s.heap)
  (h:∀h' L,env.frame=some L->Inv c g fr wr env ρ st {s with heap:=h'}->Qg c g ρ L C e h'->Qx () {s with heap:=h'}):Kg c.M A (noteFrame e env) Qx E' s:=by
 obtain ⟨a,oe,vs,v1,rfl,h2,h3,h4,h5,h6,h7,h8,h9⟩:=x
 obtain ⟨e0,rest,L,hfr,h0,hL⟩:=I.e.frame
 have' hz:1<vs.size:=(HF.mp h8).1
 unfold noteFrame
 simp only [hL]
 refine Ke (KA h2 h4 h8 ?_)
 rcases h9 with rfl|⟨T,oT,ts,f3,rfl,k2,k3,k4,k5,k6,k7,k8⟩
 ·rw [Rz !3]
  exact lG hA I hL h2 h3 h4 h5 hz h6 h7 λh' I' X=>h h' L hL I' X
 rw [RA (show (KI T !=Kr)=true from by simp)]
 refine Ke (KA k3 k4 k5 ?_)
 by_cases k9:(f3==Lx L)=true
 rotate_left
 ·rw [Rz k9]
  refine Ke (Li k3 k4 (HF.mp k5).1 ?_)
  have I':Inv c g fr wr env ρ st {s with heap:=s.heap.update T (NR (·.setIfInBounds 3 Kr))}:=I.touch (tk:=s.toks) (I.free_fields k3 k4 k7 k8) λb ob n q=>(Kt _ _ (Ne.symm n)).trans q
  exact lG hA I' hL ((Kt _ _ k2).trans h2) h3 h4 h5 hz h6 h7 λh' I'' X=>h h' L hL I'' X
 rw [RA k9]
 rw [beq_iff_eq.mp k9] at k5
 exact Kf (h s.heap L hL I ⟨a,oe,vs,T,oT,ts,rfl,h2,h3,h4,h5,h6,h7,h8,k2,k3,k4,k5,k7,k8⟩)
theorem jA (I:Inv c g fr wr env ρ st s) (x:Qg c g ρ L C e s.heap)
  (h:∀h',Inv c g fr wr env ρ st {s with heap:=h'}->P6 c g ρ f C e h'->(∀L',f=some L'->Qg c g ρ L' C e h')->Qx () {s with heap:=h'}):Kg c.M A (Ml e f) Qx E' s:=by
 obtain ⟨a,oe,vs,T,oT,ts,rfl,h2,h3,h4,h5,h6,h7,h8,k2,k3,k4,k5,k7,k8⟩:=x
 have' hz3:3<ts.size:=(HF.mp k5).1
 unfold Ml
 refine Ke (KA h2 h4 h8 ?_)
 rw [RA (show (KI T !=Kr)=true from by simp)]
 have' hd3:=KN k4 (·.setIfInBounds 3 (f.elim Kr λf=>Lx f))
 refine Li k3 k4 hz3 (h _ (I.touch (tk:=s.toks) (I.free_fields k3 k4 k7 k8) λb ob n q=>(Kt _ _ (Ne.symm n)).trans q) ?_ ?_)
 ·refine ⟨a,oe,vs,_,rfl,(Kt _ _ k2).trans h2,h3,h4,h5,h6,h7,h8,.inr ⟨T,_,_,_,rfl,k2,Kn _ k3 (KQ hd3),hd3,by simp [hz3];rfl,trivial,k7,k8⟩⟩
 rintro L' rfl
 exact ⟨a,oe,vs,T,_,_,rfl,(Kt _ _ k2).trans h2,h3,h4,h5,h6,h7,h8,k2,Kn _ k3 (KQ hd3),hd3,by simp [hz3],k7,k8⟩
theorem Qg.tb (x:Qg c g ρ L C e h) (hh:s.heap=h) (k:∀T,Kg c.M A (f (.ref T)) Qx E' s):Kg c.M A (field e 1>>=f) Qx E' s:=by
 obtain ⟨a,oe,vs,T,oT,ts,rfl,h2,h3,h4,h5,h6,h7,h8,_⟩:=x
 subst hh
 exact Ke (KA h2 h4 h8 (k T))
theorem sY (I:Inv c g fr wr env ρ st s) (hL:env.frame=some L) (x:Qg c g ρ L C e s.heap)
  (h:∀h',Inv c g fr wr env ρ st {s with heap:=h'}->Qg c g ρ L C e h'->E' e {s with heap:=h'}):OE c.M A env E' e s:=by
 unfold OE
 refine x.tb rfl λT=>?_
 rw [Rz (show ¬((KI T==Kr)=true) from by simp)]
 show Kg c.M A (Ml e env.frame) _ _ _
 rw [hL]
 exact jA I x λh' I' _ hx=>h h' I' (hx L rfl)
theorem o6 (I:Inv c g fr wr env ρ st s) (x:Qg c g ρ L C e s.heap)
  (h:∀h',Inv c g fr wr env ρ st {s with heap:=h'}->P6 c g ρ none C e h'->E' e {s with heap:=h'}):Kg c.M A (PySem.passOn what e cenv:Sem α) Qx E' s:=by
 unfold PySem.passOn
 refine x.tb rfl λT=>?_
 rw [Rz (show ¬((KI T==Kr)=true) from by simp)]
 show Kg c.M A (Ml e cenv.frame>>=λ_=>throw e) _ _ _
 refine Ke ?_
 refine jA I x λh' I' hx _=>ME (h h' I' ?_)
 obtain ⟨a,oe,vs,v1,q1,q2,q3,q4,q5,q6,q7,q8,q9⟩:=hx
 exact ⟨a,oe,vs,v1,q1,q2,q3,q4,q5,q6,q7,q8,q9⟩
end
section
variable {c:Cx} {g:GP} {fr:List Env} {wr:Str->Bool} {env:Env} {A:Kw} {hd:Bool} {D:Nat} {ρ ρ' ρ₀ OH:Rho} {st:AS} {s:Ki} {Γ:Gam} {r:Ev} {ec:EC}
 {Q:V->AS->Prop} {E:Nat->AS->Prop} {Qb:Bool->AS->Prop} {Qu:Unit->AS->Prop} {Qf:Fl->AS->Prop}
theorem dt (k:PR ec wr env) (I:Inv c g fr wr env ρ st s) (hv:PF ρ v y) (hp:aL ec x v st Qu E)
  (h:∀h' tk st',Inv c g fr wr env ρ st' {s with heap:=h',toks:=tk}->Qu () st'->Qx () {s with heap:=h',toks:=tk}):Kg c.M A (Ou env x y) Qx E' s:=by
 obtain ⟨⟨hk,hw⟩,hq⟩:=ci hp
 rw [k.kd] at hk
 rw [k.wr] at hw
 exact wpAny_bindName (gt I hk hw hv λh' tk I'=>h h' tk _ I' hq)
theorem dM (hR:PM c D hd r) (k:PR ec wr env) (S:aU c g fr hd D A):∀(ss:List Stmt) (ρ₀:Rho),Sim c g fr wr env A ρ₀ (execs ss env) (cU r ec ss) cj:=by
 intro ss
 induction ss with
 |nil=>exact λρ₀ ρ st s Q E h0 I hp=>Mr (PG.same' (R:=cj) (b:=.next) I rfl hp)
 |cons t ss ih=>
  intro ρ₀ ρ st s Q E h0 I hp
  rw [execs_cons]
  refine Ke (Sim.go (hR.S k S t ρ₀) h0 I hp λOH OI OG f fl h1 I1 hf hp=>?_)
  induction fl with
  |next=>replace hf:f=.next:=hf;subst hf;exact Kl (ih OH OH OI OG _ E (GX _) I1 hp) (λ_ _ x=>PG.up h1 x) λ_ _ x=>PE.up h1 x
  |cont=>replace hf:f=.cont:=hf;subst hf;exact Kf ⟨OH,OI,.cont,h1,I1,rfl,hp⟩
  |ret v=>obtain ⟨y,rfl,hf⟩:=hf;exact Kf ⟨OH,OI,.ret v,h1,I1,⟨y,rfl,hf⟩,hp⟩
inductive EIn (c:Cx) (g:GP) (fr:List Env) (wr:Str->Bool) (env:Env) (ρ:Rho) (E:Nat->AS->Prop) (e:Value) (s':Ki):Prop
 |mk (ρ':_) (st':_) (C:_) (L:_) (z1:ρ<+:ρ') (z2:Inv c g fr wr env ρ' st' s') (z3:env.frame=some L) (z4:Qg c g ρ' L C e s'.heap) (z5:E C st'):EIn c g fr wr env ρ E e s'
theorem EIn.up (h:ρ<+:OH) (x:EIn c g fr wr env OH E e s'):EIn c g fr wr env ρ E e s':=by
 obtain ⟨ρ',st',C,L,h1,y,z,u,v⟩:=x
 exact ⟨ρ',st',C,L,h.trans h1,y,z,u,v⟩
theorem fU (hA:A.frames=some fr) (x:PE c g fr wr env ρ E e s') (h:∀s'',EIn c g fr wr env ρ E e s''->R e s''):MK c.M A env R e s':=by
 obtain ⟨ρ',st',C,h1,I,x,hE⟩:=x
 unfold MK
 exact kz hA I x λh' L hL I' X=>h _ ⟨ρ',st',C,L,h1,I',hL,X,hE⟩
theorem hO (x:EIn c g fr wr env ρ E e s'):OE c.M A env (PE c g fr wr env ρ E) e s':=by
 obtain ⟨ρ',st',C,L,h1,I,hL,x,hE⟩:=x
 exact sY I hL x λh' I' X=>⟨ρ',st',C,h1,I',hL▸X.at,hE⟩
theorem qA (X:Rn c hd src it ρ P) (ho:s.heap.get? it=some o) (hP:P j o) (h:Qx () s):
  Kg c.M A (NQ target (.ref it) v) Qx E' s:=by
 obtain ⟨n,hn,hc⟩:=X.own hP
 have main:∀a:Addr,Kg c.M A (do
   let o <-load it
   match o.cls,o.data with
   |.type n,.fields vs=>
    if ["enumerate","zip","dict_itemiterator","dict_reverseitemiterator","odict_iterator","itertools.zip_longest","itertools.pairwise"].contains n&&vs[0]?==some (Lx a) then
     rule "for.unpacks-the-owned-tuple"
     Op it 0 .none
   |_,_=>pure ()) Qx E' s:=by
  intro a
  refine Ke (Oy ho ?_)
  rw [hn]
  cases o.data<;>first
   |exact Kf h
   |(dsimp only;rw [Rz (by rw [hc];simp)];exact Kf h)
 replace h:Kg c.M A (pure ()) Qx E' s:=Kf h
 have two:Kg c.M A (NQ (.List [] default) (.ref it) v) Qx E' s:=by
  induction v using PySem.Value.casesOn<;>first|exact main _|exact h
 induction target using PySem.Expr.casesOn<;>first|exact h|exact two
theorem lH (I:Nat->Ki->Prop)
  (turn:∀n s,I n s->Kg c.M A (Mm it) (λr OG=>match r with
   |none=>Kg c.M A (execs orelse env) (λf ON=>R (.ok f) ON) (MK c.M A env λe s'=>R (.error e) s') OG
   |some v=>Kg c.M A (NQ target it v) (λ_ Pj=>Kg c.M A (Nu target env v) (λ_ OJ=>Kg c.M A (execs body env) (λf ON=>match f with
     |.next|.cont=>∃m,m<n∧I m ON
     |.brk=>False
     |.ret v=>R (.ok (.ret v)) ON) (MK c.M A env λe s'=>R (.error e) s') OJ) (MK c.M A env λe s'=>R (.error e) s') Pj) (MK c.M A env λe s'=>R (.error e) s') OG) (MK c.M A env λe s'=>R (.error e) s') s)
  (n:Nat) (h:I n s):Ly c.M A (.forLoop target it body orelse env) R s:=by
 refine codeAny_loop' rfl I (λn s hI=>?_) n h
 show Kg _ _ ((forTurn target it body orelse env).onRaise (λx=>do noteFrame x env;theTreesLotGoes x)) _ _ s
 refine wpAny_noted ?_
 simp only [forTurn]
 refine Ke (Kq (Ke (wpAny_onRaise (Kl (turn n s hI) (λr OG OQ=>?_) λ_ _ h'=>Kq h'))))
 induction r with
 |none=>exact Kf (.inr ⟨rfl,codeAny_block OQ⟩)
 |some v=>
  refine Ke (Kl OQ (λ_ Pj OQ=>?_) λ_ _ h'=>h')
  refine Ke (Kl OQ (λ_ OJ OV=>Ke (Kl OV (λf ON OS=>?_) λ_ _ h'=>h')) λ_ _ h'=>h')
  induction f with
  |next=>exact Kf (.inl ⟨rfl,OS⟩)
  |cont=>exact Kf (.inl ⟨rfl,OS⟩)
  |brk=>exact OS.elim
  |ret v=>exact Kf OS
inductive Rb (c:Cx) (g:GP) (fr:List Env) (wr:Str->Bool) (env:Env) (ρ:Rho) (it:Addr) (P:Nat->Obj->Prop) (items:List V) (X:List V->AS->Prop) (n:Nat) (s:Ki):Prop
 |mk (ρ':_) (st':_) (j:_) (o:_) (z1:ρ<+:ρ') (z2:Inv c g fr wr env ρ' st' s) (z3:s.heap.get? it=some o) (z4:P j o) (z5:P4 c g fr env ρ' it) (z6:X (items.drop j) st') (z7:n=items.length-j):Rb c g fr wr env ρ it P items X n s
theorem qB {src:Src} {it:Addr} {P:Nat->Obj->Prop} {target:Expr} {body:List Stmt} {o:Obj} {asg:V->PT Unit} {e:Nat} (hR:PM c D hd r) (k:PR ec wr env) (S:aU c g fr hd D A) (I:Inv c g fr wr env ρ st s) (X:Rn c hd src it ρ P)
  (ho:s.heap.get? it=some o) (h0:P 0 o) (F:P4 c g fr env ρ it)
  (hasg:∀{g ρ st s v y E} {Qu:Unit->AS->Prop},aU c g fr hd D A->Inv c g fr wr env ρ st s->PF ρ v y->asg v st Qu E->Kg c.M A (Nu target env y) (PG c g fr wr env ρ (λ_ _ _=>True) Qu) (PE c g fr wr env ρ E) s)
  (hp:bq src.G (λv=>do asg v;cU r ec body) src.items st Qf E):
  Ly c.M A (.forLoop target (.ref it) body [] env) (λr s'=>match r with|.ok f=>PG c g fr wr env ρ cj Qf f s'|.error e=>EIn c g fr wr env ρ E e s') s:=by
 refine lH (Rb c g fr wr env ρ it P src.items λl st'=>bq src.G (λv=>do asg v;cU r ec body) l st' Qf E) (λn s hI=>?_) _ ⟨ρ,st,0,o,GX _,I,ho,h0,F,hp,rfl⟩
 obtain ⟨OH,OI,j,Pq,h1,I1,ho1,hP1,F1,hp1,rfl⟩:=hI
 have' nt:∀{e s'},PE c g fr wr env ρ E e s'->MK c.M A env (λe s'=>EIn c g fr wr env ρ E e s') e s':=λx=>fU S.frames x λ_ y=>y
 induction hj:src.items[j]? with
 |none=>
  rw [Je (Hj.mp hj)] at hp1
  obtain ⟨hG,hq⟩:=hp1
  refine X.stop S h1 I1 hG ho1 hP1 hj λh' hx=>?_
  exact Mr ⟨OH,OI,.next,h1,I1.touch (tk:=s.toks) F1 (λb ob n q=>hx b ob n q),rfl,hq⟩
 |some v=>
  have' hlt:=(G4.mp hj).1
  rw [Iy hlt,(G4.mp hj).2] at hp1
  obtain ⟨hG,hp1⟩:=hp1
  refine X.item S h1 I1 hG ho1 hP1 hj λy h' o' tk hv hs ho' hP'=>?_
  have I2:Inv c g fr wr env OH OI {s with heap:=h',toks:=tk}:=I1.touch F1 λb ob n q=>(hs.2 b n).trans q
  dsimp only
  refine qA X ho' hP' ?_
  have I3:=I2.guard F1 ho'
  have S3:=S.guard (o:=o') F1.out.1
  have drop:∀{α β:Type} {R:Rho->β->α->Prop} {Q:β->AS->Prop} {a:α} {s':Ki} {OL:Rho},OH<+:OL->PG c (cB g it o') fr wr env OL R Q a s'->Ex3 λρ' st' b=>Rp (OH<+:ρ') (Inv c g fr wr env ρ' st' s') (s'.heap.get? it=some o') (P4 c g fr env ρ' it) (R ρ' b a) (Q b st'):=by
   rintro α β R Q a s' OL h12 ⟨ρ',st',b,h2,J,hR,hQ⟩
   obtain ⟨J1,J2,J3⟩:=J.unguard F1
   exact ⟨ρ',st',b,h12.trans h2,J1,J2,J3,hR,hQ⟩
  have' edrop:∀{e:Value} {s':Ki} {OL:Rho},OH<+:OL->PE c (cB g it o') fr wr env OL E e s'->PE c g fr wr env ρ E e s':=by
   rintro e s' OL h12 ⟨ρ',st',C,h2,J,hx,hE⟩
   exact ⟨ρ',st',C,h1.trans (h12.trans h2),(J.unguard F1).1,hx.unguard,hE⟩
  refine Kl (hasg S3 I3 hv hp1) (λ_ OJ x=>?_) λe s' x=>nt (edrop (GX _) x)
  obtain ⟨OL,OM,_,h2,J2,_,hp2⟩:=x
  refine Kl (dM hR k S3 body OL OL OM OJ _ E (GX _) J2 hp2) (λf ON x=>?_) λe s' x=>nt (edrop h2 x)
  obtain ⟨OU,OR,fl,h3,J3,J4,J5,hf,hq⟩:=drop h2 x
  have' again:bq src.G (λv=>do asg v;cU r ec body) (src.items.drop (j+1)) OR Qf E->∃m,m<src.items.length-j∧Rb c g fr wr env ρ it P src.items (λl st'=>bq src.G (λv=>do asg v;cU r ec body) l st' Qf E) m ON:=
   λhq=>⟨src.items.length-(j+1),by exact w33 hlt,OU,OR,j+1,o',h1.trans h3,J3,J4,hP',J5,hq,rfl⟩
  induction fl with
  |next=>replace hf:f=.next:=hf;subst hf;exact again hq
  |cont=>replace hf:f=.cont:=hf;subst hf;exact again hq
  |ret v=>obtain ⟨y,rfl,hf⟩:=hf;exact ⟨OU,OR,.ret v,h1.trans h3,J3,⟨y,rfl,hf⟩,hq⟩
theorem qC (hR:PM c D hd r) (k:PR ec wr env) (S:aU c g fr hd D A) (I:Inv c g fr wr env ρ st s) (hp:gu (r.T ec test) (cU r ec body) n st Qf E):
  Ly c.M A (.whileLoop test body [] env) (λr s'=>match r with|.ok f=>PG c g fr wr env ρ cj Qf f s'|.error e=>EIn c g fr wr env ρ E e s') s:=by
 refine codeAny_whileLoop (λn s=>Ex2 λρ' st'=>P8 (ρ<+:ρ') (Inv c g fr wr env ρ' st' s) (gu (r.T ec test) (cU r ec body) n st' Qf E)) (λn s hI=>?_) n ⟨ρ,st,GX _,I,hp⟩
 obtain ⟨OH,OI,h1,I1,hp⟩:=hI
 have' nt:∀{e s' OL},ρ<+:OL->PE c g fr wr env OL E e s'->MK c.M A env (λe s'=>EIn c g fr wr env ρ E e s') e s':=λh x=>fU S.frames (PE.up h x) λ_ y=>y
 induction n using Hn with
 |zero=>exact hp.elim
 |succ n=>
  refine Kl (hR.T k S test OH OH OI s _ E (GX _) I1 hp) (λb OJ x=>?_) λe s' x=>nt h1 x
  obtain ⟨OL,OM,b',h2,I2,rfl,hp2⟩:=x
  have h12:=h1.trans h2
  induction b with
  |false=>
   rw [Rz HG] at hp2⊢
   exact Mr ⟨OL,OM,.next,h12,I2,rfl,hp2⟩
  |true=>
   rw [RA rfl] at hp2⊢
   refine Kl (dM hR k S body OL OL OM OJ _ E (GX _) I2 hp2) (λf ON x=>?_) λe s' x=>nt h12 x
   obtain ⟨OU,OR,fl,h3,I3,hf,hq⟩:=x
   have h13:=h12.trans h3
   induction fl with
   |next=>replace hf:f=.next:=hf;subst hf;exact ⟨n,HI _,OU,OR,h13,I3,hq⟩
   |cont=>replace hf:f=.cont:=hf;subst hf;exact ⟨n,HI _,OU,OR,h13,I3,hq⟩
   |ret v=>obtain ⟨y,rfl,hf⟩:=hf;exact ⟨OU,OR,.ret v,h13,I3,⟨y,rfl,hf⟩,hq⟩
end
def a9 (env:Env) (l:List (Str×K0)) (acc:List (Str×Addr)):List (Str×Addr):=
 l.foldl (λacc p=>if p.2==.free then (p.1,(env.cells.lookup p.1).getD 0)::acc else acc) acc
theorem iH:a9 env (p::r) acc=a9 env r (if p.2==.free then (p.1,(env.cells.lookup p.1).getD 0)::acc else acc):=rfl
theorem nj (h:∀n k,(n,k)∈sc.names->k=.free->∃a,env.cells.lookup n=some a):closureFor sc env=pure (a9 env sc.names []):=by
 have main:∀(f:Str×K0->List (Str×Addr)->Sem (ForInStep (List (Str×Addr)))),(∀n k cs a,env.cells.lookup n=some a->k=Kz->f (n,k) cs=pure (ForInStep.yield ((n,a)::cs)))->(∀n k cs,(k==Kz)=false->f (n,k) cs=pure (ForInStep.yield cs))->
   ∀(names:List (Str×K0)) (acc:List (Str×Addr)),(∀n k,(n,k)∈names->k=.free->∃a,env.cells.lookup n=some a)->forIn names acc f=(pure (a9 env names acc):Sem _):=by
  intro f hf1 hf2 names
  induction names with
  |nil=>intro acc _;rfl
  |cons p r ih=>
   intro acc hn
   obtain ⟨n,k⟩:=p
   rw [Ju]
   rw [iH]
   by_cases hk:(k==Kz)=true
   ·obtain ⟨a,ha⟩:=hn n k (.head _) (beq_iff_eq.mp hk)
    rw [hf1 n k acc a ha (beq_iff_eq.mp hk),hk,pure_bind]
    dsimp only
    rw [ha]
    exact ih _ λn k h=>hn n k (.tail _ h)
   rw [JO] at hk
   rw [hf2 n k acc hk,hk,pure_bind]
   exact ih _ λn k h=>hn n k (.tail _ h)
 simp only [closureFor]
 rw [main _ (λn k cs a ha hk=>?_) (λn k cs hk=>?_) sc.names [] h] at⊢
 ·rfl
 ·have hc:cellOf env n=pure a:=by unfold cellOf;rw [ha]
  subst hk
  simp [hc]
 simp [hk]
theorem bG {α:Type} {x y:Str} {a:α} {l:List (Str×α)}:((y,a)::l).lookup x=if x=y then some a else l.lookup x:=by
 rw [List.lookup_cons]
 by_cases h:x=y
 ·subst h;rw [beq_self_eq_true,RA rfl]
 rw [Rz h,beq_eq_false_iff_ne.mpr h]
def iI (v:Str->Addr) (names:List (Str×K0)) (acc L:List (Str×Addr)) (x:Str):Prop:=
 ((x,Kz)∈names->L.lookup x=some (v x))∧((x,Kz)∉names->L.lookup x=acc.lookup x)
theorem sZ {n:Str} (ih:iI v r ((n,v n)::acc) L x):iI v ((n,.free)::r) acc L x:=by
 by_cases hr:(x,Kz)∈r
 ·exact ⟨λ_=>ih.1 hr,λh=>absurd (.tail _ hr) h⟩
 have this:=(ih.2 hr).trans bG
 by_cases hx:x=n
 ·subst hx
  exact ⟨λ_=>this.trans (RA rfl),λh=>absurd (.head _) h⟩
 exact ⟨λh=>(G0.mp h).elim (λe=>absurd (congrArg Prod.fst e) hx) λe=>absurd e hr,λ_=>this.trans (Rz hx)⟩
theorem qD (hk:k≠.free) (ih:iI v r acc L x):iI v ((n,k)::r) acc L x:=
 ⟨λh=>ih.1 ((G0.mp h).elim (λe=>absurd (congrArg Prod.snd e).symm hk) id),λh=>ih.2 λe=>h (.tail _ e)⟩
theorem bz {env:Env} (names:List (Str×K0)) (acc:List (Str×Addr)) (x:Str):
  ((x,Kz)∈names->(a9 env names acc).lookup x=some ((env.cells.lookup x).getD 0))∧((x,Kz)∉names->(a9 env names acc).lookup x=acc.lookup x):=by
 show iI (λx=>(env.cells.lookup x).getD 0) names acc (a9 env names acc) x
 induction names generalizing acc with
 |nil=>exact ⟨λh=>absurd h H8,λ_=>rfl⟩
 |cons p r ih=>
  by_cases hk:p.2=.free
  ·obtain ⟨n,k⟩:=p
   subst hk;exact sZ (ih _)
  have e:a9 env (p::r) acc=a9 env r acc:=congrArg (a9 env r) (Rz λh=>hk (beq_iff_eq.mp h))
  rw [e];exact qD hk (ih _)
def iJ (N:Nat) (acc:List (Str×Addr)) (names:List (Str×K0)) (L:List (Str×Addr)) (H:Heap):Prop:=
 (∀x a,L.lookup x=some a->(acc.lookup x=some a)∨(N≤a∧H.IsCell a none∧(x,LG)∈names))∧
  (∀x y a,L.lookup x=some a->L.lookup y=some a->x=y)∧
  (∀x,(acc.lookup x).isSome=true∨(x,LG)∈names->(L.lookup x).isSome=true)
theorem dN {n x:Str} {l:List (Str×Addr)} (e:HQ x ((n,N)::l)=some a):(x=n∧a=N)∨l.lookup x=some a:=by
 replace e:=bG.symm.trans e
 by_cases c:x=n
 ·exact .inl ⟨c,(ay ((RA c).symm.trans e)).symm⟩
 exact .inr ((Rz c).symm.trans e)
theorem iK {n:Str} {l:List (Str×Addr)}:HQ n ((n,N)::l)=some N:=bG.trans (RA rfl)
theorem o7 {n x:Str} {l:List (Str×Addr)} (h:(l.lookup x).isSome=true):(HQ x ((n,N)::l)).isSome=true:=by
 by_cases c:x=n
 ·subst c;rw [iK];rfl
 rw [bG,Rz c];exact h
theorem nk (h1:∀x a,acc.lookup x=some a->a<N) (h2:∀x y a,acc.lookup x=some a->acc.lookup y=some a->x=y) (hc:H.IsCell N none)
  (ih:(∀x a,HQ x ((n,N)::acc)=some a->a<N+1)->(∀x y a,HQ x ((n,N)::acc)=some a->HQ y ((n,N)::acc)=some a->x=y)->iJ (N+1) ((n,N)::acc) r L H):
  iJ N acc ((n,.cell)::r) L H:=by
 obtain ⟨i1,i2,i3⟩:=ih (λx a e=>(dN e).elim (λq=>q.2▸HI _) λq=>Hz (h1 x a q)) λx y a ex ey=>
  (dN ex).elim (λp=>(dN ey).elim (λq=>p.1.trans q.1.symm) λq=>absurd (p.2▸h1 y a q) (Hl _)) λp=>
   (dN ey).elim (λq=>absurd (q.2▸h1 x a p) (Hl _)) λq=>h2 x y a p q
 refine ⟨λx a e=>(i1 x a e).elim (λq=>(dN q).elim (λq=>.inr ?_) .inl) λ⟨q1,q2,q3⟩=>.inr ⟨JH q1,q2,.tail _ q3⟩,i2,λx e=>i3 x (e.elim (λe=>.inl (o7 e)) λe=>(G0.mp e).elim (λq=>.inl ?_) .inr)⟩
 ·obtain ⟨rfl,rfl⟩:=q;exact ⟨GW _,hc,.head _⟩
 obtain rfl:=congrArg Prod.fst q;exact (congrArg Option.isSome iK).trans rfl
theorem lI (hk:k≠.cell) (ih:iJ N acc r L H):iJ N acc ((n,k)::r) L H:=
 ⟨λx a e=>(ih.1 x a e).imp id λq=>⟨q.1,q.2.1,.tail _ q.2.2⟩,ih.2.1,λx e=>ih.2.2 x (e.imp id λq=>(G0.mp q).elim (λq=>absurd (congrArg Prod.snd q).symm hk) id)⟩
theorem iL (names:List (Str×K0)) (h:Heap) (acc:List (Str×Addr)) (h1:∀x a,acc.lookup x=some a->a<h.objs.size) (h2:∀x y a,acc.lookup x=some a->acc.lookup y=some a->x=y):
  iJ h.objs.size acc names (L8 h.objs.size names acc) (Lf h names):=by
 induction names generalizing h acc with
 |nil=>exact ⟨λx a e=>.inl e,h2,λx e=>e.elim id λq=>absurd q H8⟩
 |cons p r ih=>
  by_cases hk:p.2=.cell
  ·obtain ⟨n,k⟩:=p
   subst hk
   have' ih:=ih (h.push {cls:=.type "cell",data:=.cell none}) ((n,h.objs.size)::acc)
   rw [Kv] at ih
   exact nk h1 h2 ⟨_,MY r _ _ _ (Kk _ rfl),rfl⟩ ih
  have hk':¬(p.2==LG)=true:=λh=>hk (beq_iff_eq.mp h)
  have e1:L8 h.objs.size (p::r) acc=L8 h.objs.size r acc:=Rz hk'
  have e2:Lf h (p::r)=Lf h r:=Rz hk'
  rw [e1,e2];exact lI hk (ih _ _ h1 h2)
theorem iM (names:List (Str×K0)) (h:Heap):h.objs.size≤(Lf h names).objs.size:=by
 induction names generalizing h with
 |nil=>exact GW _
 |cons p r ih=>
  by_cases hk:(p.2==LG)=true
  ·have e:Lf h (p::r)=Lf (h.push {cls:=.type "cell",data:=.cell none}) r:=RA hk
   rw [e];exact G2 (by rw [Kv];exact IK _) (ih _)
  have e:Lf h (p::r)=Lf h r:=Rz hk
  rw [e];exact ih h
theorem jm
  (h:Q {scope:=sc,locals:=s.heap.objs.size,globals:=env.globals,cells:=L8 (s.heap.push {cls:=.type "dict",data:=.dict #[]}).objs.size sc.names cl,qual:=env.qual,func:=none,code:=env.code,frame:=env.frame,builtins:=env.builtins}
   {s with heap:=Lf (s.heap.push {cls:=.type "dict",data:=.dict #[]}) sc.names}):
  Kg M A (newFunctionEnv sc env.globals cl [] env.qual none .none (some env)) Q E s:=by
 simp only [newFunctionEnv,Option.isSome_some,if_true]
 refine Ke (MH ?_)
 refine Ke (wpAny_layCells _ (λname kind cells=>by cases hkc:kind==LG<;>simp [hkc]) _ _ _ _ ?_)
 refine Ke ?_
 rw [List.forIn_nil]
 exact Kf (Kf h)
section
variable {c:Cx} {g:GP} {fr:List Env} {wr:Str->Bool} {env:Env} {A:Kw} {hd:Bool} {D:Nat} {ρ ρ' ρ₀ OH:Rho} {st:AS} {s s':Ki} {Γ:Gam} {r:Ev} {ec:EC}
 {Q:V->AS->Prop} {E:Nat->AS->Prop} {Qb:Bool->AS->Prop} {Qu:Unit->AS->Prop} {Qf:Fl->AS->Prop} {hp hp':List O} {xs:List Addr}
open Classical in
def gX (c:Cx) (s:Ki) (ρ:Rho) (hp:List O) (xs:List Addr):GP:=λb=>if PZ ρ hp b∨b∈xs∨b∈c.tabs then none else s.heap.get? b
theorem oo (h:gX c s ρ hp xs b=some o):s.heap.get? b=some o∧¬PZ ρ hp b∧b∉xs:=by
 unfold gX at h
 split at h
 ·exact nNS h
 rename_i n;exact ⟨h,λf=>n (.inl f),λf=>n (.inr (.inl f))⟩
theorem iN (h:s.heap.get? b=some o) (n:¬PZ ρ hp b) (n':b∉xs) (n'':b∉c.tabs):gX c s ρ hp xs b=some o:=by
 unfold gX;rw [Rz (λx=>x.elim n λx=>x.elim n' n'')];exact h
theorem s4 (h:PZ ρ hp b):gX c s ρ hp xs b=none:=by unfold gX;rw [RA (.inl h)]
theorem vW (h:b∈xs):gX c s ρ hp xs b=none:=by unfold gX;rw [RA (.inr (.inl h))]
theorem vX (h:b∈c.tabs):gX c s ρ hp xs b=none:=by unfold gX;rw [RA (.inr (.inr h))]
theorem oq (h:gX c s ρ hp xs b=none):PZ ρ hp b∨b∈xs∨b∈c.tabs∨s.heap.get? b=none:=by
 unfold gX at h
 split at h
 ·rename_i f;exact f.elim .inl λf=>.inr (f.elim .inl λf=>.inr (.inl f))
 exact .inr (.inr (.inr h))
theorem PP.enterX (ok:c.Ok) (I:PP c g fr ρ hp s) (hx:∀x∈xs,c.base.objs.size≤x):PP c (gX c s ρ hp xs) fr ρ hp s:=
 {I with
  prot:=λb o e=>⟨o.slots,(oo e).1,λ_=>rfl⟩
  gfoot:=λa f=>s4 f
  bg:=λb o e=>iN (I.keep b o e) (λf=>absurd (Kj e) (Hr.mpr (I.base_foot f))) (λf=>absurd (Kj e) (Hr.mpr (hx b f))) λm=>by rw [ok.tb b m] at e;exact nNS e
  gtab:=λP hP=>vX hP}
theorem Inv.backX (I:Inv c g fr wr env ρ st s) (hx:∀x∈xs,P4 c g fr env ρ x) (hρ:ρ<+:ρ') (J:PP c (gX c s ρ st.hp xs) fr ρ' hp' s'):Inv c g fr wr env ρ' ⟨hp',st.vars⟩ s':=by
 have e:=I.e
 obtain ⟨oL,hoL⟩:∃oL,s.heap.get? env.locals=some oL:=let ⟨_,⟨o,_,_,ho,_⟩,_⟩:=e.ns;⟨o,ho⟩
 have nL:=bJ (hp:=st.hp) e.lno
 have nLx:env.locals∉xs:=λm=>(hx _ m).loc rfl
 have' nCx:∀x a,env.cells.lookup x=some a->a∉xs:=λx a ha m=>(hx _ m).cell x a ha rfl
 obtain ⟨sl,q,_⟩:=J.prot _ _ (iN hoL nL nLx (I.w.tabNo e.low))
 have' out:∀(a:Nat) (o:Obj),s.heap.get? a=some o->¬PZ ρ st.hp a->a∉xs->c.base.objs.size≤a->∀(i:Nat) p,ρ'[i]?=some p->p.1≠a∧p.2≠a:=by
  intro a o ho nf nx hb i p hp
  have hi:i<hp'.length:=J.rep.len▸(G4.mp hp).1
  obtain ⟨x,hx⟩:∃x,hp'[i]?=some x:=⟨_,G3 hi⟩
  induction hr:x.isRo with
  |true=>
   have:=J.rep.rolow hp hx hr
   exact ⟨λz=>absurd this.1 (Hr.mpr (z▸hb)),λz=>absurd this.2 (Hr.mpr (z▸hb))⟩
  |false=>
   have' g1:=J.gfoot p.1 ⟨i,p,x,hp,hx,hr,.inl rfl⟩
   have' g2:=J.gfoot p.2 ⟨i,p,x,hp,hx,hr,.inr rfl⟩
   refine ⟨λz=>?_,λz=>?_⟩
   ·rw [z,iN ho nf nx (I.w.tabNo hb)] at g1;exact nSN g1
   rw [z,iN ho nf nx (I.w.tabNo hb)] at g2;exact nSN g2
 have' Ol:∀x a,env.cells.lookup x=some a->∀o,s.heap.get? a=some o->s'.heap.get? a=some o:=λx a ha o ho=>by
  obtain ⟨sl,q,r⟩:=J.prot a o (iN ho (bJ (e.cno x a ha)) (nCx x a ha) (I.w.tabNo (e.clow x a ha)))
  rw [r (e.cfr x a ha)] at q;exact q
 have ns':∃m,s'.heap.Ns env.locals m∧∀x v,env.kindOf x=some .local->st.vars x=some v->∃y,m x=some y∧PF ρ' v y:=by
  obtain ⟨m,⟨o,es,ep,ho,hd,r⟩,hx⟩:=e.ns
  rw [hoL] at ho;(replace ho:=ay ho;subst ho)
  exact ⟨m,⟨_,es,ep,q,hd,r⟩,λx v h1 h2=>let ⟨y,h3,h4⟩:=hx x v h1 h2;⟨y,h3,h4.up hρ⟩⟩
 refine ⟨{J with
  prot:=λb o e=>by
   obtain ⟨sl,q,r⟩:=I.w.prot b o e
   have nf:¬PZ ρ st.hp b:=λf=>by rw [I.w.gfoot b f] at e;exact nNS e
   have nx:b∉xs:=λm=>by rw [(hx b m).out.1] at e;exact nNS e
   obtain ⟨sl',q',r'⟩:=J.prot b _ (iN q nf nx (I.w.tabG e))
   exact ⟨sl',q',λh=>(r' h).trans (r h)⟩
  gfoot:=λa f=>by
   rcases oq (J.gfoot a f) with h|h|h|h
   ·exact I.w.gfoot a h
   ·exact (hx a h).out.1
   ·exact I.w.gtab a h
   induction e:g a with
   |none=>rfl
   |some o=>obtain ⟨sl,q,_⟩:=I.w.prot a o e;rw [h] at q;exact nNS q
  bg:=I.w.bg
  gtab:=I.w.gtab},{
  kfun:=e.kfun
  glob:=e.glob
  blt:=e.blt
  ns:=ns'
  cel:=λx hx=>by
   obtain ⟨a,ha,ov,⟨o,ho,hd⟩,hr⟩:=e.cel x hx
   exact ⟨a,ha,ov,⟨o,Ol x a ha o ho,hd⟩,λv hv=>let ⟨y,h3,h4⟩:=hr v hv;⟨y,h3,h4.up hρ⟩⟩
  cis:=λx a ha=>let ⟨ov,o,ho,hd⟩:=e.cis x a ha;⟨ov,o,Ol x a ha o ho,hd⟩
  lno:=out _ _ hoL nL nLx e.low
  cno:=λx a ha=>let ⟨ov,o,ho,_⟩:=e.cis x a ha;out a o ho (bJ (e.cno x a ha)) (nCx x a ha) (e.clow x a ha)
  lg:=e.lg
  cg:=e.cg
  apart:=e.apart
  cl:=e.cl
  low:=e.low
  clow:=e.clow
  cfr:=e.cfr
  frame:=e.frame
  code:=e.code}⟩
theorem P3.backX (I:PP c g fr ρ hp s) (hx:∀x∈xs,g x=none) (h:P3 (gX c s ρ hp xs) ρ' a):P3 g ρ' a:=by
 refine ⟨?_,h.2⟩
 rcases oq h.1 with f|f|f|f
 ·exact I.gfoot a f
 ·exact hx a f
 ·exact I.gtab a f
 induction e:g a with
 |none=>rfl
 |some o=>obtain ⟨sl,q,_⟩:=I.prot a o e;rw [f] at q;exact nNS q
theorem P6.backX (I:PP c g fr ρ hp s) (hx:∀x∈xs,g x=none) (x:P6 c (gX c s ρ hp xs) ρ' L C e h):P6 c g ρ' L' C e h:=by
 obtain ⟨a,oe,vs,v1,h1,h2,h3,h4,h5,h6,h7,h8,h9⟩:=x
 refine ⟨a,oe,vs,v1,h1,h2,h3,h4,h5,h6.backX I hx,h7,h8,h9.imp id ?_⟩
 rintro ⟨T,oT,ts,f3,k1,k2,k3,k4,k5,k6,k7,k8⟩
 exact ⟨T,oT,ts,f3,k1,k2,k3,k4,k5,k6,k7.backX I hx,k8⟩
theorem PU.enterX (S:PU c g fr hd D e A) (I:PP c g fr ρ hp s) (hx:∀x∈xs,g x=none):PU c (gX c s ρ hp xs) fr hd D e A:=
 {S with hsome:=S.hsome.imp id λ⟨eh,oe,vs,h1,h2,h3,h4,h5⟩=>⟨eh,oe,vs,h1,iN (I.prot.at h2 h3) (λf=>by rw [I.gfoot eh f] at h2;exact nNS h2) (λm=>by rw [hx eh m] at h2;exact nNS h2) (I.tabG h2),h3,h4,h5⟩}
theorem fE {f:Str->K0->K0} {x:Str}:∀(names:List (Str×K0)),(names.map λp=>(p.1,f p.1 p.2)).lookup x=(names.lookup x).map (f x)
 |[]=>rfl
 |(n,k)::r=>by
  rw [Hc,bG,bG]
  by_cases h:x=n
  ·subst h;rw [RA rfl,RA rfl];rfl
  rw [Rz h,Rz h];exact fE r
structure QX (env:Env) (sc:MZ) (x:Str):Prop where
 kind:sc.kind=.function
 uni:∀p∈sc.names,sc.names.lookup p.1=some p.2
 fre:∀n,(n,Kz)∈sc.names->env.kindOf n=some .cell∨env.kindOf n=some .free
 var:sc.names.lookup x=some .local∨sc.names.lookup x=some .cell
theorem nn (k:PR ec wr env) (h:fB ec sc x=true):QX env sc x:=by
 unfold fB at h
 simp only [Hs,Hd,JT,beq_iff_eq,bne_iff_ne] at h
 obtain ⟨⟨⟨h1,h2⟩,h3⟩,h4⟩:=h
 refine ⟨h1,h2,λn hn=>?_,h4⟩
 rcases h3 _ hn with (h|h)|h
 ·exact absurd rfl h
 ·exact .inl ((k.kd n).symm.trans h)
 exact .inr ((k.kd n).symm.trans h)
def wrC (sc:MZ):Str->Bool:=λx=>sc.names.lookup x==some .local||sc.names.lookup x==some .cell
theorem d5 (sc:MZ) (env:Env) (x:Str):(Nh sc env).names.lookup x=(sc.names.lookup x).map λk=>if (k==.free&&env.scope.kind==.function&&env.kindOf x==some .cell) then .cell else k:=by
 have:=fE (f:=λn k=>if (k==.free&&env.scope.kind==.function&&env.kindOf n==some .cell) then .cell else k) (x:=x) sc.names
 rw [<-this]
 unfold Nh
 dsimp only
 congr 1
 refine HC λp _=>?_
 split<;>rfl
theorem o8 {x:Str} {sc:MZ} (k:PR ec wr env) (hk:env.scope.kind=.function):∀cenv:Env,cenv.scope=Nh sc env->PR (ec.comp sc) (wrC sc) cenv:=by
 intro cenv hc
 refine ⟨λy=>?_,λy=>rfl⟩
 show (gv ec sc).lookup y=cenv.scope.names.lookup y
 rw [hc,d5]
 unfold gv
 have:=fE (f:=λn k=>if (k==.free&&ec.kd n==some .cell) then .cell else k) (x:=y) sc.names
 have e2:(sc.names.map λ(n,k)=>if k==.free&&ec.kd n==some .cell then (n,LG) else (n,k))=sc.names.map λp=>(p.1,if (p.2==.free&&ec.kd p.1==some .cell) then .cell else p.2):=by
  refine HC λp _=>?_
  obtain ⟨n,k'⟩:=p
  dsimp only
  split<;>rfl
 rw [e2,this,k.kd,hk]
 simp
theorem qE (ok:c.Ok) (I:Inv c g fr wr env ρ st s) (hxs:∀y∈xs,P4 c g fr env ρ y) (N:QX env sc x)
  (he:cenv={scope:=Nh sc env,locals:=s.heap.objs.size,globals:=env.globals,cells:=L8 (s.heap.push {cls:=.type "dict",data:=.dict #[]}).objs.size sc.names (a9 env sc.names []),qual:=env.qual,func:=none,code:=env.code,frame:=env.frame,builtins:=env.builtins}):
  Inv c (gX c s ρ st.hp xs) fr (wrC sc) cenv ρ ⟨st.hp,lx sc st.vars⟩ {s with heap:=Lf (s.heap.push {cls:=.type "dict",data:=.dict #[]}) sc.names}:=by
 have e:=I.e
 have' hkeep:∀b o,s.heap.get? b=some o->(Lf (s.heap.push {cls:=.type "dict",data:=.dict #[]}) sc.names).get? b=some o:=λb o q=>MY _ _ _ _ (Kh _ q)
 have hsz:s.heap.objs.size<(Lf (s.heap.push {cls:=.type "dict",data:=.dict #[]}) sc.names).objs.size:=G5 (by rw [Kv];exact HI _) (iM _ _)
 have' fresh:∀a,s.heap.objs.size≤a->gX c s ρ st.hp xs a=none:=λa ha=>by
  induction q:gX c s ρ st.hp xs a with
  |none=>rfl
  |some o=>exact absurd (Kj (oo q).1) (Hr.mpr ha)
 have' freeCell:∀n,(n,Kz)∈sc.names->∃a,env.cells.lookup n=some a:=λn hn=>let ⟨a,ha,_⟩:=e.cel n (N.fre n hn);⟨a,ha⟩
 have' cl_in:∀n a,(a9 env sc.names []).lookup n=some a->(n,Kz)∈sc.names∧env.cells.lookup n=some a:=λn a h=>by
  by_cases hn:(n,Kz)∈sc.names
  ·obtain ⟨a',ha'⟩:=freeCell n hn
   rw [(bz sc.names [] n).1 hn,ha'] at h
   (replace h:=ay h;subst h);exact ⟨hn,ha'⟩
  rw [(bz sc.names [] n).2 hn] at h;exact nNS h
 have' cellLt:∀n a,env.cells.lookup n=some a->a<s.heap.objs.size:=λn a h=>let ⟨_,o,ho,_⟩:=e.cis n a h;Kj ho
 have' CL:=iL sc.names (s.heap.push {cls:=.type "dict",data:=.dict #[]}) (a9 env sc.names [])
  (λn a h=>by rw [Kv];exact Hz (cellLt n a (cl_in n a h).2)) (λn m a h1 h2=>e.apart n m a (cl_in n a h1).2 (cl_in m a h2).2)
 have hcc:cenv.cells=L8 (s.heap.push {cls:=.type "dict",data:=.dict #[]}).objs.size sc.names (a9 env sc.names []):=by rw [he]
 rw [<-hcc] at CL
 obtain ⟨CL1,CL2,CL3⟩:=CL
 have' hl:cenv.locals=s.heap.objs.size:=by rw [he]
 have' kind:∀y,cenv.kindOf y=(sc.names.lookup y).map λk=>if (k==.free&&env.scope.kind==.function&&env.kindOf y==some .cell) then .cell else k:=λy=>by
  rw [he];exact d5 sc env y
 have notRho:∀a,s.heap.objs.size≤a->∀(i:Nat) p,ρ[i]?=some p->p.1≠a∧p.2≠a:=λa ha=>(I.free ha).out.2
 have' tell:∀y a,cenv.cells.lookup y=some a->(env.cells.lookup y=some a∧(y,Kz)∈sc.names)∨(s.heap.objs.size<a∧(Lf (s.heap.push {cls:=.type "dict",data:=.dict #[]}) sc.names).IsCell a none∧(y,LG)∈sc.names):=λy a h=>by
  rcases CL1 y a h with q|⟨q1,q2,q3⟩
  ·exact .inl ⟨(cl_in y a q).2,(cl_in y a q).1⟩
  rw [Kv] at q1;exact .inr ⟨q1,q2,q3⟩
 have' isfree:∀y v,lx sc st.vars y=some v->sc.names.lookup y=some .free∧st.vars y=some v:=λy v h=>by
  unfold lx at h
  split at h
  ·rename_i q;exact ⟨beq_iff_eq.mp q,h⟩
  exact nNS h
 refine ⟨(I.w.enterX ok λy hy=>(hxs y hy).low).keeps (tk:=s.toks) (dr:=s.drawn) hkeep (G2 I.w.size (Hk hsz)) I.w.bare,?_⟩
 refine ⟨by rw [he];exact N.kind,by rw [he];exact e.glob,by rw [he];exact e.blt,?_,?_,?_,?_,?_,?_,?_,CL2,?_,?_,?_,?_,?_,by rw [he];exact e.code⟩
 ·refine ⟨λ_=>none,?_,λy v hy hv=>?_⟩
  ·rw [hl]
   exact (Heap.Ns.new s.heap (.type "dict")).keeps (MY _ _)
  rw [kind,(isfree y v hv).1] at hy
  simp only [JU,Hm.injEq] at hy
  split at hy<;>cases hy
 ·intro y hy
  rw [kind] at hy
  induction hn:sc.names.lookup y with
  |none=>rw [hn] at hy;simp at hy
  |some k=>
   have hmem:(y,k)∈sc.names:=N5 hn
   have hkk:k=.free∨k=.cell:=by
    rw [hn] at hy
    simp only [JU,Hm.injEq] at hy
    cases k<;>simp at hy⊢
   have hs:(cenv.cells.lookup y).isSome=true:=CL3 y (by
    rcases hkk with rfl|rfl
    ·obtain ⟨a,ha⟩:=freeCell y hmem
     exact .inl (by rw [(bz sc.names [] y).1 hmem];rfl)
    exact .inr hmem)
   obtain ⟨a,ha⟩:=HY.mp hs
   refine ⟨a,ha,?_⟩
   rcases tell y a ha with ⟨q1,q2⟩|⟨q1,q2,q3⟩
   ·have hf:sc.names.lookup y=some .free:=N.uni _ q2
    obtain ⟨a',ha',ov,⟨o,ho,hd⟩,hr⟩:=e.cel y (N.fre y q2)
    rw [q1] at ha';(replace ha':=ay ha';subst ha')
    exact ⟨ov,⟨o,hkeep _ _ ho,hd⟩,λv hv=>hr v (isfree y v hv).2⟩
   refine ⟨none,q2,λv hv=>?_⟩
   have hc:sc.names.lookup y=some .cell:=N.uni _ q3
   rw [(isfree y v hv).1] at hc;cases hc
 ·intro y a ha
  rcases tell y a ha with ⟨q1,_⟩|⟨_,q2,_⟩
  ·obtain ⟨ov,o,ho,hd⟩:=e.cis y a q1;exact ⟨ov,o,hkeep _ _ ho,hd⟩
  exact ⟨_,q2⟩
 ·rw [hl];exact notRho _ (GW _)
 ·intro y a ha
  rcases tell y a ha with ⟨q1,_⟩|⟨q1,_⟩
  ·exact e.cno y a q1
  exact notRho a (Hk q1)
 ·rw [hl];exact fresh _ (GW _)
 ·intro y a hw hk ha
  rcases tell y a ha with ⟨_,q2⟩|⟨q1,_⟩
  ·have hf:sc.names.lookup y=some .free:=N.uni _ q2
   unfold wrC at hw
   rw [hf] at hw;exact nFT hw
  exact fresh a (Hk q1)
 ·intro y a ha
  rw [hl]
  rcases tell y a ha with ⟨q1,_⟩|⟨q1,_⟩
  ·exact Hb (cellLt y a q1)
  exact HE q1
 ·rw [hl];exact I.w.size
 ·intro y a ha
  rcases tell y a ha with ⟨q1,_⟩|⟨q1,_⟩
  ·exact e.clow y a q1
  exact G2 I.w.size (Hk q1)
 ·intro y a ha
  rcases tell y a ha with ⟨q1,_⟩|⟨q1,_⟩
  ·exact e.cfr y a q1
  exact (I.free (Hk q1)).fr
 obtain ⟨e0,rest,L0,h1,h2,h3⟩:=e.frame
 exact ⟨e0,rest,L0,h1,h2,by rw [he];exact h3⟩
end
section
variable {c:Cx} {g:GP} {fr:List Env} {wr:Str->Bool} {env:Env} {A:Kw} {hd:Bool} {D:Nat} {ρ ρ' ρ₀ OH:Rho} {st:AS} {s s':Ki} {Γ:Gam} {r:Ev} {ec:EC}
 {Q:V->AS->Prop} {E:Nat->AS->Prop} {Qb:Bool->AS->Prop} {Qu:Unit->AS->Prop} {Qf:Fl->AS->Prop} {hp hp':List O} {xs:List Addr}
theorem Inv.adopt (I:Inv c g fr wr env ρ st s) (F:P4 c g fr env ρ a) (ho:Qy c (ρ++[(a,a)]) s.heap (a,a) o) (hi:∀C fs,o≠.inst C fs) (hro:o.isRo=false):
  Inv c g fr wr env (ρ++[(a,a)]) {st with hp:=st.hp++[o]} s:=by
 have' w:=I.w
 have' e:=I.e
 have' at_:∀{i:Nat} {q:Nat×Nat},(ρ++[(a,a)])[i]?=some q->(ρ[i]?=some q∧i<ρ.length)∨(i=ρ.length∧q=(a,a)):=λ{i q} e=>by
  by_cases hi:i<ρ.length
  ·rw [Ha hi] at e;exact .inl ⟨e,hi⟩
  rw [Hh (GU hi)] at e
  induction hq:i-ρ.length using Hn with
  |zero=>rw [hq] at e;exact .inr ⟨by exact w23 hi hq,(Hm.inj e).symm⟩
  |succ n=>rw [hq] at e;exact nNS e
 have' at2:∀{i:Nat} {x:O},(st.hp++[o])[i]?=some x->(st.hp[i]?=some x∧i<st.hp.length)∨(i=st.hp.length∧x=o):=λ{i q} e=>by
  by_cases hi:i<st.hp.length
  ·rw [Ha hi] at e;exact .inl ⟨e,hi⟩
  rw [Hh (GU hi)] at e
  induction hq:i-st.hp.length using Hn with
  |zero=>rw [hq] at e;exact .inr ⟨by exact w23 hi hq,(Hm.inj e).symm⟩
  |succ n=>rw [hq] at e;exact nNS e
 have' ha:=ho.at1
 have' hl:=w.rep.len
 have' hout:∀(i:Nat) p,(ρ++[(a,a)])[i]?=some p->(ρ[i]?=some p)∨p=(a,a):=λi p h=>(at_ h).imp (·.1) (·.2)
 refine ⟨⟨⟨by simp [hl],λ{i q x} e1 e2=>?_,λ{i q x} e1 e2 e3=>?_,λ{i j q q'} e1 e2 hij=>?_,λ{i q C fs} e1 e2=>?_,λ{i q} e1=>?_,λ{i q x} e1 e2 e3=>?_⟩,w.keep,w.prot,λb f=>?_,w.ffun,λi p e1=>?_,w.bg,w.os,w.bare,w.size,w.tab,w.tlow,w.gtab⟩,
  e.move (GV ..) (λ_ q=>q) (λ_ _ _ _ q=>q) (λi p e1=>?_) λx b hb i p e1=>?_⟩
 ·rcases at_ e1 with ⟨e1,hii⟩|⟨rfl,rfl⟩
  ·rcases at2 e2 with ⟨e2,_⟩|⟨rfl,rfl⟩
   ·exact (w.rep.obj e1 e2).move (GV ..) (λ_ e=>e) λ_ e=>e
   exact absurd hii (by rw [hl];exact Hl _)
  rcases at2 e2 with ⟨_,hii⟩|⟨_,rfl⟩
  ·exact absurd hii (by rw [hl];exact Hl _)
  exact ho
 ·rcases at_ e1 with ⟨e1,hii⟩|⟨rfl,rfl⟩
  ·rcases at2 e2 with ⟨e2,_⟩|⟨rfl,rfl⟩
   ·exact w.rep.low e1 e2 e3
   exact absurd hii (by rw [hl];exact Hl _)
  exact ⟨F.low,F.low⟩
 ·rcases at_ e1 with ⟨f1,_⟩|⟨f1,rfl⟩<;>rcases at_ e2 with ⟨f2,_⟩|⟨f2,rfl⟩
  ·exact w.rep.sep f1 f2 hij
  ·have':=F.out.2 i q f1
   exact ⟨this.1,this.1,this.2,this.2⟩
  ·have':=F.out.2 j q' f2
   exact ⟨Ne.symm this.1,Ne.symm this.2,Ne.symm this.1,Ne.symm this.2⟩
  exact absurd (f1.trans f2.symm) hij
 ·rcases at_ e1 with ⟨e1,hi'⟩|⟨rfl,rfl⟩
  ·rcases at2 e2 with ⟨e2,_⟩|⟨rfl,_⟩
   ·exact w.rep.self e1 e2
   exact absurd hi' (by rw [hl];exact Hl _)
  rcases at2 e2 with ⟨_,hi'⟩|⟨_,e⟩
  ·exact absurd hi' (by rw [hl];exact Hl _)
  exact absurd e.symm (hi _ _)
 ·rcases hout i q e1 with e1|rfl
  ·exact w.rep.inb e1
  exact ⟨ha,ha⟩
 ·rcases at2 e2 with ⟨e2,hi'⟩|⟨_,rfl⟩
  ·rcases at_ e1 with ⟨e1,_⟩|⟨rfl,rfl⟩
   ·exact w.rep.rolow e1 e2 e3
   exact absurd hi' (by rw [hl];exact Hl _)
  rw [hro] at e3;exact nFT e3
 ·rcases PZ.snoc hl f with f|rfl|rfl
  ·exact w.gfoot b f
  ·exact F.out.1
  exact F.out.1
 ·rcases hout i p e1 with e1|rfl
  ·exact w.fro i p e1
  exact ⟨F.fr,F.fr⟩
 ·rcases hout i p e1 with e1|rfl
  ·exact e.lno i p e1
  exact ⟨F.loc,F.loc⟩
 rcases hout i p e1 with e1|rfl
 ·exact e.cno x b hb i p e1
 exact ⟨Ne.symm (F.cell x b hb),Ne.symm (F.cell x b hb)⟩
theorem qF (hR:PM c D hd r) (k:PR ec wr env) (S:aU c g fr hd D A):∀(ifs:List Expr) (ρ₀:Rho),
  Sim c g fr wr env A ρ₀ (forIn ifs true λc r=>if r=true then do let ok <-NY c env (eval c env);pure (ForInStep.yield ok) else pure (ForInStep.yield r):Sem Bool) (ly r ec ifs) (λ_ b a=>a=b):=by
 intro ifs
 induction ifs with
 |nil=>exact λρ₀ ρ st s Q E h0 I hp=>Kf (PG.same' (R:=λ_ b a=>a=b) (b:=true) I rfl hp)
 |cons e l ih=>
  intro ρ₀ ρ st s Q E h0 I hp
  rw [Ju]
  rw [RA rfl]
  refine Ke (Ke (Sim.go (hR.T k S e ρ₀) h0 I hp λOH OI OG a b h1 I1 hb hp=>Kf ?_))
  subst hb
  dsimp only
  induction a with
  |true=>
   rw [RA rfl] at hp
   exact Kl (ih OH OH OI OG _ E (GX _) I1 hp) (λ_ _ x=>PG.up (R:=λ_ b a=>a=b) h1 x) λ_ _ x=>PE.up h1 x
  |false=>
   rw [Rz HG] at hp
   have off:∀(l:List Expr) {Q:Bool->Ki->Prop} {E:Value->Ki->Prop},Q false OG->Kg c.M A (forIn l false λc r=>if r=true then do let ok <-NY c env (eval c env);pure (ForInStep.yield ok) else pure (ForInStep.yield r):Sem Bool) Q E OG:=by
    intro l
    induction l with
    |nil=>intro Q E h;exact Kf h
    |cons e l ih=>
     intro Q E h
     rw [Ju,Rz HG]
     exact Ke (Kf (ih h))
   exact off l ⟨OH,OI,false,h1,I1,rfl,hp⟩
def iO (r:Ev) (ec:EC) (x:Str) (elt:Expr) (ifs:List Expr):V->PT (Option V):=λv=>do
 al x v
 let b <-ly r ec ifs
 if b=true then (do let y <-r.E ec elt;pure (some y)) else pure none
inductive Ro (c:Cx) (g:GP) (fr:List Env) (env:Env) (ρ:Rho) (acc:Addr) (vs:List V) (s:Ki):Prop
 |mk (its:_) (n:_) (z1:s.heap.get? acc=some (listOf its n)) (z2:PH ρ vs its.toList) (z3:P4 c g fr env ρ acc):Ro c g fr env ρ acc vs s
inductive Ra (c:Cx) (g:GP) (fr:List Env) (wr:Str->Bool) (env:Env) (ρ:Rho) (it acc:Addr) (P:Nat->Obj->Prop) (src:Src) (step:V->PT (Option V)) (Qc:List V->AS->Prop) (E:Nat->AS->Prop) (n:Nat) (s:Ki):Prop
 |mk (ρ':_) (st':_) (j:_) (o:_) (vs:_) (z1:ρ<+:ρ') (z2:Inv c g fr wr env ρ' st' s) (z3:s.heap.get? it=some o) (z4:P j o) (z5:P4 c g fr env ρ' it) (z6:Ro c g fr env ρ' acc vs s) (z7:vs.length≤j) (z8:j≤src.items.length) (z9:gM src.G step (src.items.drop j) st' (λl=>Qc (vs++l)) E) (z10:n=src.items.length-j):Ra c g fr wr env ρ it acc P src step Qc E n s
theorem Inv.guard2 (I:Inv c g fr wr env ρ st s) (F:P4 c g fr env ρ it) (ho:s.heap.get? it=some o) (F':P4 c g fr env ρ acc) (ho':s.heap.get? acc=some o') (ne:it≠acc):
  Inv c (cB (cB g it o) acc o') fr wr env ρ st s∧P4 c (cB g it o) fr env ρ acc:=
 have F2:P4 c (cB g it o) fr env ρ acc:={F' with out:=⟨by unfold cB;rw [Rz (Ne.symm ne)];exact F'.out.1,F'.out.2⟩}
 ⟨(I.guard F ho).guard F2 ho',F2⟩
theorem o9 (hR:PM c D hd r) (k:PR ec wr env) (S:aU c g fr hd D A) (X:Rn c hd src it ρ P)
  (hx:(env.kindOf x=some .local∨env.kindOf x=some .cell)∧wr x=true) (ne:it≠acc) (h:Ra c g fr wr env ρ it acc P src (iO r ec x elt ifs) Qc E n s):
  Ly c.M A (.compLoop (.ListComp elt [⟨.Name x px,iter,ifs,0⟩] sc pos) 0 (.ref it) (.ref acc) env)
   (λr s'=>match r with|.ok _=>Ex3 λρ' st' vs=>QK (ρ<+:ρ') (Inv c g fr wr env ρ' st' s') (Ro c g fr env ρ' acc vs s') (Qc vs st')|.error e=>EIn c g fr wr env ρ E e s') s:=by
 refine codeAny_compLoop_tests (Ra c g fr wr env ρ it acc P src (iO r ec x elt ifs) Qc E) (λn s hI=>?_) n h
 obtain ⟨OH,OI,j,Pq,vs,h1,I1,ho1,hP1,F1,hacc,hvj,hjl,hp1,rfl⟩:=hI
 have' nt:∀{e s'},PE c g fr wr env ρ E e s'->MK c.M A env (λe s'=>EIn c g fr wr env ρ E e s') e s':=λx=>fU S.frames x λ_ y=>y
 induction hj:src.items[j]? with
 |none=>
  rw [Je (Hj.mp hj)] at hp1
  obtain ⟨hG,hq⟩:=hp1
  rw [HR] at hq
  refine X.stop S h1 I1 hG ho1 hP1 hj λh' hx=>?_
  obtain ⟨its,n,a1,a2,a3⟩:=hacc
  exact ⟨OH,OI,vs,h1,I1.touch (tk:=s.toks) F1 (λb ob n q=>hx b ob n q),⟨its,n,hx _ _ (Ne.symm ne) a1,a2,a3⟩,hq⟩
 |some v=>
  have' hlt:=(G4.mp hj).1
  rw [Iy hlt,(G4.mp hj).2] at hp1
  obtain ⟨hG,hp1⟩:=hp1
  refine X.item S h1 I1 hG ho1 hP1 hj λy h' o' tk hv hs ho' hP'=>?_
  have I2:Inv c g fr wr env OH OI {s with heap:=h',toks:=tk}:=I1.touch F1 λb ob n q=>(hs.2 b n).trans q
  obtain ⟨its,na,a1,a2,a3⟩:=hacc
  have a1':h'.get? acc=some (listOf its na):=(hs.2 acc (Ne.symm ne)).trans a1
  obtain ⟨I3,F2⟩:=I2.guard2 F1 ho' a3 a1' ne
  have' S3:=(S.guard (o:=o') F1.out.1).guard (o:=listOf its na) F2.out.1
  have' drop:∀{OL OM OJ},OH<+:OL->Inv c (cB (cB g it o') acc (listOf its na)) fr wr env OL OM OJ->Inv c g fr wr env OL OM OJ∧OJ.heap.get? it=some o'∧P4 c g fr env OL it∧OJ.heap.get? acc=some (listOf its na)∧P4 c g fr env OL acc:=by
   intro OL OM OJ h2 J
   obtain ⟨J1,J2,J3⟩:=J.unguard F2
   obtain ⟨K1,K2,K3⟩:=J1.unguard F1
   exact ⟨K1,K2,K3,J2,{a3 with out:=⟨a3.out.1,J3.out.2⟩}⟩
  have' edrop:∀{e:Value} {s':Ki} {OL:Rho},OH<+:OL->PE c (cB (cB g it o') acc (listOf its na)) fr wr env OL E e s'->PE c g fr wr env ρ E e s':=by
   rintro e s' OL h12 ⟨ρ',st',C,h2,J,hx,hE⟩
   exact ⟨ρ',st',C,h1.trans (h12.trans h2),(drop (h12.trans h2) J).1,hx.unguard.unguard,hE⟩
  dsimp only
  show Kg c.M A (Me px>>=λ_=>Ou env x y) _ _ _
  refine Ke (Kq (wpAny_bindName (gt I3 hx.1 hx.2 hv λOV Pz I4=>?_)))
  have hp2:(ly r ec ifs>>=λb=>(if b=true then (do let y <-r.E ec elt;pure (some y)) else pure none:PT (Option V))) {OI with vars:=upd OI.vars x v} _ E:=hp1
  refine Kl (qF hR k S3 ifs OH OH _ _ _ E (GX _) I4 hp2) (λok ON z=>?_) λe s' z=>nt (edrop (GX _) z)
  obtain ⟨OL,OM,b,h2,I5,rfl,hp3⟩:=z
  induction ok with
  |false=>
   rw [Rz HG] at hp3⊢
   obtain ⟨K1,K2,K3,K4,K5⟩:=drop h2 I5
   exact ⟨src.items.length-(j+1),by exact w33 hlt,OL,OM,j+1,o',vs,h1.trans h2,K1,K2,hP',K3,⟨its,na,K4,a2.up h2,K5⟩,by exact w3 hvj,hlt,hp3,rfl⟩
  |true=>
   rw [RA rfl] at hp3⊢
   refine Kl (hR.E k S3 elt OL OL OM ON _ E (GX _) I5 hp3) (λz O8 zz=>?_) λe s' zz=>nt (edrop h2 zz)
   obtain ⟨OU,OR,w,h3,I6,hw,hp4⟩:=zz
   obtain ⟨K1,K2,K3,K4,K5⟩:=drop (h2.trans h3) I6
   have hlen:=a2.length
   have hsz:its.size≤Le:=by rw [<-G9,hlen];exact G2 (G2 hvj (G2 hjl X.len)) bF
   refine append_at K4 (λPr Pk Ps=>?_) hsz
   refine ⟨src.items.length-(j+1),by exact w33 hlt,OU,OR,j+1,o',vs++[w],h1.trans (h2.trans h3),K1.touch (tk:=O8.toks) K5 (λb ob n q=>(Pk.2 b n).trans q),(Pk.2 it ne).trans K2,hP',K3,⟨_,_,Ps,by rw [JE];exact (a2.up (h2.trans h3)).snoc hw,K5⟩,by rw [G7,HO];exact w22 hvj,hlt,?_,rfl⟩
   have e2:(λl=>Qc (vs++[w]++l))=λl=>Qc (vs++(w::l)):=by funext l;rw [IB];rfl
   rw [e2]
   exact hp4
end
section
variable {c:Cx} {g:GP} {fr:List Env} {wr:Str->Bool} {env:Env} {A:Kw} {hd:Bool} {D:Nat} {ρ ρ' ρ₀ OH:Rho} {st:AS} {s s':Ki} {Γ:Gam} {r:Ev} {ec:EC}
 {Q:V->AS->Prop} {E:Nat->AS->Prop} {Qb:Bool->AS->Prop} {Qu:Unit->AS->Prop} {Qf:Fl->AS->Prop} {hp hp':List O} {xs:List Addr}
theorem PN.up (h:ρ<+:OH) (x:PN c g fr wr env hd OH Qs y s'):PN c g fr wr env hd ρ Qs y s':=by
 obtain ⟨ρ',st',src,it,o,P,h1,h2,x1,x2,x3,x4,x5,x6⟩:=x
 refine ⟨ρ',st',src,it,o,P,h1,h.trans h2,?_,x2,x3,x4,x5,x6⟩
 exact x1
theorem pb (h:ew it=false):∀x,NH it env x=pure x:=by
 intro x
 cases it<;>first|rfl|exact nTF h
theorem iP (G:PJ c Γ D) (hR:PM c D hd r) (k:PR ec wr env) (S:aU c g fr hd D A) (I:Inv c g fr wr env ρ st s) (hp:eA r Γ hd ec it st Qs E):
  Kg c.M A (eval it env) (λx OG=>Kg c.M A (Mz x) (PN c g fr wr env hd ρ Qs) (PE c g fr wr env ρ E) OG) (PE c g fr wr env ρ E) s∧∀x,NH it env x=pure x:=by
 have' plain:∀e:Expr,ew e=false->(do let v <-r.E ec e;aI hd v:PT Src) st Qs E->
   Kg c.M A (eval e env) (λx OG=>Kg c.M A (Mz x) (PN c g fr wr env hd ρ Qs) (PE c g fr wr env ρ E) OG) (PE c g fr wr env ρ E) s∧∀x,NH e env x=pure x:=by
  intro e he hp
  refine ⟨Sim.go (hR.E k S e ρ) (GX _) I hp λOH OI OG y v h1 I1 hv hp=>?_,pb he⟩
  exact Kl (qw S I1 hv hp) (λ_ _ x=>PN.up h1 x) λ_ _ x=>x
 revert hp
 refine cK (λf es px he hp=>?_) λ_ hp=>?_
 ·subst he
  refine ⟨?_,λx=>rfl⟩
  have' name:∀{fv:Value} {Qx:Value->Ki->Prop} {E':Value->Ki->Prop},bM Γ ec f=some fv->Kg c.M A (LA px fv [] (La px (Ky es env)) []) Qx E' s->Kg c.M A (eval (.Call f es [] px) env) Qx E' s:=by
   intro fv Qx E' hg h
   obtain ⟨x,px',rfl,hkx,hgx⟩:=bo hg
   rw [k.kd] at hkx
   show Kg c.M A (eval (.Name x px') env>>=λf=>LA px f [] (La px (Ky es env)) []) _ _ s
   exact Ke (cr G S.ok I hkx hgx h)
  have' main:∀(T:String) (q:List V->PT Src),es.any aZ=false->(fh r ec es>>=q) st Qs E->
    (∀OH OI OG vs xs,ρ<+:OH->Inv c g fr wr env OH OI OG->PH OH vs xs->q vs OI Qs E->Kg c.M A (call (.type T) xs) (λx OG=>Kg c.M A (Mz x) (PN c g fr wr env hd ρ Qs) (PE c g fr wr env ρ E) OG) (PE c g fr wr env ρ E) OG)->
    Kg c.M A (LA px (.type T) [] (La px (Ky es env)) []) (λx OG=>Kg c.M A (Mz x) (PN c g fr wr env hd ρ Qs) (PE c g fr wr env ρ E) OG) (PE c g fr wr env ρ E) s:=by
   intro T q hs hq hc
   have hpl:=b6 (env:=env) px es (cA hs)
   refine PyProof.Rows.callWith_type hpl ?_
   induction es using Lc with
   |nil=>exact N6 (hc ρ st s [] [] (GX _) I trivial hq)
   |cons e es=>
    have':=Sim.go (eS hR k S (pos:=px) (e::es) ρ) (GX _) I hq (X:=λxs OG=>Kg c.M A (call (.type T) ([]++xs)) (λx OG=>Kg c.M A (Mz x) (PN c g fr wr env hd ρ Qs) (PE c g fr wr env ρ E) OG) (PE c g fr wr env ρ E) OG) λOH OI OG xs vs h1 I1 hv hq=>hc OH OI OG vs xs h1 I1 hv hq
    rw [aH (cA hs e (.head _))] at this⊢
    exact Mh this
  revert hp
  refine cD (λT hg=>cX (λ_ hp=>(plain (.Call f es [] px) rfl hp).1) λ_=>cX (λhT hp=>?_) λ_=>fR λhT hp=>?_) λ_=>ce λb hg=>fR λ_ hp=>(plain (.Call f es [] px) rfl hp).1
  ·subst hT
   obtain ⟨h5,_⟩:=ci hp;clear hp;rename_i hp
   refine name hg ?_
   refine main "range" _ h5 hp λOH OI OG vs xs h1 I1 hv hq=>?_
   exact ng S I1 hv hq λy s' h=>Kl h (λ_ _ x=>PN.up h1 x) λ_ _ x=>x
  subst hT
  obtain ⟨h5,_⟩:=ci hp;clear hp;rename_i hp
  refine name hg ?_
  refine main "reversed" _ h5 hp λOH OI OG vs xs h1 I1 hv=>ce λw hw hq=>?_
  subst hw
  obtain ⟨y,rfl,hy⟩:=vU hv
  exact qx S I1 hy hq λy s' h=>Kl h (λ_ _ x=>PN.up h1 x) λ_ _ x=>x
 obtain ⟨he,_⟩:=ci hp;clear hp;rename_i hp
 exact plain _ he hp
def s5 (c:Cx) (g:GP) (fr:List Env) (wr:Str->Bool) (env:Env) (ρ:Rho) (Q:V->AS->Prop) (y:Value) (C:Addr) (s':Ki):Prop:=
 Ex3 λρ' st' b=>Rp (ρ<+:ρ') (Inv c g fr wr env ρ' st' s') (PF ρ' b y) (Q b st') (P4 c g fr env ρ' C) (∃m,s'.heap.Ns C m)
theorem gA (G:PJ c Γ D) (hR:PM c D hd r) (k:PR ec wr env) (S:aU c g fr hd D A) (I:Inv c g fr wr env ρ st s)
  (hp:chk (fB ec sc x=true) (do let src <-eA r Γ hd ec it;let vs <-gw r ec sc x elt ifs src;newList vs:PT V) st Q E)
  (hnone:use=none->∀y s',PG c g fr wr env ρ PF Q y s'->Qx y s')
  (hsome:∀u,use=some u->∀y C s',s5 c g fr wr env ρ Q y C s'->Kg c.M A (u y) (λ_ s''=>∃m,s''.heap.Ns C m∧∀h',KF C s''.heap h'->Qx .none {s'' with heap:=h'}) (PE c g fr wr env ρ E) s'):
  Kg c.M A (Nl (.ListComp elt [⟨.Name x px,it,ifs,0⟩] sc pos) sc env fpos (PySem.newList []) false (eval it env) use) Qx (PE c g fr wr env ρ E) s:=by
 obtain ⟨hok,_⟩:=ci hp;clear hp;rename_i hp
 have' N:=nn k hok
 replace hp:eA r Γ hd ec it st (λsrc st'=>(do let vs <-gw r ec sc x elt ifs src;newList vs:PT V) st' Q E) E:=hp
 obtain ⟨hsrc,hfold⟩:=iP G hR k S I hp
 have' freeCell:∀n k',(n,k')∈sc.names->k'=.free->∃a,env.cells.lookup n=some a:=λn k' hn hk=>by
  subst hk
  obtain ⟨a,ha,_⟩:=I.e.cel n (N.fre n hn)
  exact ⟨a,ha⟩
 refine wpAny_comprehension_free (g:=⟨.Name x px,it,ifs,0⟩) (gs:=[]) rfl hfold (nj freeCell) N.kind (λp hp _=>by rw [N.uni p hp,‹p.2=NameKind.local›]) ?_
 refine Kl hsrc (λy OG h1=>?_) λ_ _ z=>z
 refine Kl h1 (λy OJ h2=>?_) λ_ _ z=>z
 obtain ⟨OL,OM,src,ita,o,P,rfl,h2,I2,ho,hP,X,F,hq⟩:=h2
 refine Kx (jm ?_)
 have' hlt:ita<OJ.heap.objs.size:=Kj ho
 have' I3:Inv c g fr wr env OL OM {OJ with heap:=OJ.heap.push (listOf ([]:List Value).toArray 0)}:=I2.kept (tk:=OJ.toks) λb ob q=>Kh _ q
 have' Facc:P4 c g fr env OL OJ.heap.objs.size:=I2.free (GW _)
 have' hacc:(OJ.heap.push (listOf ([]:List Value).toArray 0)).get? OJ.heap.objs.size=some (listOf ([]:List Value).toArray 0):=Kk _ rfl
 have' hfree:∀z∈[ita,OJ.heap.objs.size],P4 c g fr env OL z:=by
  intro z hz
  simp only [G0,H8,or_false] at hz
  rcases hz with rfl|rfl
  ·exact F
  exact Facc
 have' hgn:∀z∈[ita,OJ.heap.objs.size],g z=none:=λz hz=>(hfree z hz).out.1
 generalize hH:OJ.heap.push (listOf ([]:List Value).toArray 0)=H at I3 hacc
 generalize hs3:({OJ with heap:=H}:Ki)=ON at I3
 have' hs3h:ON.heap=H:=by rw [<-hs3]
 have' hCsz:OJ.heap.objs.size<ON.heap.objs.size:=by rw [hs3h];exact Kj hacc
 have' hX:=qE (cenv:={scope:=Nh sc env,locals:=ON.heap.objs.size,globals:=env.globals,cells:=L8 (ON.heap.push {cls:=.type "dict",data:=.dict #[]}).objs.size sc.names (a9 env sc.names []),qual:=env.qual,func:=none,code:=env.code,frame:=env.frame,builtins:=env.builtins}) S.ok I3 hfree N rfl
 generalize hce:({scope:=Nh sc env,locals:=ON.heap.objs.size,globals:=env.globals,cells:=L8 (ON.heap.push {cls:=.type "dict",data:=.dict #[]}).objs.size sc.names (a9 env sc.names []),qual:=env.qual,func:=none,code:=env.code,frame:=env.frame,builtins:=env.builtins}:Env)=cenv at hX
 have' hcl:cenv.locals=ON.heap.objs.size:=by rw [<-hce]
 have' hcs:cenv.scope=Nh sc env:=by rw [<-hce]
 have' hcf:cenv.frame=env.frame:=by rw [<-hce]
 have' kC:=o8 (x:=x) k I.e.kfun cenv hcs
 have' SX:aU c (gX c ON OL OM.hp [ita,OJ.heap.objs.size]) fr hd D A:=S.enterX I3.w hgn
 have' hkeep:∀b ob,ON.heap.get? b=some ob->(Lf (ON.heap.push {cls:=.type "dict",data:=.dict #[]}) sc.names).get? b=some ob:=λb ob q=>MY _ _ _ _ (Kh _ q)
 have' ho3:ON.heap.get? ita=some o:=by rw [hs3h,<-hH];exact Kh _ ho
 have' ha3:ON.heap.get? OJ.heap.objs.size=some (listOf ([]:List Value).toArray 0):=by rw [hs3h];exact hacc
 have' cellNe:∀z,z<ON.heap.objs.size->P4 c g fr env OL z->∀y a,cenv.cells.lookup y=some a->a≠z:=by
  intro z hz Fz y a ha
  have' CL:=iL sc.names (ON.heap.push {cls:=.type "dict",data:=.dict #[]}) (a9 env sc.names [])
   (λn a h=>by
    by_cases hn:(n,Kz)∈sc.names
    ·obtain ⟨a',ha'⟩:=freeCell n _ hn rfl
     rw [(bz sc.names [] n).1 hn,ha'] at h
     (replace h:=ay h;subst h)
     obtain ⟨_,oc,hoc,_⟩:=I3.e.cis n _ ha'
     rw [Kv];exact Hz (Kj hoc)
    rw [(bz sc.names [] n).2 hn] at h;exact nNS h)
   (λn m a h1 h2=>by
    by_cases hn:(n,Kz)∈sc.names
    ·by_cases hm:(m,Kz)∈sc.names
     ·obtain ⟨a',ha'⟩:=freeCell n _ hn rfl
      obtain ⟨b',hb'⟩:=freeCell m _ hm rfl
      rw [(bz sc.names [] n).1 hn,ha'] at h1
      rw [(bz sc.names [] m).1 hm,hb'] at h2
      (replace h1:=ay h1;subst h1)
      simp only [Option.getD_some,Hm.injEq] at h2
      subst h2
      exact I3.e.apart n m _ ha' hb'
     rw [(bz sc.names [] m).2 hm] at h2;exact nNS h2
    rw [(bz sc.names [] n).2 hn] at h1;exact nNS h1)
  rw [show cenv.cells=_ from by rw [<-hce]] at ha
  rcases CL.1 y a ha with q|⟨q,_⟩
  ·by_cases hn:(y,Kz)∈sc.names
   ·obtain ⟨a',ha'⟩:=freeCell y _ hn rfl
    rw [(bz sc.names [] y).1 hn,ha'] at q
    (replace q:=ay q;subst q)
    exact Fz.cell y _ ha'
   rw [(bz sc.names [] y).2 hn] at q;exact nNS q
  rw [Kv] at q
  exact HE (G5 (Hz hz) q)
 have' FX:∀z∈[ita,OJ.heap.objs.size],z<ON.heap.objs.size->P4 c (gX c ON OL OM.hp [ita,OJ.heap.objs.size]) fr cenv OL z:=λz hz hl=>
  {out:=⟨vW hz,(hfree z hz).out.2⟩,fr:=(hfree z hz).fr,loc:=by rw [hcl];exact Hb hl,cell:=cellNe z hl (hfree z hz),low:=(hfree z hz).low}
 have' hit3:ita<ON.heap.objs.size:=Kj ho3
 have' FC:P4 c g fr env OL ON.heap.objs.size:=I3.free (GW _)
 have' hne:ita≠OJ.heap.objs.size:=Hb hlt
 have' hxk:(cenv.kindOf x=some .local∨cenv.kindOf x=some .cell)∧wrC sc x=true:=by
  refine ⟨?_,?_⟩
  ·show cenv.scope.names.lookup x=_∨cenv.scope.names.lookup x=_
   rw [hcs,d5]
   rcases N.var with h|h<;>(rw [h];simp)
  unfold wrC
  rcases N.var with h|h<;>(rw [h];simp)
 have' hC0:gM src.G (iO r (ec.comp sc) x elt ifs) src.items ⟨OM.hp,lx sc OM.vars⟩ (λvs st'=>newList vs ⟨st'.hp,OM.vars⟩ Q E) (λC st'=>E C ⟨st'.hp,OM.vars⟩):=hq
 have' L:=o9 (E:=λC st'=>E C ⟨st'.hp,OM.vars⟩) (Qc:=λvs st'=>newList vs ⟨st'.hp,OM.vars⟩ Q E) (elt:=elt) (iter:=it) (px:=px) (pos:=pos) (sc:=sc) hR kC SX X hxk hne
  (s:={ON with heap:=Lf (ON.heap.push {cls:=.type "dict",data:=.dict #[]}) sc.names}) (n:=src.items.length)
  ⟨OL,_,0,o,[],GX _,hX,hkeep _ _ ho3,hP,FX ita (.head _) hit3,⟨_,_,hkeep _ _ ha3,trivial,FX _ (.tail _ (.head _)) hCsz⟩,GW _,HK _,hC0,rfl⟩
 have' outer:∀{ρ' st' s'},OL<+:ρ'->Inv c (gX c ON OL OM.hp [ita,OJ.heap.objs.size]) fr (wrC sc) cenv ρ' st' s'->Inv c g fr wr env ρ' ⟨st'.hp,OM.vars⟩ s'∧(∃m,s'.heap.Ns ON.heap.objs.size m)∧P4 c g fr env ρ' ON.heap.objs.size:=by
  intro ρ' st' s' h3 J
  refine ⟨I3.backX hfree h3 J.w,?_,{FC with out:=⟨FC.out.1,?_⟩}⟩
  ·obtain ⟨m,hm,_⟩:=J.e.ns
   exact ⟨m,hcl▸hm⟩
  rw [<-hcl];exact J.e.lno
 have' fin:Ly c.M A (.compStart (.ListComp elt [⟨.Name x px,it,ifs,0⟩] sc pos) 0 (.ref ita) (.ref OJ.heap.objs.size) cenv) (compPost c.M A (PE c g fr wr env ρ E) use Qx (.ref OJ.heap.objs.size) ON.heap.objs.size) {ON with heap:=Lf (ON.heap.push {cls:=.type "dict",data:=.dict #[]}) sc.names}:=by
  have' L':=KO (R':=compPost c.M A (PE c g fr wr env ρ E) use Qx (.ref OJ.heap.objs.size) ON.heap.objs.size) L λrr s' h=>?_
  ·exact codeAny_compStart_list L' (X.iter (hkeep _ _ ho3) hP L')
  induction rr with
  |ok f=>
   obtain ⟨ρ',st',vs,h3,J,⟨its,n,a1,a2,a3⟩,hQ⟩:=h
   obtain ⟨J1,hNs,J3⟩:=outer h3 J
   have' Fa:P4 c g fr env ρ' OJ.heap.objs.size:={Facc with out:=⟨Facc.out.1,a3.out.2⟩}
   obtain ⟨hz,hQ⟩:=hQ
   induction use with
   |none=>
    obtain ⟨m,hm⟩:=hNs
    refine ⟨m,hm,λh' hs=>hnone rfl _ _ ?_⟩
    have' J2:Inv c g fr wr env ρ' ⟨st'.hp,OM.vars⟩ {s' with heap:=h'}:=J1.touch (tk:=s'.toks) J3 λb ob n q=>(hs.2 b n).trans q
    have' ga:h'.get? OJ.heap.objs.size=some (listOf its n):=(hs.2 _ (Hb hCsz)).trans a1
    exact ⟨_,_,.obj st'.hp.length,h2.trans (h3.trans (GV ..)),J2.adopt (o:=.list vs) Fa ⟨its,n,ga,a2.up (GV ..)⟩ (λ_ _ e=>by exact oNe e rfl) rfl,⟨(OJ.heap.objs.size,OJ.heap.objs.size),by rw [<-J.w.rep.len];simp,rfl⟩,hQ⟩
   |some u=>
    refine hsome u rfl _ _ _ ?_
    have' K:=J1.adopt (o:=.list vs) Fa ⟨its,n,a1,a2.up (GV ..)⟩ (λ_ _ e=>by exact oNe e rfl) rfl
    refine ⟨_,_,.obj st'.hp.length,h2.trans (h3.trans (GV ..)),K,⟨(OJ.heap.objs.size,OJ.heap.objs.size),by rw [<-J.w.rep.len];simp,rfl⟩,hQ,{J3 with out:=⟨J3.out.1,λi p hp=>?_⟩},hNs⟩
    by_cases hi:i<ρ'.length
    ·rw [Ha hi] at hp;exact J3.out.2 i p hp
    rw [Hh (GU hi)] at hp
    induction hq:i-ρ'.length using Hn with
    |zero=>
     rw [hq] at hp;(replace hp:=ay hp;subst hp)
     exact ⟨Hb hCsz,Hb hCsz⟩
    |succ n=>rw [hq] at hp;exact nNS hp
  |error e=>
   obtain ⟨ρ',st',C,L,h3,J,hL,hx,hE⟩:=h
   obtain ⟨J1,⟨m,hm⟩,J3⟩:=outer h3 J
   have' main:∃m,s'.heap.Ns ON.heap.objs.size m∧∀h',KF ON.heap.objs.size s'.heap h'->∀cenv:Env,cenv.locals=ON.heap.objs.size->Kg c.M A (PySem.passOn "comprehension.variables-let-go" e cenv:Sem Value) (λ_ _=>False) (PE c g fr wr env ρ E) {s' with heap:=h'}:=by
    refine ⟨m,hm,λh' hs cenv' _=>?_⟩
    have' J2:Inv c g fr wr env ρ' ⟨st'.hp,OM.vars⟩ {s' with heap:=h'}:=J1.touch (tk:=s'.toks) J3 λb ob n q=>(hs.2 b n).trans q
    have' nf:∀a (oa:Obj) (va:Array Value),s'.heap.get? a=some oa->oa.data=.fields va->a≠ON.heap.objs.size:=λa oa va q1 q2 e=>by
     obtain ⟨oL,_,_,q3,q4,_⟩:=hm
     rw [<-e,q1] at q3;(replace q3:=ay q3;subst q3)
     rw [q2] at q4;cases q4
    have' hx':Qg c g ρ' L C e h':=by
     obtain ⟨a,oe,va,T,oT,ts,q1,q2,q3,q4,q5,q6,q7,q8,q9,q10,q11,q12,q13,q14⟩:=hx
     exact ⟨a,oe,va,T,oT,ts,q1,(hs.2 a (nf a oe va q2 q4)).trans q2,q3,q4,q5,q6.backX I3.w hgn,q7,q8,q9,(hs.2 T (nf T oT ts q10 q11)).trans q10,q11,q12,q13.backX I3.w hgn,q14⟩
    refine o6 (Qx:=λ_ _=>False) J2 hx' λh'' J4 hx''=>⟨ρ',_,C,h2.trans h3,J4,hx''.any,hE⟩
   cases use<;>exact main
 have' ex:({cenv with scope:=Nh sc env}:Env)=cenv:=by rw [<-hce]
 subst hs3
 subst hH
 exact fin
end
section
variable {prog:Lb} {w:Lw} {A:Kw} {E:Value->Ki->Prop} {s:Ki} {T:String} {r d:Addr} {n:Nat} {P:Nat->Value->Prop} {OK:Heap->Prop}
theorem jn (K:KdlSrc prog w T r d n P OK) (hn:n≤Le):
  MeetsIn prog w (KV.«tuple.__new__» ⟨[.type "tuple",.ref r],[]⟩)
   (λA R s=>A.handled=none∧OK s.heap∧∀(h':Heap) (tk:Nat) (acc:Array Value),(∀b o,s.heap.get? b=some o->h'.get? b=some o)->Om P acc n->R (.ok (.ret (.ref h'.objs.size))) {s with heap:=h'.push {cls:=.type "tuple",data:=.seq acc},toks:=tk}):=
 .of_wp λA R s h=>by
  obtain ⟨hp,g,d,tk,os⟩:=s;obtain ⟨hh,ht,h⟩:=h
  have hsub:=sub_tuple_self
  have hinit:=init_tuple_lookup
  have hmh:=madeHere_tuple
  replace hT:Mv ⟨hp,g,d,tk,os⟩ (.ref r) T:=K.type _ ht
  obtain ⟨o,ho,hc⟩:=hT
  have hT:Mv ⟨hp,g,d,tk,os⟩ (.ref r) T:=⟨o,ho,hc⟩
  have hnt:=K.notTuple
  wp_walk using wpAny_loadPart' ho,Mb hT,kdu_collect (A:=A.in1) K hh ht hn
  intro h' tk acc hk hI
  refine Ke (Kf ?_)
  show Kg _ _ (Lz acc.toList.toArray>>=λv=>ret v) _ _ _
  unfold Lz
  refine Ke (Kx ?_ (by show acc.toList.toArray.size≤Le;simpa [hI.1] using hn))
  refine Kf ⟨_,rfl,?_⟩
  have e:acc.toList.toArray=acc:=by simp
  rw [e]
  exact h h' tk acc hk hI
theorem kA (K:KdlSrc prog w T r d n P OK) (hn:n≤Le) (hh:A.handled=none) (ok:OK s.heap)
  (h:∀(h':Heap) (tk:Nat) (acc:Array Value),(∀b o,s.heap.get? b=some o->h'.get? b=some o)->Om P acc n->Qv (.ref h'.objs.size) {s with heap:=h'.push {cls:=.type "tuple",data:=.seq acc},toks:=tk}):
  Kg (Ku prog w) A (call (.type "tuple") [.ref r]) Qv E s:=
 callType_newIn PySem.F.called_tuple (!3) (PySem.F.typeCall_tuple_1 _) (PySem.F.newCall_tuple_1 _) (λobj=>PySem.F.args_object_init_2 obj _) PySem.F.entry_tuple_new
  (jn K hn) ⟨hh,ok,λh' tk acc hk hI=>⟨⟨_,Kk _ rfl,rfl⟩,h h' tk acc hk hI⟩⟩
end
section
variable {c:Cx} {g:GP} {fr:List Env} {wr:Str->Bool} {env:Env} {A:Kw} {hd:Bool} {D:Nat} {ρ ρ' ρ₀ OH:Rho} {st:AS} {s s':Ki} {Γ:Gam} {r:Ev} {ec:EC}
theorem nq (h:aZ e=false):∀x∈[e],aZ x=false:=λx hx=>by
 rw [GY.mp hx];exact h
theorem d6 (hf:(∃id,f=.builtin id)∨∃T,f=.type T) (hs:aZ e=false)
  (h:Kg c.M A (eval e env) (λv s1=>Kg c.M A (call f [v]) Q E s1) E s):
  Kg c.M A (LA pos f [] (La pos (Ky [e] env)) []) Q E s:=by
 have' hpl:=b6 (env:=env) pos [e] (nq hs)
 have' main:Kg c.M A (evalArgs f true (La pos (Ky [e] env)) []) (λa OG=>a.kw=[]∧Kg c.M A (call f ([]++a.pos) a.kw) Q E OG) E s:=by
  have':=Mw (pos:=pos) (Q:=λxs OG=>([]:List (Str×Value))=[]∧Kg c.M A (call f ([]++xs) []) Q E OG) (rest:=[])
   (Kl h (λv OG x=>NE ⟨rfl,x⟩) λ_ _ x=>x) (aH (rest:=[]) hs)
  rw [aH hs] at this⊢
  exact Mh this
 rcases hf with ⟨id,rfl⟩|⟨T,rfl⟩
 ·exact Lo hpl (Kl main (λa OG x=>x.2) λ_ _ x=>x)
 exact PyProof.Rows.callWith_type hpl (Kl main (λa OG x=>x.2) λ_ _ x=>x)
theorem pc (G:PJ c Γ D) (hR:PM c D hd r) (k:PR ec wr env) (S:aU c g fr hd D A) (hg:bM Γ ec f=some (.type "tuple")):
  Sim c g fr wr env A ρ₀ (eval (.Call f [.Call (.Attribute e (Kp "values") ap) [] [] q] [] p) env) (chk (dK e=true∧(ap.endLine==q.line)=true) (do let v <-r.E ec e;dZ hd v)) PF:=by
 intro ρ st s Q E h0 I hp
 replace hp:=ci hp
 obtain ⟨⟨h1,h2⟩,hp⟩:=hp
 obtain ⟨x,px,rfl,hkx,hgx⟩:=bo hg
 rw [k.kd] at hkx
 show Kg c.M A (eval (.Name x px) env>>=λf=>LA p f [] (La p (Ky [.Call (.Attribute e (Kp "values") ap) [] [] q] env)) []) _ _ s
 refine Ke (cr G S.ok I hkx hgx ?_)
 refine d6 (.inr ⟨_,rfl⟩) rfl ?_
 show Kg c.M A (Nm e (Kp "values") env (eval e env)>>=λov=>Me ap.atName>>=λ_=>MU e (Kp "values") ap q env ov (0+0) (La q (Ky [] env)) []) _ _ s
 rw [bd h1]
 refine Ke (Sim.go (hR.E k S e ρ₀) h0 I hp λOH OI OG y v OO I1 hv hp=>?_)
 refine Ke (Kq ?_)
 unfold dZ at hp
 obtain ⟨hh,hp⟩:=hp
 replace hp:=aB hp
 obtain ⟨i,o,rfl,ho,hp⟩:=hp
 obtain ⟨d,hρ,rfl,rr⟩:=PF.get I1 hv ho
 dsimp only at hp
 induction o with
 |dict ep kv=>
  obtain ⟨rfl,hq⟩:=hp
  obtain ⟨kvs,hA,h3⟩:=rr
  have hk0:kvs=[]:=by induction kvs using Lc with|nil=>rfl|cons _ _=>exact h3.elim
  subst hk0
  have hDo:=hA.dictOf
  have hform:MA (0+0) (La q (Ky [] env)) []=true:=rfl
  have hpos:LX true e env ap q=pure q:=by unfold LX;simp [h2]
  have lo:=dj S.ok (I1.w.rep.low hρ ho rfl).1
  unfold MU
  rw [hform]
  refine Ke (Km (Mf hDo.typeIs PySem.F.plainAttrs_dict PySem.F.slot_dict_values PySem.F.type_dict_values hDo.mapOf.noDict ?_))
  refine Ke (Ll hpos ?_)
  refine Lo rfl (N6 ?_)
  refine MV PySem.F.slot_dict_values hDo.typeIs PySem.F.entry_dict_values (PySem.F.args_dict_values_1 _) (meets_dict_values (KU c.prog c.w) d.1 lo) ⟨⟨[],hDo⟩,?_⟩
  refine kA (K:=kdl_values (knd:=KU c.prog c.w) (d:=d.1) (r:=OG.heap.objs.size) (kvs:=[]) (ep:=ep)) (HK _) (S.hnone hh) ⟨⟨_,Kk _ rfl,rfl,rfl⟩,hA.push _⟩ λh' tk acc hk hI=>?_
  have I2:Inv c g fr wr env OH OI {OG with heap:=h',toks:=tk}:=I1.kept λb o e=>hk _ _ (Kh _ e)
  have h0':acc=#[]:=by have:=hI.1;exact Array.eq_empty_of_size_eq_zero this
  subst h0'
  have hz:cu ([]:List V) OI Q E:=hq
  exact PG.up OO (PG.push (s:={OG with heap:=h',toks:=tk}) I2 (o:=.tup []) (tk:=tk) rfl (λ_ _ e=>by exact oNe e rfl) ⟨#[],0,Kk _ rfl,trivial⟩ hz.2)
 |_=>exact hp.elim
end
namespace FF
theorem slot_filter_next:Slot "filter" "__next__" "filter.__next__":=
 .of (owner:="filter") (n:="__next__") (by rw [Lk,KR];kernel_rfl) (by decide+kernel) (by decide+kernel) (by decide+kernel)
  (by first|exact .inl (by decide+kernel)|exact .inr (by decide+kernel)) (by rw [Lr];kernel_rfl)
theorem slot_filter_iter:Slot "filter" "__iter__" "filter.__iter__":=
 .of (owner:="filter") (n:="__iter__") (by rw [Lk,KR];kernel_rfl) (by decide+kernel) (by decide+kernel) (by decide+kernel)
  (by first|exact .inl (by decide+kernel)|exact .inr (by decide+kernel)) (by rw [Lr];kernel_rfl)
theorem gB:Slot "filter" "__init__" "object.__init__":=
 .of (owner:="object") (n:="__init__") (by rw [Lk,KR];kernel_rfl) (by decide+kernel) (by decide+kernel) (by decide+kernel)
  (by first|exact .inl (by decide+kernel)|exact .inr (by decide+kernel)) (by rw [Lr];kernel_rfl)
theorem fV:Manifest.owners.lookup (String.ofList ['r','e','t','l','i','f'].reverse)=some Manifest.sig_filter:=!0
theorem args_filter_next_1 (a:Value):NN "filter.__next__" ⟨[a],[]⟩:=by
 unfold NN;rw [Nk (id:="filter.__next__") (n:=['_','_','t','x','e','n','_','_']) (o:=['r','e','t','l','i','f']) (!0) fV];kernel_rfl
theorem args_filter_iter_1 (a:Value):NN "filter.__iter__" ⟨[a],[]⟩:=by
 unfold NN;rw [Nk (id:="filter.__iter__") (n:=['_','_','r','e','t','i','_','_']) (o:=['r','e','t','l','i','f']) (!0) fV];kernel_rfl
theorem entry_filter_next:MP Oa "filter.__next__"=some KV.«filter.__next__»:=MO !0
theorem entry_filter_iter:MP Oa "filter.__iter__"=some KV.«dict_keyiterator.__iter__»:=
 Nf (id':="dict_keyiterator.__iter__") (!0) (by first|rfl|decide+kernel|(unfold String.splitOn;simp+decide [String.splitOnAux])) (by decide+kernel) !0
theorem iQ:mroOf (.type "filter")=pure [.type "filter",.type "object"]:=by rw [mroOf_type];kernel_rfl
theorem fW:MT (.type "filter") "__new__"=pure (some (.builtin "filter.__new__")):=by rw [Lk,KR];kernel_rfl
theorem called_filter:TypeCalled "filter" "filter.__new__" "object.__init__":=
 ⟨by decide+kernel,by decide+kernel,⟨_,_,iQ⟩,madeBy_type iQ fW (by decide+kernel),by decide+kernel,by rw [Lr];kernel_rfl,gB⟩
theorem typeCall_filter_2 (a b:Value):checkTypeCall "filter" ⟨[a,b],[]⟩=pure ():=!0
theorem newCall_filter_2 (a b:Value):NM "filter.__new__" ⟨[.type "filter",a,b],[]⟩=pure ():=!0
theorem entry_filter_new:MP Oa "filter.__new__"=some KV.«filter.__new__»:=MO !0
theorem sub_filter:isSubtype (.type "filter") (.type "filter")=pure true:=by rw [Lr];kernel_rfl
theorem plain_filter_next:plainId "filter.__next__"=true:=by decide+kernel
theorem no_len:MT (.type "filter") "__len__"=pure none:=by rw [Lk,KR];kernel_rfl
theorem no_hint:MT (.type "filter") "__length_hint__"=pure none:=by rw [Lk,KR];kernel_rfl
end FF
abbrev gC (h:Heap) (z it:Addr):Prop:=h.get? z=some {cls:=.type "filter",dict:=none,data:=.fields #[.none,.ref it],slots:=#[]}
section
variable {prog:Lb} {w:Lw} {A:Kw} {E:Value->Ki->Prop} {s:Ki}
theorem iR (hit:s.heap.IsListIter it l i) (hl:s.heap.IsList l items) (hx:items[i]?=some x)
  (hQ:∀h',h'.IsListIter it l (i+1)->KF it s.heap h'->Q (some x) {s with heap:=h'}):
  Kg (Ku prog w) A (callSpecial? (.ref it) (Kp "__next__")) Q E s:=by
 obtain ⟨o,ho,hc,hd⟩:=id hit
 obtain ⟨ol,hol,_,nl,hdl⟩:=hl
 refine KD (name:=Kp "__next__") hit.typeIs My (KC My hit.typeIs entry_listiter_next ?_ (args_listiter_next _))
 show Kg _ _ (field (.ref it) 0>>=_) _ _ s
 refine Ke (KA ho hd (x:=.ref l) rfl ?_)
 show Kg _ _ (if (KI l==Kr)=true then _ else _) _ _ s
 rw [Rz (show ¬((KI l==Kr)=true) from HG)]
 show Kg _ _ (field (.ref it) 1>>=_) _ _ s
 refine Ke (KA ho hd (x:=.int i 0) rfl ?_)
 show Kg _ _ (seqItems? (.ref l)>>=_) _ _ s
 refine Ke (Mx hol hdl ?_)
 simp only [HB,hx]
 refine Ke (Li ho hd (by simp) (Kf ⟨x,rfl,hQ _ ?_ (Ks ..)⟩))
 exact ⟨_,Kn _ ho (KQ (KN hd _)),(LY ..).trans hc,by rw [KN hd];simp [Lx]⟩
theorem jo (hh:A.handled=none) (hit:s.heap.IsListIter it l i) (hl:s.heap.IsList l items) (hx:items[i]?=none)
  (hE:∀h' e,Nw it s.heap h'->(∃o,h'.get? e=some o∧o.cls=.type "StopIteration")->E (.ref e) {s with heap:=h'}):
  Kg (Ku prog w) A (callSpecial? (.ref it) (Kp "__next__")) Q E s:=by
 obtain ⟨o,ho,hc,hd⟩:=id hit
 obtain ⟨ol,hol,_,nl,hdl⟩:=hl
 refine KD (name:=Kp "__next__") hit.typeIs My (KC My hit.typeIs entry_listiter_next ?_ (args_listiter_next _))
 show Kg _ _ (field (.ref it) 0>>=_) _ _ s
 refine Ke (KA ho hd (x:=.ref l) rfl ?_)
 show Kg _ _ (if (KI l==Kr)=true then _ else _) _ _ s
 rw [Rz (show ¬((KI l==Kr)=true) from HG)]
 show Kg _ _ (field (.ref it) 1>>=_) _ _ s
 refine Ke (KA ho hd (x:=.int i 0) rfl ?_)
 show Kg _ _ (seqItems? (.ref l)>>=_) _ _ s
 refine Ke (Mx hol hdl ?_)
 simp only [HB,hx]
 refine Ke (LH (Ke (Li ho hd (by simp) ?_)))
 show Kg _ _ (OB (.type "StopIteration") []>>=_) _ _ _
 refine Ke ?_
 simp only [OB,newTuple]
 refine Ke (Kx ?_ (by size_fits))
 refine Ke (m:=Mg _ _) (Ll (a:=Kr) (by first|rfl|(simp only [Mg];rfl)) ?_)
 refine Kx ?_ (by size_fits)
 unfold NF
 refine Ke (N3 ?_)
 rw [show A.in1.handled=none from hh]
 refine Ke (Kf (ME ?_))
 exact hE _ _ (((Ks ..).extBut.push _).push _) ⟨_,Kk _ rfl,rfl⟩
theorem pd {α:Type} {tr:α->Bool} {items:Array α} {i:Nat} {x:α} (hx:items[i]?=some x):(items.toList.take (i+1)).filter tr=(items.toList.take i).filter tr++if tr x then [x] else []:=by
 have h:items.toList[i]?=some x:=by rw [He];exact hx
 rw [List.take_add_one,h,IG]
 show _++List.filter tr [x]=_
 cases hb:tr x<;>simp [hb]
theorem pe {z it l:Addr} {items:Array Value} {tr:Value->Bool} {OK:Heap->Prop} (hh:A.handled=none)
  (okk:∀h h',OK h->(∀b o,b≠it->h.get? b=some o->h'.get? b=some o)->OK h') (okf:∀h,OK h->gC h z it) (okl:∀h,OK h->h.IsList l items)
  (okt:∀{A:Kw} {Q:Bool->Ki->Prop} {E:Value->Ki->Prop} {s:Ki} {v:Value},OK s.heap->v∈items.toList->(∀t,Q (tr v) {s with toks:=t})->Kg (Ku prog w) A (Ms v) Q E s):
  ∀(n i:Nat) (s:Ki) (R:Result->Ki->Prop),items.size-i=n->i≤items.size->OK s.heap->s.heap.IsListIter it l i->
   (∀v h' t j,j≤items.size->(items.toList.take j).filter tr=(items.toList.take i).filter tr++[v]->h'.IsListIter it l j->(∀b o,b≠it->s.heap.get? b=some o->h'.get? b=some o)->R (.ok (.ret v)) {s with heap:=h',toks:=t})->
   (items.toList.filter tr=(items.toList.take i).filter tr->∀h' e t,(∀b o,b≠it->s.heap.get? b=some o->h'.get? b=some o)->(∃o,h'.get? e=some o∧o.cls=.type "StopIteration")->R (.error (.ref e)) {s with heap:=h',toks:=t})->
   Kg (Ku prog w) A.in1 (KV.«filter.__next__» ⟨[.ref z],[]⟩) (λfin s'=>match fin with|.done f=>R (.ok f) s'|.again c'=>c'.quiet=true∧Ly (Ku prog w) A c' R s') (λe s'=>R (.error e) s') s:=by
 intro n
 induction n with
 |zero=>
  intro i s R hn hi ok hit hR hE
  have hx:items[i]?=none:=Jd (w58 hn)
  show Kg _ A.in1 (field (.ref z) 0>>=_) _ _ s
  refine Ke (KA (okf _ ok) rfl (x:=.none) rfl ?_)
  show Kg _ A.in1 (field (.ref z) 1>>=_) _ _ s
  refine Ke (KA (okf _ ok) rfl (x:=.ref it) rfl ?_)
  refine Ke (jo (show A.in1.handled=none from hh) hit (okl _ ok) hx λh' e he hs=>?_)
  refine hE ?_ h' e s.toks he hs
  rw [List.take_of_length_le (by rw [G9];exact w58 hn)]
 |succ n ih=>
  intro i s R hn hi ok hit hR hE
  have' hlt:i<items.size:=w28 hn
  have' hx:items[i]?=some items[i]:=by simp [hlt]
  generalize items[i]=x at hx
  have hm:x∈items.toList:=by
   have:items.toList[i]?=some x:=by rw [He];exact hx
   exact HV this
  have hN:=pd (tr:=tr) hx
  show Kg _ A.in1 (field (.ref z) 0>>=_) _ _ s
  refine Ke (KA (okf _ ok) rfl (x:=.none) rfl ?_)
  show Kg _ A.in1 (field (.ref z) 1>>=_) _ _ s
  refine Ke (KA (okf _ ok) rfl (x:=.ref it) rfl ?_)
  refine Ke (iR hit (okl _ ok) hx λOQ Pl O3=>?_)
  have' O4:∀b o,b≠it->s.heap.get? b=some o->OQ.get? b=some o:=λb o hb e=>O3.extBut b o hb e
  have Pm:=okk _ _ ok O4
  refine Ke (Km ?_)
  show Kg _ A.in1 (rule "filter.__next__.own-truth">>=λ_=>Ms x) _ _ _
  refine Ke (LH (okt (s:={s with heap:=OQ}) Pm hm λt=>?_))
  induction hb:tr x with
  |true=>
   rw [hb] at hN
   exact Kf (hR x OQ t (i+1) (w19 hlt) hN Pl O4)
  |false=>
   rw [hb] at hN
   have' hN':(items.toList.take (i+1)).filter tr=(items.toList.take i).filter tr:=by rw [hN];simp
   refine Kf ⟨LB FF.plain_filter_next _,KG FF.entry_filter_next ?_⟩
   rw [KL FF.plain_filter_next _]
   refine ih (i+1) {s with heap:=OQ,toks:=t} R (w27 hn) (w19 hlt) Pm Pl (λv h' t' j hj hf hit' k'=>?_) λhf h' e t' k' hs'=>?_
   ·exact hR v h' t' j hj (by rw [hf,hN']) hit' λb o hb e=>k' b o hb (O4 b o hb e)
   exact hE (by rw [hf,hN']) h' e t' (λb o hb e=>k' b o hb (O4 b o hb e)) hs'
end
section
variable {prog:Lb} {w:Lw} {A:Kw} {E:Value->Ki->Prop} {s:Ki}
def FOK (OW:Heap) (N:Nat) (z it:Addr) (h:Heap):Prop:=(∀b o,b<N->OW.get? b=some o->h.get? b=some o)∧gC h z it
theorem pf (hz:gC s.heap z it) (h:Q (.ref z) s):Kg (Ku prog w) A (Mz (.ref z)) Q E s:=by
 have hT:s.TypeIs (.ref z) "filter":=⟨_,hz,rfl⟩
 refine NA hT FF.slot_filter_iter (KC FF.slot_filter_iter hT FF.entry_filter_iter ?_ (FF.args_filter_iter_1 _))
 show Kg _ _ (ret (.ref z)) _ _ s
 exact Kf ⟨_,rfl,"filter",_,hT,FF.slot_filter_next.lookup,h⟩
theorem qG {α:Type} {tr:α->Bool} {l:List α} {k j:Nat} {v:α} (hk:((l.take j).filter tr).length=k+1) (h:∃a,(l.take j).filter tr=a++[v]∧a.length=k):(l.filter tr)[k]?=some v:=by
 obtain ⟨a,e,ha⟩:=h
 have:l.filter tr=a++v::(l.drop j).filter tr:=by
  conv=>lhs;rw [<-List.take_append_drop j l]
  rw [IG,e,IB];rfl
 rw [this,<-ha];simp
theorem iS {z it l:Addr} {items:Array Value} {tr:Value->Bool} {OK:Heap->Prop}
  (okk:∀h h',OK h->(∀b o,b≠it->h.get? b=some o->h'.get? b=some o)->OK h') (okf:∀h,OK h->gC h z it) (okl:∀h,OK h->h.IsList l items)
  (okt:∀{A:Kw} {Q:Bool->Ki->Prop} {E:Value->Ki->Prop} {s:Ki} {v:Value},OK s.heap->v∈items.toList->(∀t,Q (tr v) {s with toks:=t})->Kg (Ku prog w) A (Ms v) Q E s):
  MeetsIn prog w (KV.«filter.__next__» ⟨[.ref z],[]⟩) (λA R s=>A.handled=none∧∃i,Q6 (i≤items.size) (OK s.heap) (s.heap.IsListIter it l i) ((∀v h' t j,j≤items.size->(items.toList.take j).filter tr=(items.toList.take i).filter tr++[v]->h'.IsListIter it l j->(∀b o,b≠it->s.heap.get? b=some o->h'.get? b=some o)->R (.ok (.ret v)) {s with heap:=h',toks:=t})) ((items.toList.filter tr=(items.toList.take i).filter tr->∀h' e t,(∀b o,b≠it->s.heap.get? b=some o->h'.get? b=some o)->(∃o,h'.get? e=some o∧o.cls=.type "StopIteration")->R (.error (.ref e)) {s with heap:=h',toks:=t}))):=
 λA R s ⟨hh,i,hi,ok,hit,h1,h2⟩=>pe hh okk okf okl okt _ i s R rfl hi ok hit h1 h2
theorem Walks.filt {z it l:Addr} {items:Array Value} {tr:Value->Bool} {OW:Heap} {N:Nat} (hh:A.handled=none) (hz:z≠it) (hit:N≤it) (hl:l<N) (hL:OW.IsList l items)
  (okt:∀{A:Kw} {Q:Bool->Ki->Prop} {E:Value->Ki->Prop} {s:Ki} {v:Value},(∀b o,b<N->OW.get? b=some o->s.heap.get? b=some o)->v∈items.toList->(∀t,Q (tr v) {s with toks:=t})->Kg (Ku prog w) A (Ms v) Q E s):
  Walks prog w A z (z::it::Hf N) [it] (items.toList.filter tr).length (λi v=>(items.toList.filter tr)[i]?=some v)
   (λk h=>FOK OW N z it h∧∃j,P8 (j≤items.size) (((items.toList.take j).filter tr).length=k) (h.IsListIter it l j)) where
 sub:=λb hb=>by rw [GY.mp hb];exact .tail _ (.head _)
 frame:=λi h h' st hk=>by
  obtain ⟨⟨a,b⟩,j,c,d,e⟩:=st
  exact ⟨⟨λx o hx e=>hk x (.tail _ (.tail _ (H9.mpr hx))) o (a x o hx e),hk z (.head _) _ b⟩,j,c,d,e.at λo e=>hk it (.tail _ (.head _)) o e⟩
 item:=λk s Q E hk st hQ=>by
  obtain ⟨ok,j,hj,hjk,hit'⟩:=st
  have okf:∀h,FOK OW N z it h->gC h z it:=λh x=>x.2
  have hT:s.TypeIs (.ref z) "filter":=⟨_,ok.2,rfl⟩
  unfold Mm
  refine Ke (MN (KD (name:=Kp "__next__") hT FF.slot_filter_next ?_))
  refine MV FF.slot_filter_next hT FF.entry_filter_next (FF.args_filter_next_1 _) (iS (tr:=tr) (OK:=FOK OW N z it) (λh h' x y=>⟨λb o hb e=>y b o (Hb (G5 hb hit)) (x.1 b o hb e),y z _ hz x.2⟩) okf (λh x=>hL.at λo e=>x.1 l o hl e)
   (λx y z=>okt x.1 y z)) ⟨hh,j,hj,ok,hit',λv h' t j' hj' hf hi' k'=>?_,λhf h' e t k' hs'=>?_⟩
  ·refine Kf (hQ v h' t (qG (j:=j') (by rw [hf,G7,hjk];rfl) ⟨_,hf,hjk⟩) ⟨⟨λb o hb e=>k' b o (Hb (G5 hb hit)) (ok.1 b o hb e),k' z _ hz ok.2⟩,j',hj',by rw [hf,G7,hjk];rfl,hi'⟩ λb o hb e=>k' b o (λx=>hb (x▸.head _)) e)
  rw [hf,hjk] at hk;exact absurd hk (Hl _)
 done:=λs Q E st hQ=>by
  obtain ⟨ok,j,hj,hjk,hit'⟩:=st
  have okf:∀h,FOK OW N z it h->gC h z it:=λh x=>x.2
  have hT:s.TypeIs (.ref z) "filter":=⟨_,ok.2,rfl⟩
  unfold Mm
  refine Ke (MN (KD (name:=Kp "__next__") hT FF.slot_filter_next ?_))
  refine MV FF.slot_filter_next hT FF.entry_filter_next (FF.args_filter_next_1 _) (iS (tr:=tr) (OK:=FOK OW N z it) (λh h' x y=>⟨λb o hb e=>y b o (Hb (G5 hb hit)) (x.1 b o hb e),y z _ hz x.2⟩) okf (λh x=>hL.at λo e=>x.1 l o hl e)
   (λx y z=>okt x.1 y z)) ⟨hh,j,hj,ok,hit',λv h' t j' hj' hf hi' k'=>?_,λhf h' e t k' hs'=>?_⟩
  ·have h1:((items.toList.take j').filter tr).length=((items.toList.filter tr).length+1):=by rw [hf,G7,hjk];rfl
   have' h2:((items.toList.take j').filter tr).length≤(items.toList.filter tr).length:=((List.take_sublist j' items.toList).filter tr).length_le
   rw [h1] at h2;exact absurd h2 (Nat.not_succ_le_self _)
  obtain ⟨o,ho,hc⟩:=hs'
  refine Ke (LQ (T:="StopIteration") (b:=true) ⟨o,ho,hc⟩ NZ ?_)
  exact Kf (hQ h' t λb o hb e=>k' b o (λx=>hb (x▸.head _)) e)
 self:=λi s Q E st h=>pf st.1.2 h
end
section
variable {prog:Lb} {w:Lw} {A:Kw} {E:Value->Ki->Prop} {s:Ki} {I:Addr} {fp wr:List Addr} {n:Nat} {P:Nat->Value->Prop} {St:Nat->Heap->Prop}
theorem ph (hT:s.TypeIs (.ref r) "filter") (h:Q true s):Kg (Ku prog w) A (Lm (.ref r)) Q E s:=by
 unfold Lm
 refine Ke (MX hT FF.no_len ?_)
 show Kg _ A (specialOf (KI r) (Kp "__length_hint__")>>=_) _ _ _
 exact Ke (MX hT FF.no_hint (Kf h))
theorem lJ (W:Walks prog w A.in1 I fp wr n P St) (hT:∀i h,St i h->∃o,h.get? I=some o∧o.cls=.type "filter") (S:Addr) (res:Value) (Pt:Nat) (hst:St 0 s.heap) (hSf:S∉fp) (hI:I∈fp) (hn:n≤Le)
  (hS:s.heap.get? S=some {cls:=.type "list",data:=.seq #[] Pt})
  (hR:∀h' tk acc' c',(∀b o,b≠S->b∉wr->s.heap.get? b=some o->h'.get? b=some o)->h'.get? S=some {cls:=.type "list",dict:=none,data:=.seq acc' c',slots:=#[]}->Om P acc' n->R (.ok (.ret res)) {s with heap:=h',toks:=tk}):
  Kg (Ku prog w) A.in1 (Ld (.ref S) (.ref I) res)
   (λfin s'=>match fin with|.done f=>R (.ok f) s'|.again c'=>c'.quiet=true∧Ly (Ku prog w) A c' R s') (λe s'=>R (.error e) s') s:=by
 have hSI:S≠I:=λe=>hSf (e▸hI)
 have hty:s.TypeIs (.ref I) "filter":=hT 0 _ hst
 unfold Ld
 refine Ke (Mb hty ?_)
 have h1:Mk (.ref S) (.ref I)=false:=by simp [Mk,hSI]
 have h2:(MD "filter"==MD "list")=false:=!3
 have h3:(MD "filter"==MD "tuple")=false:=!3
 simp only [h1,h2,h3,Bool.or_false,Hq,if_false]
 refine Ke (W.self 0 _ _ _ hst ?_)
 refine Ke (Km (ph hty ?_))
 show Kg _ A.in1 (rule "list.extend.makes-room">>=λ_=>Builtin.List.listTouch (.ref S)>>=λ_=>again (.builtin "list.extend.loop" ⟨[.ref S,.ref I,res],[]⟩)) _ _ _
 refine Ke (LH ?_)
 refine Ke ?_
 show Kg _ A.in1 (N9 S (·.push .none)>>=λ_=>N9 S (·.pop)) _ _ _
 refine Ke (MW hS rfl ?_)
 have' OY:=Kn (Ls (·.push Kr)) hS rfl
 refine MW (hz:=by seq_fits) OY rfl ?_
 have Pu:=Kn (Ls (·.pop)) OY rfl
 have' oth:∀b o,b≠S->s.heap.get? b=some o->((s.heap.update S (Ls (·.push Kr))).update S (Ls (·.pop))).get? b=some o:=
  λb o hb e=>(Kt _ _ (Ne.symm hb)).trans ((Kt _ _ (Ne.symm hb)).trans e)
 refine Kf ⟨LB PySem.F.plain_extend_loop _,codeAny_extend_loopS W.toS hn S hSf res n 0 _ #[] _ rfl (HK _) (W.frame 0 _ _ hst λb hb o e=>oth b o (λh=>hSf (h▸hb)) e) Pu (ItemsOf.nil _) λs' acc' c' hm hS' hacc=>?_⟩
 rw [Moved.eq_with hm]
 refine hR s'.heap s'.toks acc' c' (λb o hb hw e=>hm.heap b o (λhmem=>?_) (oth b o hb e)) hS' hacc
 rcases G0.mp hmem with e'|e'
 ·exact hb e'
 exact hw e'
theorem pq (W:Walks prog w A.in1.in1 I fp wr n P St) (hT:∀i h,St i h->∃o,h.get? I=some o∧o.cls=.type "filter") (hst:St 0 s.heap) (hfp:∀b∈fp,b<s.heap.objs.size) (hI:I∈fp) (hn:n≤Le)
  (hQ:∀h' tk acc' c',(∀b o,b∉wr->s.heap.get? b=some o->h'.get? b=some o)->h'.get? s.heap.objs.size=some {cls:=.type "list",dict:=none,data:=.seq acc' c',slots:=#[]}->Om P acc' n->Q (.ref s.heap.objs.size) {s with heap:=h',toks:=tk}):
  Kg (Ku prog w) A (call (.type "list") [.ref I]) Q E s:=by
 have hSf:s.heap.objs.size∉fp:=λhm=>Hl _ (hfp _ hm)
 refine callType_codes (Q₁:=λobj OG=>obj=.ref s.heap.objs.size∧OG={s with heap:=s.heap.push {cls:=.type "list",data:=.seq #[]}}) PySem.F.called_list (PySem.F.typeCall_list_1 _) PySem.F.entry_list_init
  (code_list_new _ ⟨rfl,rfl⟩) λobj OG OQ=>?_
 obtain ⟨rfl,rfl⟩:=OQ
 have' hS:(s.heap.push {cls:=.type "list",data:=.seq #[]}).get? s.heap.objs.size=some {cls:=.type "list",data:=.seq #[]}:=Kk _ rfl
 refine ⟨⟨_,hS,rfl⟩,PySem.F.args_list_init_2 _ _,?_⟩
 show Kg _ _ (do let old <-Mq (.ref s.heap.objs.size);Builtin.List.listUpdate (.ref s.heap.objs.size) (λ_=>#[]);letGo old.toList.reverse;Ld (.ref s.heap.objs.size) (.ref I) .none) _ _ _
 refine Ke ?_
 unfold Mq
 refine Ke (Mx hS rfl (Kf ?_))
 show Kg _ _ (N9 s.heap.objs.size (λ_=>#[])>>=λ_=>letGo (#[]:Array Value).toList.reverse>>=λ_=>Ld (.ref s.heap.objs.size) (.ref I) .none) _ _ _
 refine Ke (MW hS rfl ?_)
 have OY:=Kn (Ls (λ_=>(#[]:Array Value))) hS rfl
 have' oth:∀b o,s.heap.get? b=some o->((s.heap.push {cls:=.type "list",data:=.seq #[]}).update s.heap.objs.size (Ls (λ_=>(#[]:Array Value)))).get? b=some o:=
  λb o e=>(Kt _ _ (HE (Kj e))).trans (Kh _ e)
 refine Ke (On ?_)
 refine lJ (A:=A.in1) W hT _ .none _ (W.frame 0 _ _ hst λb hb o e=>oth b o e) hSf hI hn OY λh' tk acc' c' hk hS' hacc=>?_
 exact ⟨rfl,hQ h' tk acc' c' (λb o hw e=>hk b o (Hb (Kj e)) hw (oth b o e)) hS' hacc⟩
theorem gD (l:Addr) (items:Array Value):
  Meets (KV.«filter.__new__» ⟨[.type "filter",.none,.ref l],[]⟩) (λ_ R s=>s.heap.IsList l items∧
   R (.ok (.ret (.ref (s.heap.objs.size+1)))) {s with heap:=(s.heap.push {cls:=.type "list_iterator",data:=.fields #[.ref l,.int 0 0]}).push {cls:=.type "filter",data:=.fields #[.none,.ref s.heap.objs.size]}}):=
 .of_wp λprog w A R s h=>by
  obtain ⟨hp,g,d,tk,os⟩:=s;obtain ⟨hl,h⟩:=h
  have hsub:=FF.sub_filter
  have hL:Heap.IsList (Shared.heap ⟨hp,g,d,tk,os⟩) l items:=hl
  wp_walk using MG hL
  rw [Kv]
  exact ⟨_,rfl,h⟩
theorem lK (hl:s.heap.IsList l items)
  (h:Q (.ref (s.heap.objs.size+1)) {s with heap:=(s.heap.push {cls:=.type "list_iterator",data:=.fields #[.ref l,.int 0 0]}).push {cls:=.type "filter",data:=.fields #[.none,.ref s.heap.objs.size]}}):
  Kg (Ku prog w) A (call (.type "filter") [.none,.ref l]) Q E s:=by
 have e:(s.heap.push {cls:=.type "list_iterator",data:=.fields #[.ref l,.int 0 0]}).objs.size=s.heap.objs.size+1:=Kv ..
 refine callType_new FF.called_filter (!3) (FF.typeCall_filter_2 _ _) (FF.newCall_filter_2 _ _) (λobj=>PySem.F.args_object_init_3 obj _ _) FF.entry_filter_new (gD l items) ⟨hl,?_⟩
 have' gz:=Kk (s.heap.push {cls:=.type "list_iterator",data:=.fields #[.ref l,.int 0 0]}) (o:={cls:=.type "filter",data:=.fields #[.none,.ref s.heap.objs.size]}) rfl
 rw [e] at gz
 exact ⟨⟨_,gz,rfl⟩,h⟩
end
section
variable {c:Cx} {g:GP} {fr:List Env} {wr:Str->Bool} {env:Env} {A:Kw} {hd:Bool} {D:Nat} {ρ ρ' ρ₀ OH:Rho} {st:AS} {s s':Ki} {Γ:Gam} {r:Ev} {ec:EC}
theorem PF.inj (I:Inv c g fr wr env ρ st s) (hu:PF ρ u x) (hv:PF ρ v x):u=v:=by
 cases u with
 |none=>cases hu;cases v with
  |none=>rfl
  |bool _=>cases hv
  |int _=>obtain ⟨_,e⟩:=hv;cases e
  |obj _=>obtain ⟨_,_,e⟩:=hv;cases e
 |bool b=>cases hu;cases v with
  |none=>cases hv
  |bool _=>cases hv;rfl
  |int _=>obtain ⟨_,e⟩:=hv;cases e
  |obj _=>obtain ⟨_,_,e⟩:=hv;cases e
 |int i=>obtain ⟨t,rfl⟩:=hu;cases v with
  |none=>cases hv
  |bool _=>cases hv
  |int _=>obtain ⟨_,e⟩:=hv;cases e;rfl
  |obj _=>obtain ⟨_,_,e⟩:=hv;cases e
 |obj i=>obtain ⟨p,hp,rfl⟩:=hu;cases v with
  |none=>cases hv
  |bool _=>cases hv
  |int _=>obtain ⟨_,e⟩:=hv;cases e
  |obj j=>
   obtain ⟨q,hq,e⟩:=hv
   by_cases h:i=j
   ·rw [h]
   exact absurd (Value.ref.inj e) (I.w.rep.sep hp hq h).1
theorem nu (ok:c.Ok) (I:Inv c g fr wr env ρ st s) (hv:PF ρ v x) (hp:ag v st Qb E):Qb (tb st.hp v) st:=by
 obtain ⟨b,h1,h2,_⟩:=gx ok I hv hp
 rw [<-h2];exact h1
theorem s6 (ok:c.Ok) (I:Inv c g fr wr env ρ st s):∀(vs:List V) (xs:List Value) (Q:List V->AS->Prop),PH ρ vs xs->jz vs st Q E->Q (vs.filter (tb st.hp)) st∧∀u∈vs,∃Qb,ag u st Qb E:=by
 intro vs
 induction vs with
 |nil=>exact λ_ Q _ hp=>⟨hp,λu hu=>absurd hu H8⟩
 |cons v vs ih=>
  intro xs Q h hp
  induction xs using Lc with|nil=>exact h.elim|cons x xs=>
  obtain ⟨hv,hvs⟩:=h
  replace hp:ag v st (λb st'=>jz vs st' (λl st''=>Q (if b=true then v::l else l) st'') E) E:=hp
  have h1:=nu ok I hv hp
  obtain ⟨h2,h3⟩:=ih xs _ hvs h1
  refine ⟨?_,λu hu=>?_⟩
  ·rw [Hw];exact h2
  rcases G0.mp hu with rfl|hu
  ·exact ⟨_,hp⟩
  exact h3 u hu
theorem PH.mem (hv:PH ρ vs xs):x∈xs->∃u∈vs,PF ρ u x:=by
 refine PH.ind (P:=λvs xs=>x∈xs->∃u∈vs,PF ρ u x) (λh=>nomatch h) (λv vs y ys h1 h2 ih h=>?_) hv
 rcases G0.mp h with rfl|h
 ·exact ⟨v,.head _,h1⟩
 obtain ⟨u,hu,hr⟩:=ih h;exact ⟨u,.tail _ hu,hr⟩
theorem PH.filt (hv:PH ρ vs xs) (h:∀u x,u∈vs->PF ρ u x->tr x=f u):PH ρ (vs.filter f) (xs.filter tr):=
 PH.ind (P:=λvs xs=>(∀u x,u∈vs->PF ρ u x->tr x=f u)->PH ρ (vs.filter f) (xs.filter tr)) (λ_=>trivial) (λv vs y ys h1 _ ih h=>by
  have' hr:=ih λu x hu hx=>h u x (.tail _ hu) hx
  rw [Hw,Hw,h v y (.head _) h1]
  cases f v
  ·exact hr
  exact ⟨h1,hr⟩) hv h
theorem kB (hf:(∃id,f=.builtin id)∨∃T,f=.type T) (hs:aZ e=false) (hs':aZ e'=false)
  (h:Kg c.M A (eval e env) (λv s1=>Kg c.M A (eval e' env) (λv' s2=>Kg c.M A (call f [v,v']) Q E s2) E s1) E s):
  Kg c.M A (LA pos f [] (La pos (Ky [e,e'] env)) []) Q E s:=by
 have' hpl:=b6 (env:=env) pos [e,e'] (λx hx=>by rcases G0.mp hx with rfl|hx;exact hs;rw [GY.mp hx];exact hs')
 have' main:Kg c.M A (evalArgs f true (La pos (Ky [e,e'] env)) []) (λa OG=>a.kw=[]∧Kg c.M A (call f ([]++a.pos) a.kw) Q E OG) E s:=by
  have':=Mw (pos:=pos) (Q:=λxs OG=>([]:List (Str×Value))=[]∧Kg c.M A (call f ([]++xs) []) Q E OG) (rest:=[e'])
   (Kl h (λv OG x=>Mw (Kl x (λv' OJ y=>NE ⟨rfl,y⟩) λ_ _ x=>x) (aH (rest:=[]) hs')) λ_ _ x=>x) (aH (rest:=[e']) hs)
  rw [aH hs] at this⊢
  exact Mh this
 rcases hf with ⟨id,rfl⟩|⟨T,rfl⟩
 ·exact Lo hpl (Kl main (λa OG x=>x.2) λ_ _ x=>x)
 exact PyProof.Rows.callWith_type hpl (Kl main (λa OG x=>x.2) λ_ _ x=>x)
theorem pr (G:PJ c Γ D) (hR:PM c D hd r) (k:PR ec wr env) (S:aU c g fr hd D A) (hg:bM Γ ec f=some (.type "list")) (hh:bM Γ ec h=some (.type "filter")):
  Sim c g fr wr env A ρ₀ (eval (.Call f [.Call h [.Constant .none n pn,e] [] q] [] p) env) (chk (aZ e=false) (do let v <-r.E ec e;dY hd v)) PF:=by
 intro ρ st s Q E h0 I hp
 replace hp:=ci hp
 obtain ⟨h1,hp⟩:=hp
 obtain ⟨x,px,rfl,hkx,hgx⟩:=bo hg
 rw [k.kd] at hkx
 obtain ⟨y,py,rfl,hky,hgy⟩:=bo hh
 rw [k.kd] at hky
 show Kg c.M A (eval (.Name x px) env>>=λf=>LA p f [] (La p (Ky [.Call (.Name y py) [.Constant .none n pn,e] [] q] env)) []) _ _ s
 refine Ke (cr G S.ok I hkx hgx ?_)
 refine d6 (.inr ⟨_,rfl⟩) rfl ?_
 show Kg c.M A (eval (.Name y py) env>>=λf=>LA q f [] (La q (Ky [.Constant .none n pn,e] env)) []) _ _ s
 refine Ke (cr G S.ok I hky hgy ?_)
 refine kB (.inr ⟨_,rfl⟩) rfl h1 ?_
 show Kg c.M A (pure (Kr)) _ _ s
 refine Kf ?_
 refine Sim.go (hR.E k S e ρ₀) h0 I hp λOH OI OG z v OO I1 hv hp=>?_
 unfold dY at hp
 obtain ⟨hh,hp⟩:=hp
 replace hp:=aB hp
 obtain ⟨i,o,rfl,ho,hp⟩:=hp
 obtain ⟨d,hρ,rfl,rr⟩:=PF.get I1 hv ho
 dsimp only at hp
 cases o with
 |list vs=>
  obtain ⟨its,m,a1,a2⟩:=rr
  obtain ⟨hz,hp⟩:=hp
  obtain ⟨hq,ht⟩:=s6 S.ok I1 vs its.toList _ a2 hp
  have' hL:OG.heap.IsList d.1 its:=⟨_,a1,rfl,m,rfl⟩
  have' hl:its.size=vs.length:=by rw [<-G9];exact a2.length
  refine lK hL ?_
  generalize hN:OG.heap.objs.size=N
  have' kk:∀b o,OG.heap.get? b=some o->((OG.heap.push {cls:=.type "list_iterator",data:=.fields #[.ref d.1,.int 0 0]}).push {cls:=.type "filter",data:=.fields #[.none,.ref N]}).get? b=some o:=
   λb o e=>Kh _ (Kh _ e)
  have' k1:((OG.heap.push {cls:=.type "list_iterator",data:=.fields #[.ref d.1,.int 0 0]}).push {cls:=.type "filter",data:=.fields #[.none,.ref N]}).get? N=some {cls:=.type "list_iterator",data:=.fields #[.ref d.1,.int 0 0]}:=by
   rw [<-hN];exact Kh _ (Kk _ rfl)
  have' k2:((OG.heap.push {cls:=.type "list_iterator",data:=.fields #[.ref d.1,.int 0 0]}).push {cls:=.type "filter",data:=.fields #[.none,.ref N]}).get? (N+1)=some {cls:=.type "filter",data:=.fields #[.none,.ref N]}:=by
   have':=Kk (OG.heap.push {cls:=.type "list_iterator",data:=.fields #[.ref d.1,.int 0 0]}) (o:={cls:=.type "filter",data:=.fields #[.none,.ref N]}) rfl
   rw [Kv,hN] at this;exact this
  have' ks:((OG.heap.push {cls:=.type "list_iterator",data:=.fields #[.ref d.1,.int 0 0]}).push {cls:=.type "filter",data:=.fields #[.none,.ref N]}).objs.size=N+2:=by rw [Kv,Kv,hN]
  generalize hH:((OG.heap.push {cls:=.type "list_iterator",data:=.fields #[.ref d.1,.int 0 0]}).push {cls:=.type "filter",data:=.fields #[.none,.ref N]})=H at kk k1 k2 ks
  let tr:Value->Bool:=λx=> @decide (∃u∈vs,PF OH u x∧tb OI.hp u=true) (Classical.propDecidable _)
  have' htr:∀u x,u∈vs->PF OH u x->tr x=tb OI.hp u:=λu x hu hx=>by
   show @decide (∃u∈vs,PF OH u x∧tb OI.hp u=true) (Classical.propDecidable _)=tb OI.hp u
   cases hb:tb OI.hp u with
   |true=>exact @decide_eq_true _ (Classical.propDecidable _) ⟨u,hu,hx,hb⟩
   |false=>
    refine @decide_eq_false _ (Classical.propDecidable _) ?_
    rintro ⟨u',hu',hx',hb'⟩
    rw [PF.inj I1 hx' hx,hb] at hb';cases hb'
  have' W:Walks c.prog c.w A.in1.in1 (N+1) ((N+1)::N::Hf N) [N] (its.toList.filter tr).length (λi v=>(its.toList.filter tr)[i]?=some v)
    (λk h=>FOK OG.heap N (N+1) N h∧∃j,P8 (j≤its.size) (((its.toList.take j).filter tr).length=k) (h.IsListIter N d.1 j)):=
   Walks.filt (tr:=tr) (l:=d.1) (show A.handled=none from S.hnone hh) (Nat.succ_ne_self N) (GW N) (by rw [<-hN];exact Kj a1) hL λ{A'} {Q'} {E'} {s'} {x} hk hx hq'=>by
    obtain ⟨u,hu,hr⟩:=PH.mem a2 hx
    obtain ⟨Qb,hQb⟩:=ht u hu
    obtain ⟨b,hb1,hb2,hb3⟩:=gx S.ok I1 hr hQb
    have' hk':∀b o,OG.heap.get? b=some o->s'.heap.get? b=some o:=λb o e=>hk b o (by rw [<-hN];exact Kj e) e
    exact hb3 hk' λt=>by rw [hb2,<-htr u x hu hr];exact hq' t
  refine pq (s:={OG with heap:=H}) W (λi h x=>⟨_,x.1.2,rfl⟩) ⟨⟨λb o _ e=>kk b o e,k2⟩,0,HK _,rfl,⟨_,k1,rfl,rfl⟩⟩ (λb hb=>?_) (.head _) ?_ λh' tk acc c' hk hS hacc=>?_
  ·show b<H.objs.size
   rw [ks]
   rcases G0.mp hb with rfl|hb
   ·exact HI _
   rcases G0.mp hb with rfl|hb
   ·exact Hz (HI _)
   exact Hz (Hz (H9.mp hb))
  ·have' h3:(its.toList.filter tr).length≤its.size:=by rw [<-G9];exact H1 ..
   rw [hl] at h3
   exact G2 (G2 h3 hz) bF
  replace hS:h'.get? H.objs.size=some {cls:=.type "list",dict:=none,data:=.seq acc c',slots:=#[]}:=hS
  show PG c g fr wr env ρ PF Q (.ref H.objs.size) {OG with heap:=h',toks:=tk}
  rw [ks] at hS⊢
  have' hk1:∀b o,OG.heap.get? b=some o->h'.get? b=some o:=λb o e=>hk b o (λhm=>by rw [GY.mp hm,<-hN] at e;exact absurd (Kj e) (Hl _)) (kk b o e)
  have' hacc':acc.toList=its.toList.filter tr:=by
   refine Jj λj=>?_
   by_cases hj:j<acc.size
   ·have' e1:acc[j]?=some acc[j]:=by simp [hj]
    rw [He,e1]
    exact (hacc.2 j _ e1).symm
   rw [IM (by rw [G9];exact GU hj),IM (hacc.1▸GU hj)]
  have' hrel:PH OH (vs.filter (tb OI.hp)) acc.toList:=by rw [hacc'];exact a2.filt htr
  have' hnew:newList (vs.filter (tb OI.hp)) OI Q E:=hq
  have' hx:OG.heap.objs.size≤N+2:=by omega
  exact ⟨OH++[(N+2,N+2)],_,.obj OI.hp.length,OO.trans (GV ..),I1.new (tk:=tk) (p:=(N+2,N+2)) (o:=.list (vs.filter (tb OI.hp))) hk1 hx hx ⟨_,hS⟩ ⟨_,hS⟩ ⟨acc,c',hS,hrel.up (GV ..)⟩ (λ_ _ e=>by cases e) rfl,
   ⟨(N+2,N+2),by rw [<-I1.w.rep.len];simp,rfl⟩,hnew.2⟩
 |_=>exact hp.elim
end
section
variable {prog:Lb} {w:Lw} {A:Kw} {R:Result->Ki->Prop} {I:Addr} {fp wr:List Addr} {G:Array Ox->Array Ox->Prop} {n:Nat} {P:Nat->Value->Prop} {St:Nat->Ki->Prop}
theorem pt (W:WalksS prog w A.in1 I fp wr G n P St) (tr:Nat->Bool) (O2:Ki)
  (htr:∀i v (u:Ki) (Q:Bool->Ki->Prop) (E:Value->Ki->Prop),P i v->Moved wr G O2 u->(∀t,u.toks≤t->Q (tr i) {u with toks:=t})->Kg (Ku prog w) A.in1 (Ms v) Q E u):
  ∀(k i:Nat) (s:Ki),n-i=k->i≤n->St i s->Moved wr G O2 s->(∀s',Moved wr G O2 s'->R (.ok (.ret (.bool (((Hf n).drop i).any tr)))) s')->
   Ly (Ku prog w) A (.builtin "any.loop" ⟨[.ref I],[]⟩) R s:=by
 intro k
 induction k with
 |zero=>
  intro i s hk hi hst hm0 hR
  have hin:i=n:=w59 hk hi
  subst hin
  refine KG PySem.F.entry_any_loop ?_
  rw [KL PySem.F.plain_any_loop _]
  show Kg _ A.in1 (Mm (.ref I)>>=_) _ _ s
  refine Ke (W.done s _ _ hst λs' hm=>?_)
  refine Ke (LH (Kf ?_))
  have:=hR s' (hm0.trans W.gtrans hm)
  rw [List.drop_of_length_le (by simp)] at this
  exact this
 |succ k ih=>
  intro i s hk hi hst hm0 hR
  have' hlt:i<n:=w28 hk
  have' hd:(Hf n).drop i=i::(Hf n).drop (i+1):=by
   rw [Iy (by simpa using hlt)];simp
  refine KG PySem.F.entry_any_loop ?_
  rw [KL PySem.F.plain_any_loop _]
  show Kg _ A.in1 (Mm (.ref I)>>=_) _ _ s
  refine Ke (W.item i s _ _ hlt hst λv s' hP hst' hm=>?_)
  have hm1:=hm0.trans W.gtrans hm
  refine Ke (Km (htr i v _ _ _ hP hm1 λt ht=>?_))
  have' hm2:Moved wr G O2 {s' with toks:=t}:=⟨hm1.heap,hm1.gens,hm1.drawn,hm1.os,G2 hm1.toks ht⟩
  have hst2:=W.frame (i+1) s' s'.heap t hst' ht λb _ o e=>e
  refine Ke (On ?_)
  induction hb:tr i with
  |false=>
   simp only [Hq,if_false]
   refine Kf ⟨LB PySem.F.plain_any_loop _,ih (i+1) _ (w27 hk) hlt hst2 hm2 λs'' hm'=>?_⟩
   have:=hR s'' hm'
   rw [hd,IQ,hb,I9] at this
   exact this
  |true=>
   simp only [if_true]
   refine Ke (LH (Kf ?_))
   have:=hR _ hm2
   rw [hd,IQ,hb,Bool.true_or] at this
   exact this
theorem pu {Q:Value->Ki->Prop} {E:Value->Ki->Prop} {s:Ki} (W:WalksS prog w A.in1 I fp wr G n P St) (hst:St 0 s) (tr:Nat->Bool)
  (htr:∀i v (u:Ki) (Q:Bool->Ki->Prop) (E:Value->Ki->Prop),P i v->Moved wr G s u->(∀t,u.toks≤t->Q (tr i) {u with toks:=t})->Kg (Ku prog w) A.in1 (Ms v) Q E u)
  (hQ:∀s',Moved wr G s s'->Q (.bool ((Hf n).any tr)) s'):Kg (Ku prog w) A (call (.builtin "any") [.ref I]) Q E s:=by
 refine call_function_tree PySem.F.kind_any PySem.F.plain_any PySem.F.entry_any (PySem.F.args_any1 _) ?_
 unfold KV.«any»
 refine Ke (m:=oneArg "any" _) (Kf ?_)
 refine Ke (W.self 0 s _ _ hst ?_)
 exact Kf ⟨LB PySem.F.plain_any_loop _,pt W tr s htr n 0 s rfl (HK _) hst (.refl W.grefl) λs' hm=>by simpa using hQ s' hm⟩
end
section
variable {c:Cx} {g:GP} {fr:List Env} {wr:Str->Bool} {env:Env} {A:Kw} {hd:Bool} {D:Nat} {ρ ρ' ρ₀ OH:Rho} {st:AS} {s s':Ki} {Γ:Gam} {r:Ev} {ec:EC}
theorem Inv.turn (ok:c.Ok) (I:Inv c g fr wr env ρ st s) {h':Heap} {tk:Nat} {gs:Array Ox} (k:∀b o,s.heap.get? b=some o->b∉c.tabs->h'.get? b=some o) (ht:∀P∈c.tabs,∃ps,h'.get? P=some (Oe ps)∧TriplesOk ps.toList)
  (hs:s.heap.objs.size≤h'.objs.size) (hg:NV gs):Inv c g fr wr env ρ st {s with heap:=h',toks:=tk,gens:=gs}:=by
 have w:=I.w
 have e:=I.e
 have' big:∀b,c.base.objs.size≤b->∀o,s.heap.get? b=some o->h'.get? b=some o:=λb hb o q=>k b o q (w.tabNo hb)
 have' hi:∀{i:Nat} {p:Nat×Nat},ρ[i]?=some p->∃x,st.hp[i]?=some x:=λ{i p} h=>⟨_,G3 (w.rep.len▸(G4.mp h).1)⟩
 have' any:∀b,(∃o,s.heap.get? b=some o)->∃o,h'.get? b=some o:=λb ⟨o,q⟩=>by
  by_cases hb:b∈c.tabs
  ·obtain ⟨ps,q',_⟩:=ht b hb;exact ⟨_,q'⟩
  exact ⟨o,k b o q hb⟩
 refine ⟨{
   rep:=⟨w.rep.len,λ{i p o} e1 e2=>?_,w.rep.low,w.rep.sep,w.rep.self,λ{i p} e1=>⟨any _ (w.rep.inb e1).1,any _ (w.rep.inb e1).2⟩,w.rep.rolow⟩
   keep:=λb o q=>k b o (w.keep b o q) λm=>(by rw [ok.tb b m] at q;exact nNS q)
   prot:=λb o q=>let ⟨sl,q1,q2⟩:=w.prot b o q;⟨sl,k b _ q1 (w.tabG q),q2⟩
   gfoot:=w.gfoot
   ffun:=df (λb hb o q nf=>⟨o,k b o q λm=>?_,nf⟩) w.ffun
   fro:=w.fro
   bg:=w.bg
   os:=w.os
   bare:=hg
   size:=G2 w.size hs
   tab:=ht
   tlow:=w.tlow
   gtab:=w.gtab},e.move (GX _) (λo q=>big _ e.low o q) (λx a ha o q=>big a (e.clow x a ha) o q) e.lno e.cno⟩
 ·induction hr:o.isRo with
  |false=>have l:=w.rep.low e1 e2 hr;exact (w.rep.obj e1 e2).move (GX _) (λob q=>big _ l.1 ob q) λob q=>big _ l.2 ob q
  |true=>
   induction o with
   |ro ns=>
    obtain ⟨its,⟨ob,q1,q2,q3⟩,h2⟩:=w.rep.obj e1 e2
    refine ⟨its,⟨ob,k _ _ q1 λm=>?_,q2,q3⟩,h2⟩
    obtain ⟨ps,q,_⟩:=w.tab _ m
    rw [q] at q1;(replace q1:=ay q1;subst q1);cases q2
   |_=>exact nFT hr
 obtain ⟨ps,q',_⟩:=w.tab b m
 rw [q] at q';(replace q':=ay q';subst q')
 exact nf ps rfl
theorem nv (ok:c.Ok) (I:Inv c g fr wr env ρ st s) {pos:Pos} {q:Str} {sc:MZ} {Qx:Value->Ki->Prop} {E':Value->Ki->Prop}
  (h:∀code h' tk,(∀b o,s.heap.get? b=some o->b∉c.tabs->h'.get? b=some o)->(∀P∈c.tabs,∃ps,h'.get? P=some (Oe ps)∧TriplesOk ps.toList)->s.heap.objs.size≤h'.objs.size->Qx code {s with heap:=h',toks:=tk}):
  Kg c.M A (genexprCode env pos q sc) Qx E' s:=by
 obtain ⟨cc,P,h1,h2,h3⟩:=I.e.code
 have hc:CodeHd s.heap cc P:=codeHd_of_K (I.X ok) h2
 obtain ⟨ps,hp,hps⟩:=I.w.tab P h3
 induction hf:codeAmong pos ps.toList with
 |none=>
  refine wpAny_genexprCodeX h1 (hc.code hp hps) (hc.tab hp) hf λc' h' tk hx hs hlt hco hrec htb _=>h _ h' tk (λb o e hb=>hx b o (λz=>hb (z▸h3)) e) (λP' hP'=>?_) (G2 hs (Hk hlt))
  by_cases hPP:P'=P
  ·subst hPP
   obtain ⟨_,_,_,_,_,_,_,_,_,_,f1,f2,f3,f4,f5,f6,f7,f8,f9,f10,f11⟩:=hco
   have:=htb.2
   rw [f8] at this
   (replace this:=ay this;subst this)
   cases f9
   exact ⟨_,f8,f10⟩
  obtain ⟨ps',q1,q2⟩:=I.w.tab P' hP'
  exact ⟨ps',hx P' _ hPP q1,q2⟩
 |some c'=>
  obtain ⟨o,vs,file,tf,flags,tg,inF,text,tt,e1,e2,e3,e4,e5,e6,e7,e8,e9,e10⟩:=hc
  unfold genexprCode codeAt
  rw [h1,Rz (show ¬((KI cc==Kr)=true) from HG)]
  refine Ke (Nd e1 e3 ?_)
  rw [e5]
  refine Ke (Nd hp rfl ?_)
  rw [hf]
  exact Kf (h c' s.heap s.toks (λb o e _=>e) I.w.tab (GW _))
end
section
variable {c:Cx} {g:GP} {fr:List Env} {wr:Str->Bool} {env:Env} {A:Kw} {hd:Bool} {D:Nat} {ρ ρ' ρ₀ OH:Rho} {st:AS} {s s':Ki} {Γ:Gam} {r:Ev} {ec:EC}
theorem s7 (bs:List Bool):(Hf bs.length).any (λj=>(bs[j]?).getD false)=bs.any id:=by
 refine Eq.trans ?_ (any_rangeD bs id)
 refine congrArg (List.any (Hf bs.length)) (funext λj=>?_)
 cases bs[j]?<;>rfl
theorem vY (G:PJ c Γ D) (hR:PM c D hd r) (k:PR ec wr env) (S:aU c g fr hd D A) (hg:bM Γ ec f=some (.builtin "any")):
  Sim c g fr wr env A ρ₀ (eval (.Call f [.GeneratorExp (.Attribute (.Name x py) a pa) [⟨.Name x px,it,[],0⟩] sc pg] [] p) env) (chk (qf sc x=true∧n9 it=true∧(x==("__debug__":Str))=false) (do bc (hd=true);let v <-r.E ec it;mV Γ hd a v)) PF:=by
 intro ρ st s Q E h0 I hp
 replace hp:=ci hp
 obtain ⟨⟨hgen,hit,hdb⟩,rfl,hp⟩:=hp
 obtain ⟨fx,px',rfl,hkx,hgx⟩:=bo hg
 rw [k.kd] at hkx
 unfold qf at hgen
 simp only [Hs,beq_iff_eq,Jk,Hd] at hgen
 obtain ⟨⟨⟨⟨g1,g2⟩,g3⟩,g4⟩,g5⟩:=hgen
 have hA:=S.hnone rfl
 have hdp:=S.depth
 have hun:=S.units
 show Kg c.M A (eval (.Name fx px') env>>=λf=>LA p f [] (La p (Ky [.GeneratorExp (.Attribute (.Name x py) a pa) [⟨.Name x px,it,[],0⟩] sc pg] env)) []) _ _ s
 refine sD λQQ EE hQQ hEE=>?_
 refine Ke (cr G S.ok I hkx hgx ?_)
 refine d6 (.inl ⟨_,rfl⟩) rfl ?_
 have hfold:∀z,genFold it env z=pure z:=λz=>by
  cases it<;>first|rfl|exact nFT hit
 refine wpAny_GeneratorExp_walksQD hA g2 (closureFor_none λq hq=>by rw [g3 q hq];decide) (λq hq=>by rw [g3 q hq];decide) g4 g5 g1 (by show A.depth<1000;exact CN hdp) ?_ hfold
 refine Kl (Sim.go (hR.E k S it ρ₀) h0 I hp λOH OI OG z v OO I1 hv hp=>?_) (λ_ _ z=>z) hEE
 unfold mV at hp
 obtain ⟨_,hp⟩:=hp
 replace hp:=aB hp
 obtain ⟨i,o,rfl,ho,hp⟩:=hp
 obtain ⟨d,hρ,rfl,rr⟩:=PF.get I1 hv ho
 dsimp only at hp
 induction o with
 |list vs=>
  obtain ⟨its,m,a1,a2⟩:=rr
  obtain ⟨hz,bs,hbl,hbs,hq⟩:=hp
  have hL:OG.heap.IsList d.1 its:=⟨_,a1,rfl,m,rfl⟩
  have' hl:its.size=vs.length:=by rw [<-G9];exact a2.length
  have hd1:d.1<OG.heap.objs.size:=Kj a1
  refine MG hL ?_
  obtain ⟨OJ,e2,h12,hN2,hs2,I2,_,hd2,ho2⟩:=I1.pushed {cls:=.type "list_iterator",data:=.fields #[.ref d.1,.int 0 0]} rfl
  rw [e2]
  clear e2
  have T2:=S.ok.T.keeps I2.w.keep
  refine ⟨T2.nolimit,nv S.ok I2 λcode OS Pn O9 Po Pp=>?_⟩
  have OZ:OG.heap.objs.size+1≤OS.objs.size:=hs2▸Pp
  have' I3:=I2.turn (tk:=Pn) S.ok O9 Po Pp I2.w.bare
  have T3:=S.ok.T.keeps I3.w.keep
  obtain ⟨bm,ob,B⟩:=S.ok.bm
  have B3:=B.keeps I3.w.keep
  have' k13:∀b o,OG.heap.get? b=some o->b∉c.tabs->OS.get? b=some o:=λb o e hb=>O9 b o (h12 b o e) hb
  have hIt:OG.heap.objs.size∉c.tabs:=I1.w.tabNo I1.w.size
  have hdt:d.1∉c.tabs:=I1.w.tabNo (I1.w.rep.low hρ ho rfl).1
  rw [I.e.glob]
  refine wpAny_builtinsFor B3.ns B3.name B3.ne B3.obj B3.cls B3.dict B3.data ?_
  refine ⟨OG.heap.objs.size,[OG.heap.objs.size,d.1],[OG.heap.objs.size],its.size,(λi v=>its[i]?=some v),(λi h=>h.IsListIter OG.heap.objs.size d.1 i∧h.IsList d.1 its),(λ_=>true),
   (λi z=>∃b,bs[i]?=some b∧iD c OG z b),rfl,λA' hA'=>Walks.list hA' _ _ (Hb hd1) its,?_,?_,T3.nolimit,?_,?_,?_⟩
  ·exact ⟨⟨_,O9 _ _ hN2 hIt,rfl,rfl⟩,⟨_,k13 _ _ a1 hdt,rfl,m,rfl⟩⟩
  ·intro b hb
   show b<OS.objs.size
   rcases G0.mp hb with rfl|hb
   ·exact OZ
   rw [GY.mp hb];exact G5 (Hz hd1) OZ
  ·intro hb
   have h1:=S.ok.cs
   rw [GY.mp hb] at h1
   exact absurd h1 (Hr.mpr I1.w.size)
  ·intro href hhref
   have keepTo:∀(u:Ki),(∀b∈Hf OS.objs.size,b∉[OG.heap.objs.size]->∀o,href.get? b=some o->u.heap.get? b=some o)->∀b o,OG.heap.get? b=some o->b∉c.tabs->u.heap.get? b=some o:=λu hu b o e hb=>
    hu b (H9.mpr (G5 (Hz (Kj e)) OZ)) (λhm=>by rw [GY.mp hm] at e;exact absurd (Kj e) (Hl _)) o (hhref b o (k13 b o e hb))
   refine ⟨λA' E' i v u Pv hA' hD hU hP hn hm hu=>?_,λA' E' i v u Pv hA' hD hU hP _ hn hm hu=>?_⟩
   ·exact Kf ⟨rfl,_,_,rfl,λ_ _ e=>e⟩
   have' hi:i<its.size:=by
    by_cases h:i<its.size
    ·exact h
    rw [Jd (GU h)] at hP;exact nNS hP
   have hiv:i<vs.length:=hl▸hi
   have hvi:vs[i]?=some vs[i]:=G3 hiv
   have' hbi:bs[i]?=some bs[i]:=G3 (hbl▸hiv)
   have hrel:PF OH vs[i] v:=by
    obtain ⟨x,hx1,hx2⟩:=a2.get hvi
    rw [He,hP] at hx1;(replace hx1:=ay hx1;subst hx1);exact hx2
   rw [Nv,bd rfl]
   refine Ke (Np (LJ g1 g5 hn hm ?_) hdb)
   refine Ke (Kq (Ke (Km ?_)))
   refine G.pureOk S.ok a vs[i] bs[i] (hbs i _ _ hvi hbi) I1 hrel hA' (BA hdp hD) (Bz hun hU) (keepTo u hu) λz h' tk hk ht=>?_
   exact Ke (Nc (Kf ⟨⟨bs[i],hbi,ht⟩,h',tk,rfl,hk⟩))
  intro aa Pr tk gs hgb hlt hsz Pa W hat
  have hpass:∀n:Nat,passing (λ_=>true) n 0=Hf n:=λn=>by unfold passing;rw [List.drop_zero];exact Iw.mpr λ_ _=>rfl
  have' far:∀b,b<OG.heap.objs.size->b∉[OS.objs.size,OG.heap.objs.size]:=λb hb hm=>by
   rcases G0.mp hm with rfl|hm
   ·exact absurd (G5 hb (JH OZ)) (Hl _)
   rw [GY.mp hm] at hb;exact absurd hb (Hl _)
  refine pu W.in4_1 hat (λj=>(bs[j]?).getD false) (λj v u Q' E' hP hm hq'=>?_) λs' hm=>?_
  ·obtain ⟨i,hi,b,hb,ht⟩:=hP
   rw [hpass] at hi
   have hij:i=j:=by
    have h1:=G4.mp hi
    obtain ⟨h2,h3⟩:=h1
    rw [List.getElem_range] at h3;exact h3.symm
   subst hij
   refine ht (λb o e hb=>hm.heap b o (far b (Kj e)) (Pa b o (k13 b o e hb))) λt ht'=>?_
   have:=hq' t ht'
   rw [hb] at this;exact this
  have hval:(Hf (passing (λ_=>true) its.size 0).length).any (λj=>(bs[j]?).getD false)=bs.any id:=by
   rw [hpass,HA,hl,<-hbl]
   exact s7 bs
  rw [hval]
  obtain ⟨h',g',d',t',os'⟩:=s'
  have e1:d'=OG.drawn:=hm.drawn.trans hd2
  have e2:os'=OG.os:=hm.os.trans ho2
  subst e1 e2
  have hb':NV g':=(AllBare.push I2.w.bare hgb).movedS hm
  have hkk:∀b o,OG.heap.get? b=some o->b∉c.tabs->h'.get? b=some o:=λb o e hb=>hm.heap b o (far b (Kj e)) (Pa b o (k13 b o e hb))
  have hs5:OG.heap.objs.size≤h'.objs.size:=by
   obtain ⟨⟨og,_,_,hog,_⟩,_⟩:=hat
   have h1:h'.get? aa=some og:=hm.heap aa og (λhm'=>by
    rcases G0.mp hm' with e|hm'
    ·exact absurd hlt (by rw [e];exact Hl _)
    rw [GY.mp hm'] at hlt;exact absurd hlt (Hr.mpr (JH OZ))) hog
   exact Hk (IY (G5 (HI _) OZ) (IY hlt (Kj h1)))
  have I5:Inv c g fr wr env OH OI {OG with heap:=h',toks:=t',gens:=g'}:=I1.turn S.ok hkk (λP hP=>by
   obtain ⟨ps,q1,q2⟩:=Po P hP
   exact ⟨ps,hm.heap P _ (far P (G5 (I1.w.tlow P hP) I1.w.size)) (Pa P _ q1),q2⟩) hs5 hb'
  exact hQQ _ _ ⟨OH,OI,.bool (bs.any id),OO,I5,rfl,hq⟩
 |_=>exact hp.elim
end
section
variable {c:Cx} {g:GP} {fr:List Env} {wr:Str->Bool} {env:Env} {A:Kw} {hd:Bool} {D:Nat} {ρ ρ' ρ₀ OH:Rho} {st:AS} {s s':Ki} {Γ:Gam} {r:Ev} {ec:EC}
 {Q:V->AS->Prop} {E:Nat->AS->Prop} {Qb:Bool->AS->Prop} {Qu:Unit->AS->Prop} {Qf:Fl->AS->Prop} {hp hp':List O} {xs:List Addr}
theorem s9 (G:PJ c Γ D) (S:aU c g fr hd D A) (I:Inv c g fr wr env ρ st s) (hv:PF ρ v x) (hp:eB Γ v tv st Q E):
  Kg c.M A (call (.builtin "isinstance") [x,tv]) (PG c g fr wr env ρ PF Q) (PE c g fr wr env ρ E) s:=by
 unfold eB at hp
 replace hp:=aB hp
 obtain ⟨i,o,rfl,ho,hp⟩:=hp
 obtain ⟨p,hρ,rfl,r⟩:=PF.get I hv ho
 dsimp only at hp
 induction o with
 |list vs=>
  obtain ⟨rfl,hq⟩:=hp
  obtain ⟨its,n,h1,h2⟩:=r
  exact PySem.IsiPair.list_list h1 rfl (PG.same' (R:=PF) (b:=.bool true) I rfl hq)
 |inst C fs=>
  dsimp only at hp
  induction hb:Γ.isa C tv with
  |none=>rw [hb] at hp;exact hp.elim
  |some b=>
   rw [hb] at hp
   obtain ⟨es,n,J,hfs,hd',k⟩:=dq r
   obtain ⟨g1,g2,g3,g4,g5,g6⟩:=G.isaOk C tv b hb
   exact kia_one (kitx_own g2 k.dict g3 g4 g5 g6) (I.X S.ok) J g1 (by intro h;cases h) λtk=>PG.same (R:=PF) (b:=.bool b) I rfl hp
 |_=>exact hp.elim
theorem qH (G:PJ c Γ D) (hR:PM c D hd r) (k:PR ec wr env) (S:aU c g fr hd D A) (h0:ρ₀<+:ρ) (I:Inv c g fr wr env ρ st s) (hfb:fb st Q E->Kg c.M A (eval (.Call (.Attribute e x ap) es [] p) env) (PG c g fr wr env ρ PF Q) (PE c g fr wr env ρ E) s):
  vd r Γ hd ec e x ap es p fb st Q E->Kg c.M A (eval (.Call (.Attribute e x ap) es [] p) env) (PG c g fr wr env ρ PF Q) (PE c g fr wr env ρ E) s:=by
 refine cD (λC hg=>ez (λm hm hp=>?_) λ_=>hfb) λ_=>hfb
 clear hfb
 replace hp:=ci hp
 obtain ⟨⟨h2,h3,h5⟩,hp⟩:=hp
 obtain ⟨nx,px,rfl,hkx,hgx⟩:=bo hg
 rw [k.kd] at hkx
 show Kg c.M A (Nm (.Name nx px) x env (eval (.Name nx px) env)>>=λov=>Me ap.atName>>=λ_=>MU (.Name nx px) x ap p env ov (es.length+0) (La p (Ky es env)) []) _ _ s
 rw [bd rfl]
 refine Ke (cr G S.ok I hkx hgx ?_)
 refine Ke (Kq ?_)
 have hform:MA (es.length+0) (La p (Ky es env)) []=true:=by
  unfold MA
  rw [fD h5]
  simp;exact w77 h3
 have hpos:LX true (.Name nx px) env ap p=pure p:=by unfold LX;simp [h2]
 unfold MU
 rw [hform]
 obtain ⟨m0,F0⟩:=I.toFr
 obtain ⟨g1,mc,q,rest,g2,g3,g4⟩:=G.cmOk C x m hm
 have' fin:∀{s':Ki} {tk:Nat},s'={s with toks:=tk}->Kg c.M A (do
   let callPos <-LX true (.Name nx px) env ap p
   LA callPos (.ref m) [] (La p (Ky es env)) []) (PG c g fr wr env ρ PF Q) (PE c g fr wr env ρ E) s':=by
  rintro s' tk rfl
  refine Ke (Ll hpos ?_)
  refine d4 (ρ₀:=ρ₀) S.ok hR k S h5 h0 (I.tok (tk:=tk)) (.inr (.inr λvs st hq=>?_)) hp λOU OR ON vs xs h23 I3 hvs hq=>?_
  ·exact cN hq λF hf _=>(G.fn m [] F hf).2
  exact cN hq λF hf hq=>on G hf S I3 hvs hq
 refine Ke (Km (method_of_cls F0 S.ok.X g1 ?_))
 rcases g4 with ⟨g5,g6⟩|g5
 ·exact cls_sm F0 S.ok.X g2 g3 g5 g6 rfl (fin rfl)
 exact cls_val F0 S.ok.X g2 g3 g5 rfl (fin rfl)
theorem qI (G:PJ c Γ D) (hR:PM c D hd r) (k:PR ec wr env) (S:aU c g fr hd D A) (h0:ρ₀<+:ρ) (I:Inv c g fr wr env ρ st s) (hfb:fb st Q E->Kg c.M A (eval (.Call f [e,tE] [] p) env) (PG c g fr wr env ρ PF Q) (PE c g fr wr env ρ E) s):
  ve r Γ ec f e tE fb st Q E->Kg c.M A (eval (.Call f [e,tE] [] p) env) (PG c g fr wr env ρ PF Q) (PE c g fr wr env ρ E) s:=by
 refine cD (λbn hg=>ez (λtv hg2=>cX (λhb hp=>?_) λ_=>hfb) λ_=>hfb) λ_=>hfb
 clear hfb
 subst hb
 obtain ⟨hs,_⟩:=ci hp;clear hp;rename_i hp
 obtain ⟨nx,px,rfl,hkx,hgx⟩:=bo hg
 obtain ⟨ny,py,rfl,hky,hgy⟩:=bo hg2
 rw [k.kd] at hkx hky
 show Kg c.M A (eval (.Name nx px) env>>=λf=>LA p f [] (La p (Ky [e,.Name ny py] env)) []) _ _ s
 refine Ke (cr G S.ok I hkx hgx ?_)
 have hpl:=b6 (env:=env) p [e,.Name ny py] (λz hz=>by
  rcases G0.mp hz with rfl|hz
  ·exact hs
  rw [GY.mp hz];rfl)
 refine Lo hpl ?_
 have' main:Kg c.M A (spliced (La p (Ky [e,.Name ny py] env))) (λvs OG=>Kg c.M A (call (.builtin "isinstance") ([]++vs)) (PG c g fr wr env ρ PF Q) (PE c g fr wr env ρ E) OG) (PE c g fr wr env ρ E) s:=by
  refine Mw (Sim.go (hR.E k S e ρ₀) h0 I hp λOH OI OG y v h1 I1 hv hp=>?_) (aH hs)
  refine Mw (cr G S.ok I1 hky hgy (NE ?_)) rfl
  exact Kl (s9 G S I1 hv hp) (λ_ _ z=>PG.up h1 z) λ_ _ z=>PE.up h1 z
 rw [aH hs] at main⊢
 exact Mh main
theorem nz (h:mT e x=true):∃p,e=.Name x p:=by
 unfold mT at h
 induction hv:gN e with
 |none=>rw [hv] at h;exact nFT h
 |some q=>rw [hv] at h;exact beq_iff_eq.mp h▸q.2
theorem qJ (G:PJ c Γ D) (hR:PM c D hd r) (k:PR ec wr env) (S:aU c g fr hd D A) (h0:ρ₀<+:ρ) (I:Inv c g fr wr env ρ st s) (hfb:fb st Q E->Kg c.M A (eval (.Call f [a] [] p) env) (PG c g fr wr env ρ PF Q) (PE c g fr wr env ρ E) s):
  vf r Γ hd ec f a fb st Q E->Kg c.M A (eval (.Call f [a] [] p) env) (PG c g fr wr env ρ PF Q) (PE c g fr wr env ρ E) s:=by
 refine cK (λelt gs sc he=>?_) λ_=>cK (λg' es q he=>?_) λ_=>hfb
 ·refine cD (λb hg=>cK (λy a _ he1=>cK (λx it ifs he2=>cX (λhb hp=>?_) λ_=>hfb) λ_=>hfb) λ_=>hfb) λ_=>hfb
  obtain ⟨rfl,hi,hn⟩:=hb
  obtain ⟨pg,rfl⟩:=he
  obtain ⟨px,rfl⟩:=he2
  obtain ⟨py,rfl⟩:=nz hn
  obtain rfl:=HJ.mp hi
  subst he1
  exact vY G hR k S hg ρ st s Q E h0 I hp
 subst he
 refine cK (λe m ap he=>cD (λT hg=>cX (λhb hp=>?_) λ_=>hfb) λ_=>hfb) λ_=>
  cD (λT hg=>cD (λU hg2=>ki (λn e he=>cX (λhb=>cD (λ_ hn hp=>?_) λ_=>hfb) λ_=>hfb) λ_=>hfb) λ_=>hfb) λ_=>hfb
 ·obtain ⟨rfl,rfl,h⟩:=hb
  obtain rfl:=HJ.mp h
  subst he
  exact pc G hR k S hg ρ st s Q E h0 I hp
 obtain ⟨rfl,rfl⟩:=hb
 obtain ⟨_,_,rfl⟩:=hn
 subst he
 exact pr G hR k S hg hg2 ρ st s Q E h0 I hp
theorem qK (G:PJ c Γ D) (hR:PM c D hd r) (k:PR ec wr env) (S:aU c g fr hd D A):Sim c g fr wr env A ρ₀ (eval (.Call f es kws p) env) (vg r Γ hd ec f es kws p) PF:=by
 intro ρ st s Q E h0 I
 have' hfb:=qz (p:=p) (f:=f) (es:=es) (kws:=kws) G hR k S ρ st s Q E h0 I
 refine cX (λhk=>?_) λ_=>hfb
 obtain rfl:=HJ.mp hk
 refine cK (λe x ap he=>?_) λ_=>cD (λa he=>?_) λ_=>ki (λe t he=>?_) λ_=>hfb
 ·subst he;exact qH G hR k S h0 I hfb
 ·subst he;exact qJ G hR k S h0 I hfb
 subst he;exact qI G hR k S h0 I hfb
end
section
variable {c:Cx} {g:GP} {fr:List Env} {wr:Str->Bool} {env:Env} {A:Kw} {hd:Bool} {D:Nat} {ρ ρ' ρ₀ OH:Rho} {st:AS} {s s':Ki} {Γ:Gam} {r:Ev} {ec:EC}
 {Q:V->AS->Prop} {E:Nat->AS->Prop} {Qb:Bool->AS->Prop} {Qu:Unit->AS->Prop} {Qf:Fl->AS->Prop} {hp hp':List O} {xs:List Addr}
theorem upE (h:ρ<+:OH) (x:Kg c.M A t (PG c g fr wr env OH PF Q) (PE c g fr wr env OH E) s):Kg c.M A t (PG c g fr wr env ρ PF Q) (PE c g fr wr env ρ E) s:=
 Kl x (λ_ _ x=>PG.up h x) λ_ _ x=>PE.up h x
theorem upB (h:ρ<+:OH) (x:Kg c.M A t (PG c g fr wr env OH (λ_ b a=>a=b) Qb) (PE c g fr wr env OH E) s):Kg c.M A t (PG c g fr wr env ρ (λ_ b a=>a=b) Qb) (PE c g fr wr env ρ E) s:=
 Kl x (λ_ _ x=>PG.up (R:=λ_ b a=>a=b) h x) λ_ _ x=>PE.up h x
theorem ta (hR:PM c D hd r) (k:PR ec wr env) (S:aU c g fr hd D A):∀(es:List Expr) (ρ₀:Rho),Sim c g fr wr env A ρ₀ (boolOp pos op (evalEach es env)) (mU r ec op es) PF:=by
 intro es
 induction es with
 |nil=>exact λρ₀ ρ st s Q E h0 I hp=>hp.elim
 |cons e l ih=>
  induction l using Lc with
  |nil=>exact hR.E k S e
  |cons e' l=>
   intro ρ₀ ρ st s Q E h0 I hp
   show Kg c.M A (do
    let v <-eval e env
    Me pos
    let t <-holding [v] (Ms v)
    match op,t with
    |.And,false|.Or,true=>pure v
    |_,_=>boolOp pos op (evalEach (e'::l) env)) _ _ s
   refine Ke (Sim.go (hR.E k S e ρ₀) h0 I hp λOH OI OG y v h1 I1 hv hp=>?_)
   refine Ke (Kq (Ke (Km ?_)))
   refine Kl (eP S I1 hv hp) (λb OJ x=>?_) λ_ _ x=>PE.up h1 x
   obtain ⟨OL,OM,b',h2,I2,rfl,hp2⟩:=x
   have h12:=h1.trans h2
   induction op with
   |And=>
    induction b with
    |false=>exact Kf ⟨OL,OM,v,h12,I2,hv.up h2,hp2⟩
    |true=>exact upE h12 (ih OL OL OM OJ Q E (GX _) I2 hp2)
   |Or=>
    induction b with
    |true=>exact Kf ⟨OL,OM,v,h12,I2,hv.up h2,hp2⟩
    |false=>exact upE h12 (ih OL OL OM OJ Q E (GX _) I2 hp2)
theorem nA (hR:PM c D hd r) (k:PR ec wr env) (S:aU c g fr hd D A):∀(es:List Expr) (ρ₀:Rho),Sim c g fr wr env A ρ₀ (allTrue op es env) (vG r ec op es) (λ_ b a=>a=b):=by
 intro es
 induction es with
 |nil=>exact λρ₀ ρ st s Q E h0 I hp=>Kf (PG.same' (R:=λ_ b a=>a=b) (b:=(op==.And)) I rfl hp)
 |cons e l ih=>
  intro ρ₀ ρ st s Q E h0 I hp
  show Kg c.M A (do match op,<-NY e env (eval e env) with|.And,false=>pure false|.Or,true=>pure true|_,_=>allTrue op l env) _ _ s
  refine Ke (Sim.go (hR.T k S e ρ₀) h0 I hp λOH OI OG a b h1 I1 hb hp=>?_)
  subst hb
  induction op with
  |And=>
   induction a with
   |false=>exact Kf ⟨OH,OI,false,h1,I1,rfl,hp⟩
   |true=>exact upB h1 (ih OH OH OI OG Q E (GX _) I1 hp)
  |Or=>
   induction a with
   |true=>exact Kf ⟨OH,OI,true,h1,I1,rfl,hp⟩
   |false=>exact upB h1 (ih OH OH OI OG Q E (GX _) I1 hp)
theorem lL (h:ew q=false):behindInMarks op q=false:=by
 cases q<;>first|rfl|exact nTF h
theorem qL {a lo hi sp:V} {x l u t:Value} {sl:Addr} (S:aU c g fr hd D A) (I:Inv c g fr wr env ρ st s) (ha:PF ρ a x) (hl:PF ρ lo l) (hu:PF ρ hi u) (ht:PF ρ sp t) (hs:s.heap.get? sl=some {cls:=.type "slice",data:=.fields #[l,u,t]})
  (hp:fg a lo hi sp st Q E):(Ex2 λT id=>s.TypeIs x T∧MT (.type T) "__getitem__"=pure (some (.builtin id)))∧Kg c.M A (getItem x (.ref sl)) (PG c g fr wr env ρ PF Q) (PE c g fr wr env ρ E) s:=by
 unfold fg at hp
 replace hp:=aB hp
 obtain ⟨i,o,rfl,ho,hp⟩:=hp
 obtain ⟨p,hρ,rfl,r⟩:=PF.get I ha ho
 dsimp only at hp
 have hsl:s.heap.IsSliceOf sl l u t:=⟨_,hs,rfl,rfl⟩
 induction o with
 |list vs=>
  induction lo with
  |none=>
   induction hi with
   |int n=>
    induction sp with
    |none=>
     cases hl
     cases ht
     obtain ⟨tk,rfl⟩:=hu
     obtain ⟨its,m,h1,h2⟩:=r
     obtain ⟨⟨b1,b3⟩,hz,hq⟩:=hp
     have hL:s.heap.IsList p.1 its:=⟨_,h1,rfl,m,rfl⟩
     have hsz:its.size=vs.length:=by rw [<-h2.length,G9]
     refine ⟨⟨"list",_,hL.typeIs,slot_list_getitem.lookup⟩,?_⟩
     refine wpAny_getItem_list_slice (lo:=none) (hi:=some n) (st:=none) hL hsl .none (.int ..) .none (by simp) ?_ (by rw [hsz];exact G2 b3 bF)
     have hn:n=((n.toNat:Nat):Int):=w91 b1
     have e1:slicePick its none (some n) none=(its.toList.take n.toNat).toArray:=by
      conv=>lhs;rw [hn]
      exact slicePick_upto' its n.toNat
     rw [e1]
     exact PG.push I (o:=.list (vs.take n.toNat)) (tk:=s.toks) rfl (λ_ _ e=>by exact oNe e rfl) ⟨_,0,Kk _ rfl,(h2.take n.toNat).up (GV ..)⟩ hq
    |_=>exact hp.elim
   |none=>
    induction sp with
    |int n=>
     cases hl
     cases hu
     obtain ⟨tk,rfl⟩:=ht
     obtain ⟨its,m,h1,h2⟩:=r
     obtain ⟨⟨rfl,b3⟩,hz,hq⟩:=hp
     have hL:s.heap.IsList p.1 its:=⟨_,h1,rfl,m,rfl⟩
     have hsz:its.size=vs.length:=by rw [<-h2.length,G9]
     refine ⟨⟨"list",_,hL.typeIs,slot_list_getitem.lookup⟩,?_⟩
     refine wpAny_getItem_list_slice (lo:=none) (hi:=none) (st:=some (-1)) hL hsl .none .none (.int ..) (by simp) ?_ (by rw [hsz];exact G2 b3 bF)
     rw [krv_pick]
     exact PG.push I (o:=.list vs.reverse) (tk:=s.toks) rfl (λ_ _ e=>by exact oNe e rfl) ⟨_,0,Kk _ rfl,h2.reverse.up (GV ..)⟩ hq
    |_=>exact hp.elim
   |_=>exact hp.elim
  |_=>exact hp.elim
 |_=>exact hp.elim
theorem kD (h:(Ex2 λT id=>s.TypeIs x T∧MT (.type T) "__getitem__"=pure (some (.builtin id)))∧Kg c.M A (getItem x i) Qx E' s)
  (hs:subscripted slice false x i=operate ops (getItem x i)):Kg c.M A (subscriptTail value slice x i) Qx E' s:=by
 obtain ⟨⟨T,id,hT,hl⟩,hg⟩:=h
 exact tail_any hT hl hg hs
theorem tc {e i:Expr} {pos:Pos} (hR:PM c D hd r) (k:PR ec wr env) (S:aU c g fr hd D A) (h0:ρ₀<+:ρ) (I:Inv c g fr wr env ρ st s) (hp:zv r ec e i st Q E):
    Kg c.M A (eval (.Subscript e i pos) env) (PG c g fr wr env ρ PF Q) (PE c g fr wr env ρ E) s:=by
  revert hp
  refine cK (λa b d he hp=>?_) λhv hp=>?_
  rotate_left
  · refine OF (Sim.go (hR.E k S e ρ₀) h0 I hp λOH OI OG x a h1 I1 ha hp=>?_)
    refine Kl (Sim.go (hR.E k S i OH) (GX _) I1 hp λOL OM OJ y b h2 I2 hb hp=>?_) (λ_ _ z=>z) λ_ _ z=>PE.up h1 z
    refine upE (h1.trans h2) (kD (ops:=[x,y]) (sL S I2 (ha.up h2) hb hp) ?_)
    cases i<;>first|rfl|exact nSN hv
  obtain ⟨p,rfl⟩:=he
  induction a with
  |some _=>exact hp.elim
  |none=>
  induction b with
  |some hi=>
   induction d with
   |some _=>exact hp.elim
   |none=>
    replace hp:(do let v <-r.E ec e;let k <-r.E ec hi;fg v .none k .none:PT V) st Q E:=hp
    refine OF (Sim.go (hR.E k S e ρ₀) h0 I hp λOH OI OG x a h1 I1 ha hp=>?_)
    refine Oo ?_
    refine Kf ?_
    refine Kl (Sim.go (hR.E k S hi OH) (GX _) I1 hp λOL OM OJ y b h2 I2 hb hp=>?_) (λ_ _ z=>z) λ_ _ z=>PE.up h1 z
    refine Kf ?_
    have I3:Inv c g fr wr env OL OM {OJ with heap:=OJ.heap.push {cls:=.type "slice",data:=.fields #[Kr,y,Kr]}}:=I2.kept (tk:=OJ.toks) λb ob q=>Kh _ q
    exact upE (h1.trans h2) (kD (ops:=[.ref OJ.heap.objs.size,x]) (qL (lo:=.none) (sp:=.none) (l:=.none) (t:=.none) S I3 (ha.up h2) rfl hb rfl (Kk _ rfl) hp) rfl)
  |none=>
   induction d with
   |none=>exact hp.elim
   |some hi=>
    replace hp:(do let v <-r.E ec e;let k <-r.E ec hi;fg v .none .none k:PT V) st Q E:=hp
    refine OF (Sim.go (hR.E k S e ρ₀) h0 I hp λOH OI OG x a h1 I1 ha hp=>?_)
    refine Oo ?_
    refine Kf (Kf ?_)
    refine Kl (Sim.go (hR.E k S hi OH) (GX _) I1 hp λOL OM OJ y b h2 I2 hb hp=>?_) (λ_ _ z=>z) λ_ _ z=>PE.up h1 z
    have I3:Inv c g fr wr env OL OM {OJ with heap:=OJ.heap.push {cls:=.type "slice",data:=.fields #[Kr,Kr,y]}}:=I2.kept (tk:=OJ.toks) λb ob q=>Kh _ q
    exact upE (h1.trans h2) (kD (ops:=[x,.ref OJ.heap.objs.size]) (qL (lo:=.none) (hi:=.none) (l:=.none) (u:=.none) S I3 (ha.up h2) rfl rfl hb (Kk _ rfl) hp) rfl)
theorem qM (G:PJ c Γ D) (hR:PM c D hd r) (k:PR ec wr env) (S:aU c g fr hd D A) (e:Expr) (ρ₀:Rho):Sim c g fr wr env A ρ₀ (eval e env) (vh r Γ hd ec e) PF:=by
  intro ρ st s Q E h0 I hp
  induction e using PySem.Expr.casesOn with
  |Constant cc kk pp=>
    induction cc with
    |none=>exact Kf (PG.same' (R:=PF) (b:=.none) I rfl hp)
    |bool b=>exact Kf (PG.same' (R:=PF) (b:=.bool b) I rfl hp)
    |int i=>exact wpAny_Constant_int (PG.same (R:=PF) (b:=.int i) I ⟨_,rfl⟩ hp)
    |_=>exact hp.elim
  |Name x pos=>
    replace hp:(if ec.isVar x=true then ad x else PT.stuck) st Q E:=hp
    by_cases hv:ec.isVar x=true
    · rw [RA hv] at hp
      unfold EC.isVar at hv
      simp only [Hs,Jk] at hv
      obtain ⟨⟨h1,h2⟩,h3⟩:=hv
      unfold ad at hp
      induction hvv:st.vars x with
      |none=>rw [hvv] at hp;exact hp.elim
      |some v=>
        rw [hvv] at hp
        refine Np (lv I ?_ hvv h2 λy hy=>PG.same' (R:=PF) I hy hp) h1
        rw [<-k.kd]
        split at h3
        · rename_i q;exact .inl q
        · rename_i q;exact .inr (.inl q)
        · rename_i q;exact .inr (.inr q)
        exact nFT h3
    rw [Rz hv] at hp;exact hp.elim
  |BinOp l op q pos=>
    refine wpAny_BinOp (Sim.go (hR.E k S l ρ₀) h0 I hp λOH OI OG x a h1 I1 ha hp=>?_)
    refine Kl (Sim.go (hR.E k S q OH) (GX _) I1 hp λOL OM OJ y b h2 I2 hb hp=>?_) (λ_ _ z=>z) λ_ _ z=>PE.up h1 z
    exact upE (h1.trans h2) (vK S I2 (ha.up h2) hb hp)
  |UnaryOp op e pos=>
   induction op with
   |Not=>
    refine wpAny_UnaryOp (Sim.go (hR.E k S e ρ₀) h0 I hp λOH OI OG x a h1 I1 ha hp=>?_)
    refine not_value (Kl (eP S I1 ha hp) (λb OJ z=>?_) λ_ _ z=>PE.up h1 z)
    obtain ⟨OL,OM,b',h2,I2,rfl,hq⟩:=z
    exact ⟨OL,OM,.bool !b,h1.trans h2,I2,rfl,hq⟩
   |USub=>
    revert hp
    show o1 (zm e) (λi=>pure (.int (-i))) PT.stuck st Q E->_
    refine ce λi he hp=>?_
    obtain ⟨_,_,rfl⟩:=he
    refine wpAny_UnaryOp (wpAny_Constant_int ?_)
    exact PySem.P.neg_int (PG.same (s:={s with toks:=s.toks+1}) (R:=PF) (b:=.int (-i)) I.tok ⟨_,rfl⟩ hp)
   |_=>exact hp.elim
  |BoolOp op es pos=>
    exact ta hR k S es ρ₀ ρ st s Q E h0 I hp
  |IfExp t a b pos=>
    refine wpAny_IfExp (Sim.go (hR.T k S t ρ₀) h0 I hp λOH OI OG x y h1 I1 hb hp=>?_)
    subst hb
    induction x with
    |true=>exact upE h1 (hR.E k S a OH OH OI OG Q E (GX _) I1 hp)
    |false=>exact upE h1 (hR.E k S b OH OH OI OG Q E (GX _) I1 hp)
  |List es pos=>
    rw [arm_eval_List]
    refine Ke (Kq (Ke (Sim.go (eS hR k S (pos:=pos) es ρ₀) h0 I hp λOH OI OG xs vs h1 I1 hv hp=>?_)))
    exact upE h1 (mY I1 hv hp)
  |Tuple es x1 pos=>
    rw [arm_eval_Tuple]
    refine Ke (Kq (Ke (Sim.go (eS hR k S (pos:=pos) es ρ₀) h0 I hp λOH OI OG xs vs h1 I1 hv hp=>?_)))
    exact upE h1 (oZ I1 hv hp)
  |Dict ks vs pos=>
    obtain ⟨⟨h1,h2⟩,_⟩:=ci hp;clear hp;rename_i hp
    obtain rfl:=HJ.mp h1
    obtain rfl:=HJ.mp h2
    rw [eval_Dict_empty]
    refine Ke (Kq (Ke (MH (Kf ?_))))
    exact PG.push I (o:=.dict 0 []) (tk:=s.toks) rfl (λ_ _ e=>by exact oNe e rfl) ⟨[],⟨_,#[],Kk _ rfl,⟨rfl,rfl,rfl⟩,rfl,λe he=>absurd he (by simp),.nil,by simp⟩,trivial⟩ hp
  |Compare l ops qs pos=>
    revert hp
    show (o1 (one ops) (λop=>o1 (one qs) (λq=>chk (ew q=false) (do let a <-r.E ec l;let b <-r.E ec q;bb op a b)) PT.stuck) PT.stuck:PT V) st Q E->_
    refine ce λop ho=>ce λq hq hp=>?_
    subst ho hq
    obtain ⟨hs,_⟩:=ci hp;clear hp;rename_i hp
    refine wpAny_Compare1 (Sim.go (hR.E k S l ρ₀) h0 I hp λOH OI OG x a h1 I1 ha hp=>?_) (lL hs)
    refine Kl (Sim.go (hR.E k S q OH) (GX _) I1 hp λOL OM OJ y b h2 I2 hb hp=>?_) (λ_ _ z=>z) λ_ _ z=>PE.up h1 z
    exact upE (h1.trans h2) (qo S I2 (ha.up h2) hb hp)
  |Attribute e x pos=>
    obtain ⟨hb,_⟩:=ci hp;clear hp;rename_i hp
    rw [Nv,bd hb]
    refine Ke (Sim.go (hR.E k S e ρ₀) h0 I hp λOH OI OG y a h1 I1 ha hp=>?_)
    refine Ke (Kq (Ke (Km (Kl (sR G S I1 ha hp) (λz OJ w=>?_) λ_ _ z=>PE.up h1 z))))
    exact Ke (Nc (Kf (PG.up h1 w)))
  |Subscript e i pos=>exact tc hR k S h0 I hp
  |ListComp elt gs sc pos=>
    revert hp
    show (o3 (sJ gs) (λx it ifs=>chk (fB ec sc x=true) (do
      let src <-eA r Γ hd ec it
      let vs <-gw r ec sc x elt ifs src
      newList vs)) PT.stuck:PT V) st Q E->_
    refine fS λx it ifs hg hp=>?_
    obtain ⟨px,rfl⟩:=hg
    show Kg c.M A (Nl (.ListComp elt [⟨.Name x px,it,ifs,0⟩] sc pos) sc env (Oj [⟨.Name x px,it,ifs,0⟩] pos) (PySem.newList []) false (eval it env) none) _ _ s
    exact gA G hR k S I hp (λ_ _ _ z=>z) (λu hu=>by exact nNS hu)
  |Call f es kws p=>
    exact qK G hR k S ρ st s Q E h0 I hp
  |_=>exact hp.elim
end
section
variable {c:Cx} {g:GP} {fr:List Env} {wr:Str->Bool} {env:Env} {A:Kw} {hd:Bool} {D:Nat} {ρ ρ' ρ₀ OH:Rho} {st:AS} {s s':Ki} {Γ:Gam} {r:Ev} {ec:EC}
 {Q:V->AS->Prop} {E:Nat->AS->Prop} {Qb:Bool->AS->Prop} {Qu:Unit->AS->Prop} {Qf:Fl->AS->Prop} {hp hp':List O} {xs:List Addr}
theorem eT (G:PJ c Γ D) (hC:Γ.exc C=true) (X:c.K.In h):
  MM M h (NX (.ref C)) (.type "type")∧MM M h (isType (.ref C)) true∧MM M h (OD (.ref C)) true∧MM M h (isSubtype (.ref C) (.ref C)) true∧MM M h (isSubtype (.ref C) (.type "BaseException")) true:=by
 have e:=G.subOk C C hC hC
 rw [G.subSelf C hC] at e
 have e0:=e
 unfold exmOne at e0
 split at e0
 ·rename_i hb
  obtain ⟨a1,a2,a3⟩:=kit_cls (M:=M) X e0
  exact ⟨a1,a2,(exm_cls X e).1,a3,looks_subIn X (beq_iff_eq.mp hb)⟩
 exact nNS e0
theorem nB (G:PJ c Γ D) (hC:Γ.exc C=true) (X:c.K.In s.heap) (h:Qx (.bool true) s):
  Kg c.M A (call (.builtin "issubclass") [.ref C,.ref C]) Qx E' s:=by
 refine call_issubclass (S:=λ_ R s=>c.K.In s.heap∧R (.ok (.ret (.bool true))) s) (λprog w A R s hs=>issubclass_outer ?_) ⟨X,h⟩
 obtain ⟨X,hs⟩:=hs
 obtain ⟨L1,L2,L3,L4,L5⟩:=eT (M:=Ku prog w) G hC X
 unfold KV.«issubclass.nested»
 refine Ke (L1.here ?_)
 rw [RA !3]
 k_delta "plainIsSubclass"
 refine Ke (Ke (L2.here (Ke (L2.here ?_))))
 simp only [Bool.and_self,if_true]
 refine L4.here ?_
 exact Kf hs
theorem jB (S:aU c g fr hd D A) (I:Inv c g fr wr env ρ st s) (hh:hd=true) (k:∀b o,s.heap.get? b=some o->h'.get? b=some o) (ha:s.heap.objs.size≤a) (hx:h'.get? a=some ox) (hcls:ox.cls=.ref C) (hd':ox.data=.fields fs)
  (h1:fs[1]?=some .none) (h2:fs[2]?=some .none) (hE:E C st):
  Kg c.M A (Ml (.ref a) none>>=λ_=>NF (.ref a):Sem Flow) Qx (PE c g fr wr env ρ E) {s with heap:=h',toks:=tk}:=by
 unfold Ml
 refine Ke (Ke (KA (x:=Kr) hx hd' h1 ?_))
 rw [Rz !3]
 refine Kf (wpAny_raiseNew_none (S.hnone hh) ?_)
 exact ⟨ρ,st,C,GX _,I.kept (tk:=tk) k,⟨a,ox,fs,.none,rfl,hx,hcls,hd',h2,(I.free ha).out,(I.free ha).low,h1,.inl rfl⟩,hE⟩
theorem nC (G:PJ c Γ D) (k:PR ec wr env) (S:aU c g fr hd D A) (I:Inv c g fr wr env ρ st s) (hk:ec.kd x=some .globalImplicit) (hx:Γ.glob x=some (.ref C)) (hp:(do bc (hd=true∧Γ.exc C=true);em (Γ.excOk C []);PT.raise C:PT Fl) st Qf E):
  Kg c.M A (exec (.Raise (some (.Name x p)) none pos) env) (PG c g fr wr env ρ cj Qf) (PE c g fr wr env ρ E) s:=by
 obtain ⟨⟨hh,hC⟩,hok,hE⟩:=hp
 rw [k.kd] at hk
 show Kg c.M A (Me pos>>=λ_=>Oc env (some (do let v <-eval (.Name x p) env;Me pos;pure v)) none) _ _ s
 refine Ke (Kq ?_)
 unfold Oc
 dsimp only
 refine Ke (Ke (cr G S.ok I hk hx (Ke (Kq (Kf ?_)))))
 refine Ke (Kf ?_)
 dsimp only
 obtain ⟨L1,L2,L3,L4,L5⟩:=eT (M:=c.M) G hC (I.X S.ok)
 refine Ke (Km ?_)
 unfold excFromValue
 refine Ke (L3.here ?_)
 rw [RA rfl]
 refine Ke (G.excNew C [] hC S (!3) I (xs:=[]) trivial hok λa ox od fs h' tk kk ha hI hf h1 h2 _=>?_)
 obtain ⟨hob,hcls,_,_⟩:=hI
 have' kk':∀b o,s.heap.get? b=some o->({s with heap:=h',toks:=tk}:Ki).heap.get? b=some o:=kk
 have X':c.K.In h':=(I.X S.ok).keeps kk
 obtain ⟨M1,M2,M3,M4,M5⟩:=eT (M:=c.M) G hC X'
 have' LT:MM c.M h' (NX (.ref a)) (.ref C):=(Ow (part:=none) hob).andThen (by rw [hcls];exact .now)
 have LI:MM c.M h' (Nt (.ref a) (.type "BaseException")) true:=LT.andThen M5
 refine Ke (LI.here (s:={s with heap:=h',toks:=tk}) ?_)
 simp only [Ka,Hq,if_false]
 refine Kf ?_
 refine Ke (M2.here (s:={s with heap:=h',toks:=tk}) ?_)
 rw [RA rfl]
 refine Ke (Km ?_)
 unfold raisedFor
 simp only [Hq,if_false]
 refine Ke (LT.here (s:={s with heap:=h',toks:=tk}) ?_)
 refine Ke (nB (s:={s with heap:=h',toks:=tk}) G hC X' (Ke (Mc ?_)))
 rw [RA rfl]
 refine Kf ?_
 exact jB S I hh kk ha hob hcls hf h1 h2 hE
theorem nD (G:PJ c Γ D) (hR:PM c D hd r) (k:PR ec wr env) (S:aU c g fr hd D A) (I:Inv c g fr wr env ρ st s) (hx:bM Γ ec f=some (.ref C)) (h5:es.any aZ=false) (hne:es.isEmpty=false) (hp:(do let vs <-fh r ec es;bc (hd=true∧Γ.exc C=true);em (Γ.excOk C vs);PT.raise C:PT Fl) st Qf E):
  Kg c.M A (exec (.Raise (some (.Call f es [] p)) none pos) env) (PG c g fr wr env ρ cj Qf) (PE c g fr wr env ρ E) s:=by
 obtain ⟨x,px,rfl,hkx,hgx⟩:=bo hx
 rw [k.kd] at hkx
 show Kg c.M A (Me pos>>=λ_=>Oc env (some (do let v <-eval (.Call (.Name x px) es [] p) env;Me pos;pure v)) none) _ _ s
 refine Ke (Kq ?_)
 unfold Oc
 dsimp only
 refine Ke (Ke ?_)
 show Kg c.M A (eval (.Name x px) env>>=λf=>LA p f [] (La p (Ky es env)) []) _ _ s
 refine Ke (cr G S.ok I hkx hgx ?_)
 have hpl:=b6 (env:=env) p es (cA h5)
 induction es using Lc with
 |nil=>exact nTF hne
 |cons e es=>
  have hst:=cA h5
  have kcls:∀{st:AS},(do bc (hd=true∧Γ.exc C=true);em (Γ.excOk C []);PT.raise C:PT Fl) st Qf E->True:=λ_=>trivial
  refine Ot (P:=λh=>c.K.In h∧LC c.K (.ref C)=true) (by rw [hpl];rfl) (λh z=>keeps_K z.2 h z.1) ?_
  rw [aH (hst e (.head _))]
  refine Mh ?_
  show Kg c.M A (spliced (La p ((false,eval e env)::Ky es env))) _ _ s
  rw [<-aH (hst e (.head _))]
  refine Sim.go (eS hR k S (pos:=p) (e::es) ρ) (GX _) I hp λOH OI OG xs vs hρ I1 hvs hp=>?_
  obtain ⟨⟨hh,hC⟩,hok,hE⟩:=hp
  refine ⟨⟨I1.X S.ok,(G.excCls C hC).2⟩,?_⟩
  refine G.excNew C vs hC S (!3) I1 hvs hok λa ox od fs h' tk kk ha hI hf h1 h2 _=>?_
  obtain ⟨hob,hcls,_,_⟩:=hI
  have X':c.K.In h':=(I1.X S.ok).keeps kk
  obtain ⟨M1,M2,M3,M4,M5⟩:=eT (M:=c.M) G hC X'
  have' LT:MM c.M h' (NX (.ref a)) (.ref C):=(Ow (part:=none) hob).andThen (by rw [hcls];exact .now)
  have LI:MM c.M h' (Nt (.ref a) (.type "BaseException")) true:=LT.andThen M5
  have' LN:MM c.M h' (isType (.ref a)) false:=by
   intro A' Q' E' s' kq q
   unfold isType loadHead
   refine Ke (Md (kq _ _ hob) ?_)
   rw [hf];exact Kf q
  have LE:MM c.M h' (OD (.ref a)) false:=by
   unfold OD
   refine LN.andThen ?_
   simp only [Hq,if_false]
   exact .now
  refine Ke (Kq (Kf ?_))
  refine Ke (Kf ?_)
  dsimp only
  refine Ke (Km ?_)
  unfold excFromValue
  refine Ke (LE.here (s:={OG with heap:=h',toks:=tk}) ?_)
  simp only [Hq,if_false]
  refine Ke (LI.here (s:={OG with heap:=h',toks:=tk}) ?_)
  simp only [if_true]
  refine Kf ?_
  refine Ke (LN.here (s:={OG with heap:=h',toks:=tk}) ?_)
  simp only [Hq,if_false]
  refine Ke ?_
  unfold raisedInstance
  refine Ke (LT.here (s:={OG with heap:=h',toks:=tk}) (Ke (M1.here (s:={OG with heap:=h',toks:=tk}) ?_)))
  rw [RA !3]
  refine Kf ?_
  exact Kl (jB S I1 hh kk ha hob hcls hf h1 h2 hE (Qx:=PG c g fr wr env ρ cj Qf)) (λ_ _ z=>z) λ_ _ z=>PE.up hρ z
end
section
variable {prog:Lb} {w:Lw} {A:Kw} {E:Value->Ki->Prop} {s:Ki}
theorem pv {l t sl:Addr} {its wits:Array Value} {n k m:Nat} {u u':Tok} {Q:Unit->Ki->Prop} (hl:s.heap.get? l=some (listOf its n)) (ht:s.heap.get? t=some ({cls:=.type "tuple",data:=.seq wits k}:Obj)) (hne:l≠t)
  (hs:s.heap.IsSliceOf sl (.int (m:Int) u) (.int (m:Int) u') .none) (hm:m≤its.size) (hz:its.size≤Le) (hz2:its.size+wits.size≤Le)
  (h:∀h' n',KF l s.heap h'->h'.get? l=some (listOf (its.extract 0 m++wits++its.extract m its.size) n')->Q () {s with heap:=h'}):
  Kg (Ku prog w) A (Of (.ref l) (.ref sl) (.ref t)) Q E s:=by
 have hT:s.TypeIs (.ref l) "list":=⟨_,hl,rfl⟩
 obtain ⟨os,hos,hcs,hds⟩:=id hs
 have hTs:s.TypeIs (.ref sl) "slice":=⟨os,hos,hcs⟩
 have hTt:s.TypeIs (.ref t) "tuple":=⟨_,ht,rfl⟩
 unfold Of
 try with_reducible refine Km ?_
 first|refine Ke (Kf ?_)|skip
 refine Ke (wpAny_sequenceKey hT (!3) ?_)
 refine Ke (KD (name:=Kp "__setitem__") hT slot_list_setitem
  (KC slot_list_setitem hT entry_list_setitem ?_ (args_list_setitem _ _ _)))
 show Kg _ _ (Builtin.List.listSubscript? (.ref sl)>>=_) _ _ s
 refine Ke ?_
 unfold Builtin.List.listSubscript?
 refine Ke (MX hTs slice_no_index ?_)
 simp only [Option.isNone_none,if_true]
 refine Kf ?_
 show Kg _ _ (NX (.ref sl)>>=_) _ _ s
 refine Ke (Mb hTs ?_)
 rw [Rz !3]
 rw [listSliceParts_eq]
 refine Ke (Ke (KA hos hds (x:=Kr) rfl (Ke (NW .none ?_))))
 rw [Rz (show ¬((rawPart none==Lx 0)=true) from HG)]
 refine Ke (KA hos hds (x:=.int (m:Int) u) rfl (Ke (NW (.int ..) ?_)))
 refine Ke (KA hos hds (x:=.int (m:Int) u') rfl (Ke (NW (.int ..) (Kf ?_))))
 have hsame:Mk (.ref l) (.ref t)=false:=by show (l==t)=false;simp [hne]
 rw [hsame]
 simp only [Hq,if_false]
 refine Ke (m:=Builtin.List.listAllItems (.ref t) _) ?_
 unfold Builtin.List.listAllItems
 refine Ke (Mb hTt ?_)
 rw [RA !3]
 unfold Mq
 refine Ke (Mx ht rfl (Kf ?_))
 refine Ke (Ke (Mx hl rfl (Kf ?_)))
 have hb:sliceBounds (some (m:Int)) (some (m:Int)) none its.size=((m:Int),(m:Int),1):=by
  simp only [sliceBounds,Option.getD_none]
  have h1:¬((m:Int)<0):=Ey
  simp only [h1,if_false,show (1:Int)>0 by decide,if_true]
  congr 1
  ·exact w72 hm
  congr 1;exact w72 hm
 refine Ke (Ll (sliceIndices_raw (some (m:Int)) (some (m:Int)) none its.size (by simp)) ?_)
 rw [hb]
 dsimp only
 rw [RA !3]
 refine Ke (LH ?_)
 have hlong:Builtin.List.listTooLong (its.size+wits.size)=false:=by unfold Builtin.List.listTooLong;simp;exact hz2
 rw [hlong]
 simp only [Hq,if_false]
 have hmt:((m:Int)).toNat=m:=HB m
 have hmx:(max (m:Int) (m:Int)).toNat=m:=by rw [Int.max_self];exact hmt
 rw [hmt,hmx]
 refine Ke ?_
 show Kg _ _ (N9 l _) _ _ s
 have hsz:(its.extract 0 m++wits++its.extract m).size≤Le+1:=by
  simp only [Array.size_append,Array.size_extract];exact Be hz2
 have hg:=Kn (Ls λxs=>xs.extract 0 m++wits++xs.extract m) hl rfl
 refine MW hl rfl (hz:=hz) (_hz':=hsz) (Ke (On ?_))
 exact Kf ⟨.none,rfl,Kf (h _ _ (Ks ..) hg)⟩
end
section
variable {c:Cx} {g:GP} {fr:List Env} {wr:Str->Bool} {env:Env} {A:Kw} {hd:Bool} {D:Nat} {ρ ρ' ρ₀ OH:Rho} {st:AS} {s s':Ki} {Γ:Gam} {r:Ev} {ec:EC}
 {Q:V->AS->Prop} {E:Nat->AS->Prop} {Qb:Bool->AS->Prop} {Qu:Unit->AS->Prop} {Qf:Fl->AS->Prop} {hp hp':List O} {xs:List Addr}
theorem td {o i j:Expr} {p p':Pos} {v:V} {y:Value} (hR:PM c D hd r) (k:PR ec wr env) (S:aU c g fr hd D A) (I:Inv c g fr wr env ρ st s) (hv:PF ρ v y) (hp0:(do let ov <-r.E ec o;let iv <-r.E ec i;let jv <-r.E ec j;cE ov iv jv v:PT Unit) st Qu E):
  Kg c.M A (Nu (.Subscript o (.Slice (some i) (some j) none p') p) env y) (PG c g fr wr env ρ (λ_ _ _=>True) Qu) (PE c g fr wr env ρ E) s:=by
 rw [arm_assign_Subscript]
 refine Ke (Km (Sim.go (hR.E k S o ρ) (GX _) I hp0 λOH OI OG z a h1 I1 ha hp1=>?_))
 refine Ke (Km (Oo ?_))
 rw [evalPart_some,evalPart_some,evalPart_none]
 refine Kl (Sim.go (hR.E k S i OH) (GX _) I1 hp1 λOL OM OJ z1 b h2 I2 hb hp2=>?_) (λ_ _ z=>z) λ_ _ z=>PE.up h1 z
 have h12:=h1.trans h2
 refine Kl (Sim.go (hR.E k S j OL) (GX _) I2 hp2 λOU OR ON z2 d h3 I3 hd' hp3=>?_) (λ_ _ z=>z) λ_ _ z=>PE.up h12 z
 have h13:=h12.trans h3
 refine Kf (Ke (Kq (Ke (Km ?_))))
 have' I4:Inv c g fr wr env OU OR {ON with heap:=ON.heap.push {cls:=.type "slice",data:=.fields #[z1,z2,Kr]}}:=I3.kept (tk:=ON.toks) λb ob q=>Kh _ q
 have' hsl:({ON with heap:=ON.heap.push {cls:=.type "slice",data:=.fields #[z1,z2,Kr]}}:Ki).heap.IsSliceOf ON.heap.objs.size z1 z2 .none:=⟨_,Kk _ rfl,rfl,rfl⟩
 have hp:cE a b d v OR Qu E:=hp3
 clear hp1 hp2 hp3
 generalize ({ON with heap:=ON.heap.push {cls:=.type "slice",data:=.fields #[z1,z2,Kr]}}:Ki)=O8 at I4 hsl⊢
 generalize ON.heap.objs.size=sl at hsl⊢
 unfold cE at hp
 replace hp:=aB hp
 obtain ⟨ia,oa,rfl,hoa,hp⟩:=hp
 replace hp:=aB hp
 obtain ⟨iy,oy,rfl,hoy,hp⟩:=hp
 obtain ⟨pa,hρa,rfl,ra⟩:=PF.get I4 (ha.up (h2.trans h3)) hoa
 obtain ⟨py,hρy,rfl,ry⟩:=PF.get I4 (hv.up h13) hoy
 dsimp only at hp
 induction oa with
 |list vs=>
  induction b with
  |int m=>
   induction d with
   |int n=>
    induction oy with
    |tup ws=>
     obtain ⟨t1,rfl⟩:=hb
     obtain ⟨t2,rfl⟩:=hd'
     obtain ⟨its,na,k1,k2⟩:=ra
     obtain ⟨wits,nw,q1,q2⟩:=ry
     obtain ⟨⟨rfl,b1,b2,b3⟩,hq⟩:=hp
     have' e1:its.size=vs.length:=by rw [<-k2.length,G9]
     have e2:wits.size=ws.length:=by rw [<-q2.length,G9]
     obtain ⟨mn,rfl⟩:∃k:Nat,m=(k:Int):=⟨m.toNat,by exact w91 b1⟩
     have hne:pa.1≠py.1:=by
      by_cases e:ia=iy
      ·subst e;rw [hoa] at hoy;exact gr hoy rfl
      exact (I4.w.rep.sep hρa hρy e).1
     have hlim:=bF
     have hmn:((mn:Int)).toNat=mn:=HB mn
     replace hq:Qu () {OR with hp:=OR.hp.set ia (.list (vs.take mn++ws++vs.drop mn))}:=by
      replace hq:Qu () {OR with hp:=OR.hp.set ia (.list (vs.take (mn:Int).toNat++ws++vs.drop (mn:Int).toNat))}:=hq
      rwa [hmn] at hq
     refine pv k1 q1 hne hsl (B0 e1 b2) (w94 b3 e1 hlim) (w93 b3 e1 e2 hlim) λh' n' hs' hg'=>?_
     refine Nb ⟨OU,_,(),h13,I4.put (o':=.list (vs.take mn++ws++vs.drop mn)) (tk:=O8.toks) hρa hoa rfl rfl (λ_ _ e=>by exact oNe e rfl) hs' ⟨_,n',hg',?_⟩,trivial,hq⟩
     have e3:(its.extract 0 mn++wits++its.extract mn its.size).toList=its.toList.take mn++wits.toList++its.toList.drop mn:=by
      rw [Jv,Jv]
      congr 1
      ·congr 1
       simp
      apply Jj
      intro k
      rw [He,Array.getElem?_extract,List.getElem?_drop,He]
      split
      ·rfl
      rw [eq_comm,Jx];exact Cv ‹_›
     rw [e3]
     exact ((k2.take _).append q2).append (k2.drop _)
    |_=>exact hp.elim
   |_=>exact hp.elim
  |_=>exact hp.elim
 |_=>exact hp.elim
end
section
variable {c:Cx} {g:GP} {fr:List Env} {wr:Str->Bool} {env:Env} {A:Kw} {hd:Bool} {D:Nat} {ρ ρ' ρ₀ OH:Rho} {st:AS} {s s':Ki} {Γ:Gam} {r:Ev} {ec:EC}
 {Q:V->AS->Prop} {E:Nat->AS->Prop} {Qb:Bool->AS->Prop} {Qu:Unit->AS->Prop} {Qf:Fl->AS->Prop} {hp hp':List O} {xs:List Addr}
theorem qN (hR:PM c D hd r) (k:PR ec wr env) (S:aU c g fr hd D A) (e:Expr) (ρ₀:Rho):Sim c g fr wr env A ρ₀ (NY e env (eval e env)) (vi r ec e) (λ_ b a=>a=b):=by
 intro ρ st s Q E h0 I hp
 have' plain:∀e:Expr,(NY e env (eval e env)=(do let v <-eval e env;Me e.pos;holding [v] (Ms v)))->(do let v <-r.E ec e;ag v:PT Bool) st Q E->
   Kg c.M A (NY e env (eval e env)) (PG c g fr wr env ρ (λ_ b a=>a=b) Q) (PE c g fr wr env ρ E) s:=by
  intro e he hp
  refine wpAny_isTrue_value (Sim.go (hR.E k S e ρ₀) h0 I hp λOH OI OG x a h1 I1 ha hp=>?_) he
  exact upB h1 (eP S I1 ha hp)
 induction e using PySem.Expr.casesOn with
 |UnaryOp op e pos=>
  replace hp:(if op=.Not then (do let b <-r.T ec e;pure !b) else (do let v <-r.E ec (.UnaryOp op e pos);ag v):PT Bool) st Q E:=hp
  by_cases ho:op=.Not
  ·rw [RA ho] at hp
   subst ho
   refine wpAny_isTrue_Not (Sim.go (hR.T k S e ρ₀) h0 I hp λOH OI OG x b h1 I1 hb hp=>?_)
   subst hb
   exact ⟨OH,OI,!x,h1,I1,rfl,hp⟩
  rw [Rz ho] at hp
  exact plain _ (by cases op<;>first|rfl|exact absurd rfl ho) hp
 |BoolOp op es pos=>exact wpAny_isTrue_BoolOp (nA hR k S es ρ₀ ρ st s Q E h0 I hp)
 |Compare l ops qs pos=>
  revert hp
  show (o1 (one ops) (λop=>o1 (one qs) (λq=>chk (ew q=false) (do let a <-r.E ec l;let b <-r.E ec q;let c <-bb op a b;ag c)) PT.stuck) PT.stuck:PT Bool) st Q E->_
  refine ce λop ho=>ce λq hq hp=>?_
  subst ho hq
  obtain ⟨hs,_⟩:=ci hp;clear hp;rename_i hp
  refine wpAny_isTrue_Compare1 (Sim.go (hR.E k S l ρ₀) h0 I hp λOH OI OG x a h1 I1 ha hp=>?_) (lL hs)
  refine Kl (Sim.go (hR.E k S q OH) (GX _) I1 hp λOL OM OJ y b h2 I2 hb hp=>?_) (λ_ _ z=>z) λ_ _ z=>PE.up h1 z
  replace hp:bb op a b OM (λc st'=>ag c st' Q E) E:=hp
  refine Kl (qo S I2 (ha.up h2) hb hp) (λz ON w=>?_) λ_ _ z=>PE.up (h1.trans h2) z
  obtain ⟨OU,OR,v,h3,I3,hv,hp⟩:=w
  exact upB ((h1.trans h2).trans h3) (eP S I3 hv hp)
 |IfExp=>exact hp.elim
 |_=>exact plain _ rfl hp
theorem eC (h:dX value=false):swapsWith value t l env=pure false:=by
 cases value<;>first|rfl|exact nTF h
theorem jp {xs:List Expr} {n:Nat} {p:Pos} {value:Expr} (h:qg value=false):N4 [.Tuple xs n p] value env=pure none:=by
 cases value<;>first|rfl|exact nTF h
theorem d7:N4 [.Attribute o x p] value env=pure none:=by cases value<;>rfl
theorem gP:N4 [.Subscript o i p] value env=pure none:=by cases value<;>rfl
theorem cO (h:dX value=false):swapsWithSole [t] value l env=pure false:=eC h
theorem fX (k:PR ec wr env) (I:Inv c g fr wr env ρ st s) (hv:PF ρ v y) (hp:aL ec x v st Qu E):
  Kg c.M A (Nu (.Name x p) env y) (PG c g fr wr env ρ (λ_ _ _=>True) Qu) (PE c g fr wr env ρ E) s:=by
 show Kg c.M A (Me p>>=λ_=>Ou env x y) _ _ s
 exact Ke (Kq (dt k I hv hp λh' tk st' I' hq=>⟨ρ,st',(),GX _,I',trivial,hq⟩))
theorem lM (G:PJ c Γ D) (hR:PM c D hd r) (k:PR ec wr env) (S:aU c g fr hd D A) (I:Inv c g fr wr env ρ st s) (hv:PF ρ v y) (hp:(do let ov <-r.E ec o;aC Γ ov x v:PT Unit) st Qu E):
  Kg c.M A (Nu (.Attribute o x p) env y) (PG c g fr wr env ρ (λ_ _ _=>True) Qu) (PE c g fr wr env ρ E) s:=by
 rw [arm_assign_Attribute]
 refine Ke (Km (Sim.go (hR.E k S o ρ) (GX _) I hp λOH OI OG z a h1 I1 ha hp=>?_))
 refine Ke (Kq (Ke (Km (Kl (m5 G S I1 ha (hv.up h1) hp) (λ_ OJ w=>?_) λ_ _ z=>PE.up h1 z))))
 exact Nb (PG.up (R:=λ_ _ _=>True) h1 w)
theorem qO (hR:PM c D hd r) (k:PR ec wr env) (S:aU c g fr hd D A) (I:Inv c g fr wr env ρ st s) (hv:PF ρ v y) (hp:(do let ov <-r.E ec o;let kv <-r.E ec i;bL ov kv v:PT Unit) st Qu E):
  Kg c.M A (Nu (.Subscript o i p) env y) (PG c g fr wr env ρ (λ_ _ _=>True) Qu) (PE c g fr wr env ρ E) s:=by
 rw [arm_assign_Subscript]
 refine Ke (Km (Sim.go (hR.E k S o ρ) (GX _) I hp λOH OI OG z a h1 I1 ha hp=>?_))
 refine Ke (Km (Kl (Sim.go (hR.E k S i OH) (GX _) I1 hp λOL OM OJ z' b h2 I2 hb hp=>?_) (λ_ _ z=>z) λ_ _ z=>PE.up h1 z))
 have h12:=h1.trans h2
 refine Ke (Kq (Ke (Km (Kl (m9 S I2 (ha.up h2) hb (hv.up h12) hp) (λ_ ON w=>?_) λ_ _ z=>PE.up h12 z))))
 exact Nb (PG.up (R:=λ_ _ _=>True) h12 w)
theorem lN (k:PR ec wr env) (S:aU c g fr hd D A) (I:Inv c g fr wr env ρ st s) (hv:PF ρ v z) (hp0:(do let (a,b) <-cL hd v;aL ec x a;aL ec y b:PT Unit) st Qu E):
  Kg c.M A (Nu (.Tuple [.Name x p1,.Name y p2] n p) env z) (PG c g fr wr env ρ (λ_ _ _=>True) Qu) (PE c g fr wr env ρ E) s:=by
 replace hp:cL hd v st (λq st'=>(do aL ec x q.1;aL ec y q.2:PT Unit) st' Qu E) E:=hp0
 unfold cL at hp
 obtain ⟨hh,hp⟩:=hp
 replace hp:=aB hp
 obtain ⟨i,o,rfl,ho,hp⟩:=hp
 obtain ⟨q,hρ,rfl,r'⟩:=PF.get I hv ho
 dsimp only at hp
 induction o with
 |tup vs=>
  induction vs using Lc with
  |cons a vs=>
   induction vs using Lc with
   |cons b vs=>
    induction vs using Lc with
    |nil=>
     obtain ⟨its,m,h1,h2⟩:=r'
     obtain ⟨l⟩:=its
     induction l using Lc with
     |nil=>exact h2.elim
     |cons ya l=>
      induction l using Lc with
      |nil=>exact h2.2.elim
      |cons yb l=>
       induction l using Lc with
       |cons _ _=>exact h2.2.2.elim
       |nil=>
        have hT:IsTup s.heap q.1 #[ya,yb]:=⟨_,h1,rfl,m,rfl⟩
        refine assign_Tuple_tuple (S.hnone hh) hT rfl rfl λh' hx=>?_
        have I':Inv c g fr wr env ρ st {s with heap:=h'}:=I.kept (tk:=s.toks) λb ob e=>hx b ob (Hb (Kj e)) e
        replace hp:aL ec x a st (λ_ st'=>aL ec y b st' Qu E) E:=hp
        refine assignInOrder_cons (Kl (fX (p:=p1) k I' h2.1 hp) (λ_ OG w=>?_) λ_ _ z=>z)
        obtain ⟨OH,OI,_,h3,I1,_,hp⟩:=w
        refine assignInOrder_cons (Kl (fX (p:=p2) k I1 (h2.2.1.up h3) hp) (λ_ OJ w=>?_) λ_ _ z=>PE.up h3 z)
        exact assignInOrder_nil (PG.up (R:=λ_ _ _=>True) h3 w)
    |_=>exact hp.elim
   |_=>exact hp.elim
  |_=>exact hp.elim
 |_=>exact hp.elim
theorem fY (h:ρ<+:OH) (x:PG c g fr wr env OH (α:=Unit) (β:=Unit) (λ_ _ _=>True) (λ_ st'=>Qf .next st') a s'):PG c g fr wr env ρ cj Qf .next s':=by
 obtain ⟨ρ',st',_,h1,I1,_,hq⟩:=x
 exact ⟨ρ',st',.next,h.trans h1,I1,rfl,hq⟩
theorem Fi {α:Type} {p:Prop} {_:Decidable p} {k:PT α} {Q:α->AS->Prop} (hp:p) (h:k st Q E):chk p k st Q E:=by
 unfold chk;rw [RA hp];exact h
theorem te {Q:Fl->AS->Prop} {y:Str} {py pos:Pos} {e:Expr} (G:PJ c Γ D) (hR:PM c D hd r) (k:PR ec wr env) (S:aU c g fr hd D A) (h0:ρ₀<+:ρ) (I:Inv c g fr wr env ρ st s) (hp:zw r Γ hd ec y e st Q E):Kg c.M A (exec (.Assign [.Name y py] e pos) env) (PG c g fr wr env ρ cj Q) (PE c g fr wr env ρ E) s:=by
 revert hp
 refine cK (λelt gs sc he=>fS λx it ifs hg hp=>?_) λ_ hp=>?_
 ·obtain ⟨cpos,rfl⟩:=he
  obtain ⟨px,rfl⟩:=hg
  replace hp:=ci hp
  obtain ⟨hok,hp⟩:=hp
  replace hp:chk (fB ec sc x=true) (do let src <-eA r Γ hd ec it;let vs <-gw r ec sc x elt ifs src;newList vs:PT V) st (λv st'=>aL ec y v st' (λ_ st''=>Q .next st'') E) E:=Fi hok hp
  induction hsw:(env.blockKind==.function&&env.kindOf y==some .local&&py.line==cpos.line&&!(sc.names.any λ(n,k)=>n==y&&(k==.local||k==.cell))) with
  |true=>
   have' hs:swapsWith (.ListComp elt [⟨.Name x px,it,ifs,0⟩] sc cpos) (some (.Name y py)) pos.line env=pure true:=by rw [<-hsw];rfl
   rw [exec_Assign_Name_used y py _ pos hs]
   refine Ke (Kq (Ke ?_))
   show Kg c.M A (Nl (.ListComp elt [⟨.Name x px,it,ifs,0⟩] sc cpos) sc env (Oj [⟨.Name x px,it,ifs,0⟩] cpos) (PySem.newList []) false (eval it env) (some (Nu (.Name y py) env))>>=λ_=>pure ()) _ _ s
   refine Ke (gA (Qx:=λ_ s'=>Kg c.M A (pure ()) (λ_ s'=>Kg c.M A (pure Flow.next) (PG c g fr wr env ρ cj Q) (PE c g fr wr env ρ E) s') (PE c g fr wr env ρ E) s') G hR k S I hp (λh=>by exact nSN h) λu hu z C s' hz=>?_)
   (replace hu:=ay hu;subst hu)
   obtain ⟨OH,OI,b,h1,I1,hv,hq,F,mC,oC,es,ep,hoC,hdC,hrC⟩:=hz
   show Kg c.M A (Me py>>=λ_=>Ou env y z) _ _ s'
   refine Ke (Kq (dt k (I1.guard F hoC) hv hq λh' tk st' I' hq'=>?_))
   obtain ⟨I',hoC',F'⟩:=I'.unguard F
   refine ⟨mC,⟨oC,es,ep,hoC',hdC,hrC⟩,λh'' hs=>Kf (Kf ?_)⟩
   exact ⟨OH,st',.next,h1,I'.touch (s:={s' with heap:=h',toks:=tk}) (tk:=tk) F' λb ob n q=>(hs.2 b n).trans q,rfl,hq'⟩
  |false=>
   have hs:swapsWith (.ListComp elt [⟨.Name x px,it,ifs,0⟩] sc cpos) (some (.Name y py)) pos.line env=pure false:=by rw [<-hsw];rfl
   rw [exec_Assign_Name env y py _ pos hs]
   refine Ke (Kq (Ke ?_))
   show Kg c.M A (Nl (.ListComp elt [⟨.Name x px,it,ifs,0⟩] sc cpos) sc env (Oj [⟨.Name x px,it,ifs,0⟩] cpos) (PySem.newList []) false (eval it env) none) _ _ s
   refine gA G hR k S I hp (λ_ z s' hz=>?_) (λu hu=>by exact nNS hu)
   obtain ⟨OH,OI,b,h1,I1,hv,hq⟩:=hz
   refine Ke (Kq (Ke (dt k I1 hv hq λh' tk st' I' hq'=>Kf ?_)))
   exact ⟨OH,st',.next,h1,I',rfl,hq'⟩
 replace hp:=ci hp
 obtain ⟨hc,hp⟩:=hp
 rw [exec_Assign_Name env y py e pos (eC hc)]
 refine Ke (Kq (Ke (Sim.go (hR.E k S e ρ₀) h0 I hp λOH OI OG z v h1 I1 hv hp=>?_)))
 refine Ke (Kq (Ke (dt k I1 hv hp λh' tk st' I' hq'=>Kf ?_)))
 exact ⟨OH,st',.next,h1,I',rfl,hq'⟩
theorem th {Q:Fl->AS->Prop} {t e:Expr} {pos:Pos} (G:PJ c Γ D) (hR:PM c D hd r) (k:PR ec wr env) (S:aU c g fr hd D A) (h0:ρ₀<+:ρ) (I:Inv c g fr wr env ρ st s) (hp:zx r Γ hd ec t e st Q E):Kg c.M A (exec (.Assign [t] e pos) env) (PG c g fr wr env ρ cj Q) (PE c g fr wr env ρ E) s:=by
 revert hp
 refine cD (λy ht hp=>?_) λ_=>cK (λo x px ht hp=>?_) λ_=>ki (λo i ht hp=>?_) λ_=>kl λx y ht hp=>?_
 ·obtain ⟨py,rfl⟩:=ht
  exact te G hR k S h0 I hp
 ·subst ht
  obtain ⟨hc,_⟩:=ci hp;clear hp;rename_i hp
  refine Lp (Sim.go (hR.E k S e ρ₀) h0 I hp λOH OI OG y v h1 I1 hv hp=>?_) (cO hc) d7
  exact Kl (lM G hR k S I1 hv hp) (λ_ _ z=>fY h1 z) λ_ _ z=>PE.up h1 z
 ·obtain ⟨px,rfl⟩:=ht
  obtain ⟨hc,_⟩:=ci hp;clear hp;rename_i hp
  revert hp
  refine cK (λa b d he hp=>?_) λ_ hp=>?_
  rotate_left
  ·refine Lp (Sim.go (hR.E k S e ρ₀) h0 I hp λOH OI OG y v h1 I1 hv hp=>?_) (cO hc) gP
   exact Kl (qO hR k S I1 hv hp) (λ_ _ z=>fY h1 z) λ_ _ z=>PE.up h1 z
  obtain ⟨p',rfl⟩:=he
  induction a with
  |none=>exact hp.elim
  |some i=>
  induction b with
  |none=>exact hp.elim
  |some j=>
  induction d with
  |some _=>exact hp.elim
  |none=>
  replace hp:(do let v <-r.E ec e;let ov <-r.E ec o;let iv <-r.E ec i;let jv <-r.E ec j;cE ov iv jv v;pure .next:PT Fl) st Q E:=hp
  refine Lp (Sim.go (hR.E k S e ρ₀) h0 I hp λOH OI OG y v h1 I1 hv hp=>?_) (cO hc) gP
  exact Kl (td hR k S I1 hv hp) (λ_ _ z=>fY h1 z) λ_ _ z=>PE.up h1 z
 obtain ⟨p1,p2,n,p3,rfl⟩:=ht
 replace hp:=ci hp
 obtain ⟨⟨hc,ht⟩,hp⟩:=hp
 refine Lp (Sim.go (hR.E k S e ρ₀) h0 I hp λOH OI OG z v h1 I1 hv hp=>?_) (cO hc) (jp ht)
 exact Kl (lN (n:=n) (p1:=p1) (p2:=p2) (p:=p3) k S I1 hv hp) (λ_ _ z=>fY h1 z) λ_ _ z=>PE.up h1 z
theorem ti {Q:Fl->AS->Prop} {ts:List Expr} {e:Expr} {pos:Pos} (G:PJ c Γ D) (hR:PM c D hd r) (k:PR ec wr env) (S:aU c g fr hd D A) (h0:ρ₀<+:ρ) (I:Inv c g fr wr env ρ st s) (hp:zy r Γ hd ec ts e st Q E):Kg c.M A (exec (.Assign ts e pos) env) (PG c g fr wr env ρ cj Q) (PE c g fr wr env ρ E) s:=by
 revert hp
 refine cD (λt ht hp=>?_) λ_=>kl λt u ht=>ce λy hy=>fS λo x px hu hp=>?_
 ·subst ht;exact th G hR k S h0 I hp
 subst ht hu
 obtain ⟨py,rfl⟩:=hy
 refine wpAny_Assign_two (Sim.go (hR.E k S e ρ₀) h0 I hp λOH OI OG z v h1 I1 hv hp=>?_) rfl rfl
 refine Kl (fX k I1 hv hp) (λ_ OJ w=>?_) λ_ _ z=>PE.up h1 z
 obtain ⟨OL,OM,_,h2,I2,_,hp⟩:=w
 exact Kl (lM G hR k S I2 (hv.up h2) hp) (λ_ _ z=>fY (h1.trans h2) z) λ_ _ z=>PE.up (h1.trans h2) z
set_option backward.match.sparseCases false in
theorem tj {Q:Fl->AS->Prop} {x:Str} {op:Ov} {px pos:Pos} {e:Expr} (G:PJ c Γ D) (hR:PM c D hd r) (k:PR ec wr env) (S:aU c g fr hd D A) (h0:ρ₀<+:ρ) (I:Inv c g fr wr env ρ st s) (hp:vI r ec x op e st Q E):Kg c.M A (exec (.AugAssign (.Name x px) op e pos) env) (PG c g fr wr env ρ cj Q) (PE c g fr wr env ρ E) s:=by
  obtain ⟨⟨hv,rfl⟩,_⟩:=ci hp;clear hp;rename_i hp
  unfold EC.isVar at hv
  simp only [Hs,Jk] at hv
  obtain ⟨⟨h1,h2⟩,h3⟩:=hv
  replace hp:ad x st (λa st'=>(do
    let b <-r.E ec e
    match a,b with
    |.int i,.int j=>(do let c <-bD .Add (.int i) (.int j);aL ec x c;pure .next)
    |_,_=>PT.stuck:PT Fl) st' Q E) E:=hp
  unfold ad at hp
  induction hvv:st.vars x with
  |none=>rw [hvv] at hp;exact hp.elim
  |some v=>
   rw [hvv] at hp
   have hkk:env.kindOf x=some .local∨env.kindOf x=some .cell∨env.kindOf x=some .free:=by
    rw [<-k.kd]
    split at h3
    ·rename_i q;exact .inl q
    ·rename_i q;exact .inr (.inl q)
    ·rename_i q;exact .inr (.inr q)
    exact nFT h3
   refine wpAny_AugAssign_Name (lv I hkk hvv h2 λy hy=>?_)
   refine Sim.go (hR.E k S e ρ₀) h0 I hp λOH OI OG z w h1 I1 hw hp=>?_
   have hy1:=hy.up h1
   induction v with
   |int i=>
    induction w with
    |int j=>
     obtain ⟨t,rfl⟩:=hy1
     obtain ⟨u,rfl⟩:=hw
     have fin:∀n:Int,aL ec x (.int n) OI (λ_ st'=>Q .next st') E->Kg c.M A (storeName env x (.int n OG.toks)) (λ_=>PG c g fr wr env ρ cj Q .next) (PE c g fr wr env ρ E) {OG with toks:=OG.toks+1}:=by
      intro n hq
      obtain ⟨⟨hk,hw⟩,_⟩:=ci hq;clear hq;rename_i hq
      rw [k.kd] at hk
      rw [k.wr] at hw
      exact gt (v:=.int n) (I1.tok (tk:=OG.toks+1)) hk hw ⟨_,rfl⟩ λh' tk I'=>⟨OH,_,.next,h1,I',rfl,hq⟩
     exact PySem.P.iadd_int (fin _ hp)
    |_=>exact hp.elim
   |_=>exact hp.elim
theorem tm {Q:Fl->AS->Prop} {t it:Expr} {b:List Stmt} {pos:Pos} (G:PJ c Γ D) (hR:PM c D hd r) (k:PR ec wr env) (S:aU c g fr hd D A) (h0:ρ₀<+:ρ) (I:Inv c g fr wr env ρ st s) (hp:zA r Γ hd ec t it b st Q E):Kg c.M A (exec (.For t it b [] pos) env) (PG c g fr wr env ρ cj Q) (PE c g fr wr env ρ E) s:=by
 revert hp
 refine cD (λx ht hp=>?_) λ_=>kl λx y ht hp=>?_
 ·obtain ⟨px,rfl⟩:=ht
  replace hp:eA r Γ hd ec it st (λsrc st'=>bq src.G (λv=>do aL ec x v;cU r ec b) src.items st' Q E) E:=hp
  obtain ⟨h1,h2⟩:=iP G hR k S I hp
  refine wpAny_For (Kl h1 (λ_ _ w=>Kl w (λy OJ w=>?_) λ_ _ z=>z) λ_ _ z=>z) h2
  obtain ⟨OL,OM,src,ita,o,P,rfl,h2,I2,ho,hP,X,F,hq⟩:=w
  refine KO (qB (asg:=λv=>aL ec x v) (e:=0) hR k S I2 X ho hP F (λS' I' hv hp=>fX k I' hv hp) hq) λrr s' h=>?_
  induction rr with
  |ok f=>exact PG.up h2 h
  |error e=>exact hO (EIn.up h2 h)
 obtain ⟨p1,p2,n,p3,rfl⟩:=ht
 replace hp:eA r Γ hd ec it st (λsrc st'=>bq src.G (λv=>do let (p,q) <-cL hd v;aL ec x p;aL ec y q;cU r ec b) src.items st' Q E) E:=hp
 obtain ⟨h1,h2⟩:=iP G hR k S I hp
 refine wpAny_For (Kl h1 (λ_ _ w=>Kl w (λy OJ w=>?_) λ_ _ z=>z) λ_ _ z=>z) h2
 obtain ⟨OL,OM,src,ita,o,P,rfl,h2,I2,ho,hP,X,F,hq⟩:=w
 refine KO (qB (asg:=λv=>do let (p,q) <-cL hd v;aL ec x p;aL ec y q) (e:=0) hR k S I2 X ho hP F (λS' I' hv hp=>lN (n:=n) (p1:=p1) (p2:=p2) (p:=p3) k S' I' hv hp) hq) λrr s' h=>?_
 induction rr with
 |ok f=>exact PG.up h2 h
 |error e=>exact hO (EIn.up h2 h)
theorem pw {Q:Fl->AS->Prop} {e:Expr} {pos:Pos} (G:PJ c Γ D) (hR:PM c D hd r) (k:PR ec wr env) (S:aU c g fr hd D A) (h0:ρ₀<+:ρ) (I:Inv c g fr wr env ρ st s) (hp:ql r Γ hd ec e st Q E):Kg c.M A (exec (.Raise (some e) none pos) env) (PG c g fr wr env ρ cj Q) (PE c g fr wr env ρ E) s:=by
 revert hp
 refine cD (λC hg hp=>?_) λ_=>fS λf es p he=>ce λC hx hp=>?_
 ·obtain ⟨x,p,rfl,hk,hx⟩:=bo hg
  exact nC G k S I hk hx hp
 subst he
 replace hp:=ci hp
 obtain ⟨⟨h2,h3⟩,hp⟩:=hp
 exact nD G hR k S I hx h2 h3 hp
theorem tn (h:Qx .next s):Kg c.M A (dropValue e pos y) Qx E' s:=by
 replace h:Kg c.M A (pure .next) Qx E' s:=Kf h
 induction y using PySem.Value.casesOn<;>induction e using PySem.Expr.casesOn<;>first|exact h|exact Ke (Kq (Ke (Na (KG entry_let_go (Kf h)))))
theorem qP (G:PJ c Γ D) (hR:PM c D hd r) (k:PR ec wr env) (S:aU c g fr hd D A) (t:Stmt) (ρ₀:Rho):Sim c g fr wr env A ρ₀ (exec t env) (vj r Γ hd ec t) cj:=by
 intro ρ st s Q E h0 I hp
 induction t using PySem.Stmt.casesOn with
 |Assign ts e pos=>exact ti G hR k S h0 I hp
 |Expr e pos=>
  obtain ⟨hc,_⟩:=ci hp;clear hp;rename_i hp
  have hi:interactive env=false:=by unfold interactive;rw [I.e.kfun];rfl
  rw [exec_Expr env e pos hi (eC hc)]
  refine Ke (Kq (Ke (Sim.go (hR.E k S e ρ₀) h0 I hp λOH OI OG y v h1 I1 hv hp=>?_)))
  have fin:PG c g fr wr env ρ cj Q .next OG:=⟨OH,OI,.next,h1,I1,rfl,hp⟩
  exact tn fin
 |Continue=>exact wpAny_Continue ⟨ρ,st,.cont,GX _,I,rfl,hp⟩
 |Return o pos=>
  revert hp
  show (oE o _ _:PT Fl) st Q E->_
  refine ez (λe he hp=>?_) λhe hp=>?_
  ·subst he;exact wpAny_Return_some (Sim.go (hR.E k S e ρ₀) h0 I hp λOH OI OG y v h1 I1 hv hp=>⟨OH,OI,.ret v,h1,I1,⟨_,rfl,hv⟩,hp⟩)
  subst he;exact wpAny_Return_none ⟨ρ,st,.ret .none,GX _,I,⟨_,rfl,rfl⟩,hp⟩
 |AugAssign t op e pos=>
  revert hp
  show (o1 (gN t) (λx=>vI r ec x op e) PT.stuck:PT Fl) st Q E->_
  refine ce λx he hp=>?_
  obtain ⟨px,rfl⟩:=he
  exact tj G hR k S h0 I hp
 |If t b o pos=>
  refine wpAny_If (Sim.go (hR.T k S t ρ₀) h0 I hp λOH OI OG x y h1 I1 hb hp=>?_)
  subst hb
  have' up:∀{ss:List Stmt},cU r ec ss OI Q E->Kg c.M A (execs ss env) (PG c g fr wr env ρ cj Q) (PE c g fr wr env ρ E) OG:=λh=>
   Kl (dM hR k S _ OH OH OI OG _ E (GX _) I1 h) (λ_ _ z=>PG.up h1 z) λ_ _ z=>PE.up h1 z
  induction x with
  |true=>exact up hp
  |false=>exact up hp
 |While t b o pos=>
  replace hp:=ci hp
  obtain ⟨ho,hp⟩:=hp
  obtain rfl:=HJ.mp ho
  obtain ⟨n,hp⟩:=hp
  refine wpAny_While (KO (qC hR k S I hp) λrr s' h=>?_)
  induction rr with
  |ok f=>exact h
  |error e=>exact hO h
 |For t it b o pos=>
  replace hp:=ci hp
  obtain ⟨ho,hp⟩:=hp
  obtain rfl:=HJ.mp ho
  exact tm G hR k S h0 I hp
 |Assert t m pos=>
  refine wpAny_Assert_holds (Sim.go (hR.T k S t ρ₀) h0 I hp λOH OI OG x y h1 I1 hb hp=>?_)
  subst hb
  obtain ⟨hx,hp⟩:=hp
  exact ⟨hx,OH,OI,.next,h1,I1,rfl,hp⟩
 |Raise o cz pos=>
  revert hp
  show (oE o _ PT.stuck:PT Fl) st Q E->_
  refine kj λe he=>ez (λ_ _=>False.elim) λhc hp=>?_
  subst he hc
  exact pw G hR k S h0 I hp
 |_=>exact hp.elim
end
section
variable {c:Cx} {g:GP} {fr:List Env} {wr:Str->Bool} {env:Env} {A:Kw} {hd:Bool} {D:Nat} {ρ ρ' ρ₀ OH:Rho} {st:AS} {s s':Ki} {Γ:Gam} {r:Ev} {ec:EC}
 {Q:V->AS->Prop} {E:Nat->AS->Prop} {Qb:Bool->AS->Prop} {Qu:Unit->AS->Prop} {Qf:Fl->AS->Prop} {hp hp':List O} {xs:List Addr}
inductive QV (c:Cx) (g:GP) (ρ:Rho) (C:Nat) (x:Addr) (h:Heap):Prop
 |mk (oe:_) (vs:_) (T:_) (oT:_) (ts:_) (f3:_) (z1:h.get? x=some oe) (z2:oe.cls=.ref C) (z3:oe.data=.fields vs) (z4:vs[2]?=some .none) (z5:P3 g ρ x) (z6:c.base.objs.size≤x) (z7:vs[1]?=some (.ref T)) (z8:T≠x) (z9:h.get? T=some oT) (z10:oT.data=.fields ts) (z11:ts[3]?=some f3) (z12:P3 g ρ T) (z13:c.base.objs.size≤T):QV c g ρ C x h
theorem Qg.exTb (x:Qg c g ρ L C e h):∃a,e=.ref a∧QV c g ρ C a h:=by
 obtain ⟨a,oe,vs,T,oT,ts,h1,h2,h3,h4,h5,h6,h7,h8,h9,h10,h11,h12,h13,h14⟩:=x
 exact ⟨a,h1,oe,vs,T,oT,ts,_,h2,h3,h4,h5,h6,h7,h8,h9,h10,h11,h12,h13,h14⟩
theorem QV.at (x':QV c g ρ C x h):P6 c g ρ L C (.ref x) h:=by
 obtain ⟨oe,vs,T,oT,ts,f3,h2,h3,h4,h5,h6,h7,h8,h9,h10,h11,h12,h13,h14⟩:=x'
 exact ⟨x,oe,vs,_,rfl,h2,h3,h4,h5,h6,h7,h8,.inr ⟨T,oT,ts,_,rfl,h9,h10,h11,h12,trivial,h13,h14⟩⟩
theorem eU (I:Inv c g fr wr env ρ st s) (x:QV c g ρ C a s.heap)
  (h:∀h',Inv c g fr wr env ρ st {s with heap:=h'}->QV c g ρ C a h'->Qx () {s with heap:=h'}):Kg c.M A (Ml (.ref a) f) Qx E' s:=by
 obtain ⟨oe,vs,T,oT,ts,f3,h2,h3,h4,h5,h6,h7,h8,k2,k3,k4,k5,k7,k8⟩:=x
 have' hz3:3<ts.size:=(HF.mp k5).1
 unfold Ml
 refine Ke (KA h2 h4 h8 ?_)
 rw [RA (show (KI T !=Kr)=true from by simp)]
 have' hd3:=KN k4 (·.setIfInBounds 3 (f.elim Kr λf=>Lx f))
 refine Li k3 k4 hz3 (h _ (I.touch (tk:=s.toks) (I.free_fields k3 k4 k7 k8) λb ob n q=>(Kt _ _ (Ne.symm n)).trans q) ?_)
 exact ⟨oe,vs,T,_,_,(f.elim Kr λf=>Lx f),(Kt _ _ k2).trans h2,h3,h4,h5,h6,h7,h8,k2,Kn _ k3 (KQ hd3),hd3,by simp [hz3],k7,k8⟩
theorem tp (I:Inv c g fr wr env ρ st s) (x:QV c g ρ C a s.heap)
  (h:∀h',Inv c g fr wr env ρ st {s with heap:=h'}->QV c g ρ C a h'->E' (.ref a) {s with heap:=h'}):Kg c.M A (PySem.passOn what (.ref a) cenv:Sem α) Qx E' s:=by
 have x0:=x
 obtain ⟨oe,vs,T,oT,ts,f3,h2,h3,h4,h5,h6,h7,h8,k2,k3,k4,k5,k7,k8⟩:=x
 unfold PySem.passOn
 refine Ke (KA h2 h4 h8 ?_)
 rw [Rz (show ¬((KI T==Kr)=true) from by simp)]
 show Kg c.M A (Ml (.ref a) cenv.frame>>=λ_=>throw (.ref a)) _ _ _
 exact Ke (eU I x0 λh' I' X=>ME (h h' I' X))
theorem vZ (G:PJ c Γ D) (hR:PM c D hd r) (hR':PM c D false r') (k:PR ec wr env) (S:aU c g fr hd D A) (h0:ρ₀<+:ρ) (I:Inv c g fr wr env ρ st s)
  (hk:ec.kd x=some .globalImplicit) (hx:Γ.glob x=some (.ref C)) (hC:Γ.exc C=true)
  (hp:cU r ec b st Qf (λC' st'=>Γ.exc C'=true∧if Γ.sub C' C=true then cU r' ec (O0::hb) st' Qf E else E C' st')):
  Kg c.M A (exec (.Try b [.ExceptHandler (some (.Name x px)) none (O0::hb) hpos] [] [] pos) env) (PG c g fr wr env ρ cj Qf) (PE c g fr wr env ρ E) s:=by
 rw [k.kd] at hk
 refine wpAny_Try_except (Kl (dM hR k S b ρ₀ ρ st s _ _ h0 I hp) (λf OG z=>?_) λe OG z=>?_)
 ·obtain ⟨OH,OI,fl,h1,I1,hf,hq⟩:=z
  induction f with
  |next=>exact Mr ⟨OH,OI,fl,h1,I1,hf,hq⟩
  |_=>exact ⟨OH,OI,fl,h1,I1,hf,hq⟩
 obtain ⟨OH,OI,C',h1,I1,hx1,hC',hE⟩:=z
 refine kz S.frames I1 hx1 λOV L hL I2 hx2=>?_
 obtain ⟨a,rfl,hx2t⟩:=hx2.exTb
 refine eU I2 hx2t λOS I3 hx3=>?_
 have hx3':=hx3
 obtain ⟨oe,vs,T,oT,ts,f3,q2,q3,q4,q5,q6,q7,_⟩:=hx3'
 have Fe:P4 c g fr env OH a:=I3.free_fields q2 q4 q6 q7
 have' Sm:aU c (cB g a oe) fr false D (A.mark (some (.ref a))):=
  {ok:=S.ok,frames:=S.frames,depth:=S.depth,units:=S.units,hnone:=(λh=>by exact nFT h),hsome:=.inr ⟨a,oe,vs,rfl,gy,Fe.fr,q4,q5⟩}
 refine wpAny_handleBy_cons (codeAny_handlers_test (cr (s:={OG with heap:=OS}) G S.ok I3 hk hx ?_)) (by intro q;cases q)
 have LT:MM c.M OS (NX (.ref a)) (.ref C'):=(Ow (part:=none) q2).andThen (by rw [q3];exact .now)
 have LM:=exm_one (M:=c.M) (I3.X S.ok) LT (G.subOk C' C hC' hC)
 refine LM.here (s:={OG with heap:=OS}) ?_
 induction hs:Γ.sub C' C with
 |false=>
  rw [hs] at hE
  rw [Rz HG] at hE
  refine wpAny_handleBy_nil (tp I3 hx3 λPb I4 hx4=>?_)
  exact ⟨OH,OI,C',h1,I4,hx4.at,hE⟩
 |true=>
  rw [hs] at hE
  rw [RA rfl] at hE
  refine codeAny_handlers_suite (eU (A:=A.mark (some (.ref a))) (s:={OG with heap:=OS}) I3 hx3 λPb I4 hx4=>?_)
  obtain ⟨oe',vs',T',oT',ts',f3',p2,p3,p4,p5,p6,p7,_⟩:=hx4
  have Fe4:P4 c g fr env OH a:=I4.free_fields p2 p4 p6 p7
  have Sm4:aU c (cB g a oe') fr false D (A.mark (some (.ref a))):=
   {ok:=S.ok,frames:=S.frames,depth:=S.depth,units:=S.units,hnone:=(λh=>by exact nFT h),hsome:=.inr ⟨a,oe',vs',rfl,gy,Fe4.fr,p4,p5⟩}
  have I5:=I4.guard Fe4 p2
  refine Kl (dM hR' k Sm4 (O0::hb) OH OH OI _ _ E (GX _) I5 hE) (λf OJ z=>?_) λe OJ z=>?_
  ·obtain ⟨OL,OM,fl,h2,I6,hf,hq⟩:=z
   exact ⟨OL,OM,fl,h1.trans h2,(I6.unguard Fe4).1,hf,hq⟩
  refine fU (c:=c) (g:=cB g a oe') (A:=A.mark (some (.ref a))) S.frames z λON z=>?_
  refine hO (g:=g) (ρ:=ρ) ?_
  obtain ⟨OL,OM,Pw,Px,h2,I6,hL2,hx6,hE2⟩:=z
  refine ⟨OL,OM,Pw,Px,h1.trans h2,(I6.unguard Fe4).1,hL2,?_,hE2⟩
  obtain ⟨a',oe6,vs6,T6,oT6,ts6,r1,r2,r3,r4,r5,r6,r7,r8,r9,r10,r11,r12,r13,r14⟩:=hx6
  exact ⟨a',oe6,vs6,T6,oT6,ts6,r1,r2,r3,r4,r5,r6.unguard,r7,r8,r9,r10,r11,r12,r13.unguard,r14⟩
theorem zJ (G:PJ c Γ D) (n:Nat):∀(hd:Bool),PM c D hd (ev Γ hd n):=by
 induction n with
 |zero=>exact λ_=>⟨λ_ _ _ _=>Sim.stuck,λ_ _ _ _=>Sim.stuck,λ_ _ _ _=>Sim.stuck⟩
 |succ n ih=>
  intro hd
  have hR:=ih hd
  have hR':=ih false
  refine ⟨λk S e ρ₀=>qM G hR k S e ρ₀,λk S e ρ₀=>qN hR k S e ρ₀,λk S t ρ₀=>?_⟩
  intro ρ st s Q E h0 I hp
  rename_i wr env A g fr ec
  induction t using PySem.Stmt.casesOn with
  |Try b hs o f pos=>
   replace hp:=ci hp
   obtain ⟨⟨h1,h2⟩,hp⟩:=hp
   obtain rfl:=HJ.mp h1
   obtain rfl:=HJ.mp h2
   revert hp
   refine fS λe O0 h he=>ce λC hg hp=>?_
   obtain ⟨hpos,rfl⟩:=he
   obtain ⟨x,px,rfl,hk,hx⟩:=bo hg
   exact vZ G hR hR' k S h0 I hk hx hp.1 hp.2
  |_=>exact qP G hR k S _ ρ₀ ρ st s Q E h0 I hp
end
def PW (ρ:Rho):List (Str×V)->List (Str×Value)->Prop
 |[],[]=>True
 |f::fs,e::es=>f.1=e.1∧PF ρ f.2 e.2∧PW ρ fs es
 |_,_=>False
theorem PW.ind {ρ:Rho} {P:List (Str×V)->List (Str×Value)->Prop} (h0:P [] []) (hs:∀n u vs y xs,PF ρ u y->PW ρ vs xs->P vs xs->P ((n,u)::vs) ((n,y)::xs)):∀{vs xs},PW ρ vs xs->P vs xs:=by
 intro vs
 induction vs with
 |nil=>intro xs h;induction xs using Lc with|nil=>exact h0|cons _ _=>exact h.elim
 |cons v vs ih=>intro xs h;induction xs using Lc with
  |nil=>exact h.elim
  |cons x xs=>
   obtain ⟨n,u⟩:=v
   obtain ⟨n',y⟩:=x
   obtain ⟨h1,h2,h3⟩:=h
   replace h1:n=n':=h1
   subst h1
   exact hs _ _ _ _ _ h2 h3 (ih h3)
theorem gE (h:x∉binds.map (·.1)):MB kd binds m x=m x:=by
 revert m
 induction binds with
 |nil=>exact rfl
 |cons p r ih=>
  intro m
  rw [Hc,G0,not_or] at h
  refine (ih h.2).trans ?_
  show (if kd p.1=some NameKind.local then _ else _:Str->Option Value) x=_
  by_cases c:kd p.1=some .local
  ·rw [RA c];exact Rz h.1
  rw [Rz c]
theorem pz (h:x∉binds.map (·.1)):bindC kd binds m x=m x:=by
 revert m
 induction binds with
 |nil=>exact rfl
 |cons p r ih=>
  intro m
  rw [Hc,G0,not_or] at h
  refine (ih h.2).trans ?_
  show (if kd p.1=some NameKind.local then _ else _:Str->Option Value) x=_
  by_cases c:kd p.1=some .local
  ·rw [RA c]
  rw [Rz c];exact Rz h.1
theorem PW.names {ρ:Rho} {bs:List (Str×V)} {binds:List (Str×Value)} (h:PW ρ bs binds):binds.map (·.1)=bs.map (·.1):=
 PW.ind (P:=λbs binds=>binds.map (·.1)=bs.map (·.1)) rfl (λn _ _ _ _ _ _ ih=>congrArg (n::·) ih) h
theorem nE {ρ:Rho} {kd:Str->Option K0} {x:Str} {v:V} (hk:kd x=some .local) {bs:List (Str×V)} {binds:List (Str×Value)} {m:Str->Option Value} (h:PW ρ bs binds) (hn:(bs.map (·.1)).Nodup) (e:bs.lookup x=some v):
  ∃y,MB kd binds m x=some y∧PF ρ v y:=
 PW.ind (P:=λbs binds=>∀m,(bs.map (·.1)).Nodup->bs.lookup x=some v->∃y,MB kd binds m x=some y∧PF ρ v y) (λ_ _ e=>nNS e) (λn u bs y es h2 h3 ih m hn e=>by
  rw [Hc,HS] at hn
  rw [bG] at e
  by_cases hx:x=n
  ·subst hx
   rw [RA rfl] at e
   (replace e:=ay e;subst e)
   refine ⟨y,(gE (binds:=es) (by rw [h3.names];exact hn.1)).trans ?_,h2⟩
   show (if kd x=some NameKind.local then _ else _:Str->Option Value) x=_
   rw [RA hk];exact RA rfl
  rw [Rz hx] at e;exact ih _ hn.2 e) h m hn e
theorem nF {ρ:Rho} {kd:Str->Option K0} {x:Str} {v:V} (hk:kd x=some .cell) {bs:List (Str×V)} {binds:List (Str×Value)} {m:Str->Option Value} (h:PW ρ bs binds) (hn:(bs.map (·.1)).Nodup) (e:bs.lookup x=some v):
  ∃y,bindC kd binds m x=some y∧PF ρ v y:=
 PW.ind (P:=λbs binds=>∀m,(bs.map (·.1)).Nodup->bs.lookup x=some v->∃y,bindC kd binds m x=some y∧PF ρ v y) (λ_ _ e=>nNS e) (λn u bs y es h2 h3 ih m hn e=>by
  rw [Hc,HS] at hn
  rw [bG] at e
  by_cases hx:x=n
  ·subst hx
   rw [RA rfl] at e
   (replace e:=ay e;subst e)
   refine ⟨y,(pz (binds:=es) (by rw [h3.names];exact hn.1)).trans ?_,h2⟩
   show (if kd x=some NameKind.local then _ else _:Str->Option Value) x=_
   rw [Rz (by rw [hk];decide)];exact RA rfl
  rw [Rz hx] at e;exact ih _ hn.2 e) h m hn e
theorem jC:∀{l:List (Str×Addr)},(l.Pairwise λx y=>x.2≠y.2)->∀{x y:Str} {a:Addr},(x,a)∈l->(y,a)∈l->x=y
 |p::l,h,x,y,a,h1,h2=>by
  rw [Ih] at h
  rcases G0.mp h1 with e1|e1<;>rcases G0.mp h2 with e2|e2
  ·exact (Prod.mk.inj (e1.trans e2.symm)).1
  ·exact absurd (show p.2=(y,a).2 by rw [<-e1]) (h.1 (y,a) e2)
  ·exact absurd (show p.2=(x,a).2 by rw [<-e2]) (h.1 (x,a) e1)
  exact jC h.2 e1 e2
section
variable {c:Cx} {g:GP} {fr:List Env} {wr:Str->Bool} {env:Env} {A:Kw} {hd:Bool} {D:Nat} {ρ ρ' ρ₀ OH:Rho} {st:AS} {s s':Ki} {Γ:Gam} {r:Ev} {ec:EC}
 {Q:V->AS->Prop} {E:Nat->AS->Prop} {hp hp':List O} {xs:List Addr}
theorem Inv.pop (I:Inv c g (env::fr) wr env ρ st s) (hfl:env.frame=some env.locals):PP c g fr ρ st.hp s:=by
 have w:=I.w
 obtain ⟨e0,rest,L0,h1,h2,h3⟩:=I.e.frame
 cases h1
 obtain ⟨_,⟨L,o,hf,hn,ho,hd⟩,hr⟩:=w.ffun
 have' hfa:dB (env::fr)=L::dB fr:=by show J0 _ _=_;rw [IF,hf]
 refine {w with prot:=λb ob e=>?_,ffun:=hr,fro:=λi p hp=>?_}
 ·obtain ⟨sl,q,k⟩:=w.prot b ob e
  refine ⟨sl,q,λhb=>k ?_⟩
  rw [hfa,G0,not_or]
  refine ⟨λe'=>?_,hb⟩
  rw [hfl] at hf;(replace hf:=ay hf;subst hf)
  rw [e',I.e.lg] at e;exact nNS e
 have:=w.fro i p hp
 rw [hfa] at this
 exact ⟨λh=>this.1 (.tail _ h),λh=>this.2 (.tail _ h)⟩
def P0 (c:Cx) (D:Nat) (f:Nat) (ks:List Str) (F:FT):Prop:=
 ∀g fr A hd ρ hp s (vs:List V) (ps kw:List Value) (Q:V->List O->Prop) (E:Nat->List O->Prop),
  PP c g fr ρ hp s->PU c g fr hd D 10 A->PH ρ vs (ps++kw)->kw.length=ks.length->F hd vs hp Q E->
  Ly c.M A (.call (.ref f) ⟨ps,ks.zip kw⟩) (om c g fr ρ Q E) s
theorem P0.snd (h:P0 c D f ks F):bn c D f ks F:=
 λg fr A hd ρ hp s vs ps kw Q E I S hfr hv hk q=>h g fr A hd ρ hp s vs ps kw Q E I S hv hk q
theorem qQ (ok:c.Ok) (G:PJ c Γ D)
  (ho:c.K.lookup f=some ⟨oc,od,.func fd,osl⟩) (hbody:fd.body=.stmts body) (hglob:fd.globals=Lv) (hblt:fd.builtins=N1) (hclo:fd.closure=[]) (hco:fd.scope.isCoroutine=false) (hgen:fd.scope.isGenerator=false) (hkind:fd.scope.kind=.function)
  (hcd:codeIn c.K fd.code fd.qualname=true) (htab:Ex2 λcc P=>P8 (fd.code=.ref cc) (N0 c.K cc P=true) (P∈c.tabs)) (hnofree:∀p∈fd.scope.names,p.2≠.free)
  (hbind:∀(s:Ki) ρ vs ps kw bs,c.K.In s.heap->PH ρ vs (ps++kw)->kw.length=ks.length->bnd vs=some bs->(∃binds,BindsTo s fd ⟨ps,ks.zip kw⟩ binds∧PW ρ bs binds)∧∀b∈bs,fd.scope.names.lookup b.1=some .local∨fd.scope.names.lookup b.1=some .cell):
  P0 c (D+2) f ks (aq Γ n (λx=>fd.scope.names.lookup x) body bnd):=by
 intro g fr A hd ρ hp s vs ps kw Q E I S hv hk hF
 unfold aq at hF
 induction hb:bnd vs with
 |none=>rw [hb] at hF;exact hF.elim
 |some bs=>
  rw [hb] at hF
  obtain ⟨hnd,hF⟩:=hF
  have X:c.K.In s.heap:=ok.X.keeps I.keep
  obtain ⟨⟨binds,hbt,hbr⟩,hloc⟩:=hbind s ρ vs ps kw bs X hv hk hb
  have hdp:=S.depth
  have hun:=S.units
  refine codeAny_call_function (fd:=fd) (by show A.depth<1000;exact CM hdp) (X _ _ ho) rfl hco hgen hbody (codeRec_of X hcd) (hbt _ _ _ _ ?_)
  rw [hclo]
  have hlocal:∀x∈binds,fd.scope.names.lookup x.1=some .local∨(fd.scope.names.lookup x.1=some .cell∧((L8 (s.heap.objs.size+1) fd.scope.names []).lookup x.1).isSome=true):=λx hx=>by
   have':x.1∈bs.map (·.1):=hbr.names▸G1.mpr ⟨x,hx,rfl⟩
   obtain ⟨b,hb1,hb2⟩:=G1.mp this
   rcases hloc b hb1 with q|q
   ·exact .inl (hb2▸q)
   rw [hb2] at q;exact .inr ⟨q,cellsFrom_some _ _ _ (.inl q)⟩
  refine wpAny_newFunctionEnv_cells hkind hlocal λenv he OG Pc=>?_
  have' hel:env.locals=s.heap.objs.size:=by rw [he];rfl
  have' hes:env.scope=fd.scope:=by rw [he];rfl
  have' hef:env.frame=some s.heap.objs.size:=by rw [he];rfl
  have hec:env.cells=L8 (s.heap.objs.size+1) fd.scope.names []:=by rw [he];rfl
  obtain ⟨⟨⟨h',tk,rfl⟩,hns,hkeep,hfresh⟩,hcell,hapart,habove⟩:=Pc
  dsimp only at hns hkeep hcell
  have hT:=ok.T.keeps I.keep
  refine ⟨hT.nolimit.keeps hkeep,codeAny_func ?_⟩
  have hLs:s.heap.objs.size≤env.locals:=HN hel.symm
  have' hgl:∀a,s.heap.objs.size≤a->g a=none:=λa ha=>by
   induction e:g a with
   |none=>rfl
   |some o=>obtain ⟨sl,q,_⟩:=I.prot a o e;exact absurd (Kj q) (Hr.mpr ha)
  have' hrl:∀a,s.heap.objs.size≤a->∀(i:Nat) p,ρ[i]?=some p->p.1≠a∧p.2≠a:=λa ha i p hp=>
   ⟨Hb (G5 (Kj (I.rep.inb hp).1.choose_spec) ha),Hb (G5 (Kj (I.rep.inb hp).2.choose_spec) ha)⟩
  have hfl:∀a,s.heap.objs.size≤a->a∉dB fr:=λa ha hm=>by
   obtain ⟨_,o,ho',_⟩:=I.ffun.mem hm
   exact absurd (Kj ho') (Hr.mpr ha)
  have memc:∀x a,env.cells.lookup x=some a->(x,a)∈env.cells:=λx a h=>N5 h
  have' hca:∀x a,env.cells.lookup x=some a->s.heap.objs.size<a:=λx a h=>by have:=habove x a (memc x a h);rwa [hel] at this
  have hLh:env.locals<h'.objs.size:=hns.lt
  have J:Inv c g (env::fr) (λ_=>true) env ρ ⟨hp,λx=>bs.lookup x⟩ {s with heap:=h',toks:=tk}:=by
   have' W:=I.keeps (tk:=tk) (dr:=s.drawn) hkeep (G2 I.size (G2 hLs (Hk hLh))) I.bare
   have' hfa:dB (env::fr)=env.locals::dB fr:=by show J0 _ _=_;rw [IF,hef,hel]
   refine ⟨{W with prot:=λb o e=>?_,ffun:=⟨by rw [hes,hkind];decide,?_,W.ffun⟩,fro:=λi p hp=>?_},?_⟩
   ·obtain ⟨sl,q,k⟩:=W.prot b o e
    exact ⟨sl,q,λhb=>k λhm=>hb (by rw [hfa];exact .tail _ hm)⟩
   ·obtain ⟨o,es,ep,q1,q2,_⟩:=hns
    refine ⟨env.locals,o,by rw [hef,hel],Heap.get?_none_of_le (G2 I.size hLs),q1,λvs q=>by rw [q2] at q;cases q⟩
   ·have:=W.fro i p hp
    have h2:=hrl env.locals hLs i p hp
    rw [hfa,G0,G0,not_or,not_or]
    exact ⟨⟨h2.1,this.1⟩,⟨h2.2,this.2⟩⟩
   refine ⟨by rw [hes];exact hkind,by rw [he];exact hglob,by rw [he];exact hblt,⟨_,hns,λx v hx hv=>nE hx hbr hnd hv⟩,λx hx=>?_,λx a ha=>⟨_,hcell x a ha⟩,hrl _ hLs,λx a ha=>hrl a (Hk (hca x a ha)),hgl _ hLs,λx a _ _ ha=>hgl a (Hk (hca x a ha)),?_,λx a ha=>by rw [hel];exact HE (hca x a ha),
    G2 I.size hLs,λx a ha=>G2 I.size (Hk (hca x a ha)),λx a ha=>?_,⟨env,fr,_,rfl,hef,hef⟩,by obtain ⟨cc,P,t1,t2,t3⟩:=htab;exact ⟨cc,P,by rw [he];exact t1,t2,t3⟩⟩
   ·have' hkc:env.kindOf x=some .cell:=by
     refine hx.elim id λh=>?_
     exact absurd rfl (hnofree (x,.free) (N5 (by rw [<-hes];exact h)))
    have hs:(env.cells.lookup x).isSome=true:=by rw [hec];exact cellsFrom_some _ _ _ (.inl (by rw [<-hes];exact hkc))
    obtain ⟨a,ha⟩:=HY.mp hs
    refine ⟨a,ha,_,hcell x a ha,λv hv=>nF hkc hbr hnd hv⟩
   ·exact λx y a hx hy=>jC hapart (memc x a hx) (memc y a hy)
   rw [hfa,G0,not_or]
   exact ⟨by rw [hel];exact HE (hca x a ha),hfl a (Hk (hca x a ha))⟩
  have' SB:aU c g (env::fr) hd D (A.deeper env):=
   {ok:=ok,frames:=by show A.frames.map _=_;rw [S.frames];rfl,depth:=by show A.depth+1+_+_<1000;exact CK hdp,units:=by show A.units+3+_+_<9900;exact CI hun,hnone:=S.hnone
    hsome:=S.hsome.imp id λ⟨eh,oe,vs,h1,h2,h3,h4,h5⟩=>⟨eh,oe,vs,h1,h2,λhm=>by
     have hfa:dB (env::fr)=env.locals::dB fr:=by show J0 _ _=_;rw [IF,hef,hel]
     rw [hfa,G0] at hm
     rcases hm with e|e
     ·rw [e,hgl _ hLs] at h2;exact nNS h2
     exact h3 e,h4,h5⟩}
  have hR:=zJ (c:=c) G n hd
  have kE:PR ⟨λx=>fd.scope.names.lookup x,λ_=>true⟩ (λ_=>true) env:=⟨λx=>by show _=env.scope.names.lookup x;rw [hes],λ_=>rfl⟩
  refine Kl (dM hR kE SB body ρ ρ _ _ _ _ (GX _) J hF) (λf s' z=>?_) λe s' z=>?_
  ·obtain ⟨ρ',st',fl,h1,I',hf,hq⟩:=z
   refine ⟨ρ',st'.hp,_,h1,I'.pop (by rw [hef,hel]),?_,hq⟩
   induction fl with
   |ret v=>obtain ⟨y,rfl,hf⟩:=hf;exact hf
   |next=>replace hf:f=.next:=hf;subst hf;rfl
   |cont=>replace hf:f=.cont:=hf;subst hf;rfl
  obtain ⟨ρ',st',C,h1,I',hx,hE⟩:=z
  unfold leaving
  refine Ke (kz SB.frames I' hx λOV L hL I2 hx2=>?_)
  obtain ⟨a,rfl,hx2t⟩:=hx2.exTb
  exact eU I2 hx2t λOS I3 hx3=>⟨ρ',st'.hp,C,h1,I3.pop (by rw [hef,hel]),hx3.at,hE⟩
end
def qR (K:Frag) (fd:NJ):Bool:=match fd.code,gY K fd.code with
 |.ref cc,some P=>N0 K cc P
 |_,_=>false
def lO (K:Frag) (f:Nat) (ns:List Str):Bool:=match fi K f with
 |some fd=>(match fd.body with|.stmts _=>true|_=>false)&&fd.globals==Lv&&fd.builtins==N1&&fd.closure.isEmpty&&!fd.scope.isCoroutine&&!fd.scope.isGenerator&&fd.scope.kind==.function&&
   codeIn K fd.code fd.qualname&&qR K fd&&fd.scope.names.all (λp=>p.2 !=.free)&&ns.all λx=>fd.scope.names.lookup x==some .local||fd.scope.names.lookup x==some .cell
 |none=>false
theorem lP {ns:List Str} {vs:List V} {xs:List Value} (h:PH ρ vs xs):PW ρ (ns.zip vs) (ns.zip xs):=by
 induction ns generalizing vs xs with
 |nil=>trivial
 |cons n ns ih=>exact PH.ind (P:=λvs xs=>PW ρ ((n::ns).zip vs) ((n::ns).zip xs)) trivial (λ_ _ _ _ a b _=>⟨rfl,a,ih b⟩) h
set_option backward.match.sparseCases false in
theorem qS {K:Frag} {f:Nat} {fd:NJ} (h:fi K f=some fd):Ex3 λoc od osl=>K.lookup f=some ⟨oc,od,.func fd,osl⟩:=by
 replace h:(match K.lookup f with
  |some ⟨_,_,.func fd,_⟩=>some fd
  |_=>none)=some fd:=h
 induction hl:K.lookup f with
 |none=>rw [hl] at h;exact nNS h
 |some o=>
  rw [hl] at h
  obtain ⟨oc,od,d,osl⟩:=o
  cases d<;>first|exact nNS h|((replace h:=ay h;subst h);exact ⟨oc,od,osl,rfl⟩)
inductive Rc (K:Frag) (f:Nat) (ns:List Str) (fd:NJ):Prop
 |mk (oc:_) (od:_) (osl:_) (b:_) (z1:K.lookup f=some ⟨oc,od,.func fd,osl⟩) (z2:fd.body=.stmts b) (z3:an K f=b) (z4:fd.globals=Lv) (z5:fd.builtins=N1) (z6:fd.closure=[]) (z7:fd.scope.isCoroutine=false) (z8:fd.scope.isGenerator=false) (z9:fd.scope.kind=.function) (z10:codeIn K fd.code fd.qualname=true) (z11:qR K fd=true) (z12:∀p∈fd.scope.names,p.2≠.free) (z13:∀x∈ns,fd.scope.names.lookup x=some .local∨fd.scope.names.lookup x=some .cell):Rc K f ns fd
theorem lQ {K:Frag} {f:Nat} {ns:List Str} {fd:NJ} (h:lO K f ns=true) (hf:fi K f=some fd):
  Rc K f ns fd:=by
 unfold lO at h
 rw [hf] at h
 simp only [Hs,beq_iff_eq,Jk,HJ,Hd,JT,bne_iff_ne,ne_eq] at h
 obtain ⟨⟨⟨⟨⟨⟨⟨⟨⟨⟨h1,h2⟩,h3⟩,h4⟩,h5⟩,h6⟩,h7⟩,h8⟩,h8t⟩,h9⟩,h10⟩:=h
 obtain ⟨oc,od,osl,hlk⟩:=qS hf
 have hb:∃b,fd.body=.stmts b∧an K f=b:=by
  unfold an
  rw [hf]
  induction hd:fd.body with
  |stmts b=>exact ⟨b,rfl,by dsimp only;rw [hd]⟩
  |_=>rw [hd] at h1;exact nFT h1
 obtain ⟨b,hb1,hb2⟩:=hb
 exact ⟨oc,od,osl,b,hlk,hb1,hb2,h2,h3,h4,h5,h6,h7,h8,h8t,h9,h10⟩
section
variable {c:Cx} {D:Nat} {Γ:Gam}
theorem entry {f n:Nat} {ns ks:List Str} {bnd:List V->Option (List (Str×V))} (ok:c.Ok) (G:PJ c Γ D) (h:lO c.K f ns=true)
  (hb:∀(s:Ki) ρ vs ps kw bs fd,fi c.K f=some fd->c.K.In s.heap->PH ρ vs (ps++kw)->kw.length=ks.length->bnd vs=some bs->(∃binds,BindsTo s fd ⟨ps,ks.zip kw⟩ binds∧PW ρ bs binds)∧∀b∈bs,b.1∈ns):
  P0 c (D+2) f ks (aq Γ n (aF c.K f) (an c.K f) bnd):=by
 induction hf:fi c.K f with
 |none=>unfold lO at h;rw [hf] at h;exact nFT h
 |some fd=>
  obtain ⟨oc,od,osl,b,hlk,hb1,hb2,h2,h3,h4,h5,h6,h7,h8,h8t,h9,h10⟩:=lQ h hf
  have hkd:aF c.K f=λx=>fd.scope.names.lookup x:=by unfold aF;rw [hf]
  rw [hb2,hkd]
  have htab:Ex2 λcc P=>P8 (fd.code=.ref cc) (N0 c.K cc P=true) (P∈c.tabs):=by
   unfold qR at h8t
   split at h8t
   ·rename_i cc P e1 e2
    exact ⟨cc,P,e1,h8t,mR hlk e2⟩
   exact nFT h8t
  refine qQ ok G hlk hb1 h2 h3 h4 h5 h6 h7 h8 htab (λp hp=>h9 p hp) λs ρ vs ps kw bs X hv hk hbs=>?_
  obtain ⟨g1,g2⟩:=hb s ρ vs ps kw bs fd hf X hv hk hbs
  exact ⟨g1,λb hbm=>h10 _ (g2 b hbm)⟩
theorem bn.mono (h:bn c D f ks F) (hD:D≤D') (hF:∀hd vs hp Q E,F' hd vs hp Q E->F hd vs hp Q E):bn c D' f ks F':=
 λg fr A hd ρ hp s vs ps kw Q E I S hfr hv hk q=>h g fr A hd ρ hp s vs ps kw Q E I
  {S with depth:=by have:=S.depth;exact w51 hD this,units:=by have:=S.units;exact w50 hD this} hfr hv hk (hF _ _ _ _ _ q)
theorem P0.mono (h:P0 c D f ks F) (hD:D≤D') (hF:∀hd vs hp Q E,F' hd vs hp Q E->F hd vs hp Q E):P0 c D' f ks F':=
 λg fr A hd ρ hp s vs ps kw Q E I S hv hk q=>h g fr A hd ρ hp s vs ps kw Q E I
  {S with depth:=by have:=S.depth;exact w51 hD this,units:=by have:=S.units;exact w50 hD this} hv hk (hF _ _ _ _ _ q)
end
set_option backward.match.sparseCases false
abbrev bY:=Str->Option V
section
variable {α β:Type} {hp:List O} {m:bY} {Q:β->AS->Prop} {E:Nat->AS->Prop} {k:α->PT β}
theorem zK:upd m x v x=some v:=by unfold upd;rw [RA rfl]
theorem zf (h:(y==x)=false) (h':m y=some w):upd m x v y=some w:=by unfold upd;rw [Rz (λe=>by rw [e] at h;simp at h)];exact h'
theorem zg {x:Str} {v:V} {l:List (Str×V)}:HQ x ((x,v)::l)=some v:=by simp [HQ]
theorem v2 {x a:Str} {v w:V} {l:List (Str×V)} (h:(x==a)=false) (h':l.lookup x=some v):HQ x ((a,w)::l)=some v:=by simp [HQ,h];exact h'
theorem v3 (h:(ns.lookup x==some .free)=true) (h':m x=some v):dD ns m x=some v:=by unfold dD;rw [RA h];exact h'
theorem af {hp l:List O} {i:Nat} {o:O} (h:hp[i]?=some o):(hp++l)[i]?=some o:=by rw [Ha (G4.mp h).1];exact h
theorem ai:(hp++[o])[hp.length]?=some o:=by simp
theorem bf (h:hp[i]?=some o'):(hp.set i o)[i]?=some o:=by rw [List.getElem?_set_self (G4.mp h).1]
theorem aO (n:i≠j) (h:hp[j]?=some o'):(hp.set i o)[j]?=some o':=by rw [List.getElem?_set_ne n];exact h
theorem ae {hp hp':List O} (x:hp<+:hp') {i:Nat} {o:O} (h:hp[i]?=some o):hp'[i]?=some o:=by obtain ⟨t,rfl⟩:=x;exact af h
theorem hY (x:hp<+:hp') (l:List O):hp<+:hp'++l:=x.trans (GV _ _)
theorem cF (x:hp<+:hp') (n:hp.length≤i):hp<+:hp'.set i o:=by
 obtain ⟨t,rfl⟩:=x
 rw [List.set_append_right _ _ n];exact GV _ _
theorem aE (h:hp[i]?=some o):i<hp.length:=(G4.mp h).1
theorem zh (h:hp[j]?=some o) (n:hp.length≤i):i≠j:=λe=>by have:=aE h;exact Cm n e this
theorem bH (x:hp<+:hp'):hp.length≤hp'.length:=x.length_le
theorem qT (h:Q a ⟨hp,m⟩):(pure a:PT β) ⟨hp,m⟩ Q E:=h
theorem kF (h:k a ⟨hp,m⟩ Q E):((pure a:PT α)>>=k) ⟨hp,m⟩ Q E:=h
theorem Fj (h:(p>>=λx=>q x>>=k) ⟨hp,m⟩ Q E):((p>>=q)>>=k) ⟨hp,m⟩ Q E:=h
theorem qU {k:Unit->PT β} {p:Prop} (h:p) (h':k () ⟨hp,m⟩ Q E):(bc p>>=k) ⟨hp,m⟩ Q E:=⟨h,h'⟩
theorem GB {k:V->PT β} {x:Str} {v:V} (h:m x=some v) (h':k v ⟨hp,m⟩ Q E):(ad x>>=k) ⟨hp,m⟩ Q E:=by
 show (match m x with|some v=>k v ⟨hp,m⟩ Q E|none=>False);rw [h];exact h'
theorem lR {k:Unit->PT β} {x:Str} {v:V} (h':k () ⟨hp,upd m x v⟩ Q E):(al x v>>=k) ⟨hp,m⟩ Q E:=h'
theorem fZ {k:V->PT β} {o:O} (h':k (.obj hp.length) ⟨hp++[o],m⟩ Q E):(dg o>>=k) ⟨hp,m⟩ Q E:=h'
theorem aR {k:V->PT β} {vs:List V} (h:vs.length≤lim) (h':k (.obj hp.length) ⟨hp++[.list vs],m⟩ Q E):(newList vs>>=k) ⟨hp,m⟩ Q E:=⟨h,h'⟩
theorem jD {k:V->PT β} {vs:List V} (h:vs.length≤lim) (h':k (.obj hp.length) ⟨hp++[.tup vs],m⟩ Q E):(cu vs>>=k) ⟨hp,m⟩ Q E:=⟨h,h'⟩
theorem jq (h1:c=true->(a>>=k) ⟨hp,m⟩ Q E) (h2:c=false->(b>>=k) ⟨hp,m⟩ Q E):((if c=true then a else b)>>=k) ⟨hp,m⟩ Q E:=by
 induction c with
 |true=>exact h1 rfl
 |false=>exact h2 rfl
theorem bN (h1:c=true->a ⟨hp,m⟩ Q E) (h2:c=false->b ⟨hp,m⟩ Q E):(if c=true then a else b:PT β) ⟨hp,m⟩ Q E:=by
 induction c with
 |true=>exact h1 rfl
 |false=>exact h2 rfl
theorem au {k:Nat×O->PT β} {i:Nat} {o:O} (h:hp[i]?=some o) (h':k (i,o) ⟨hp,m⟩ Q E):(bX (.obj i)>>=k) ⟨hp,m⟩ Q E:=by
 show (match hp[i]? with|some o=>k (i,o) ⟨hp,m⟩ Q E|none=>False);rw [h];exact h'
theorem Fk {k:Bool->PT β} {b:Bool} (h':k b ⟨hp,m⟩ Q E):(ag (.bool b)>>=k) ⟨hp,m⟩ Q E:=h'
theorem wa {k:Bool->PT β} (h':k false ⟨hp,m⟩ Q E):(ag .none>>=k) ⟨hp,m⟩ Q E:=h'
theorem wb {k:Bool->PT β} {i:Int} (h':k (i !=0) ⟨hp,m⟩ Q E):(ag (.int i)>>=k) ⟨hp,m⟩ Q E:=h'
theorem d9 {k:Bool->PT β} {i:Nat} {vs:List V} (h:hp[i]?=some (.list vs)) (hl:vs.length≤lim) (h':k (!vs.isEmpty) ⟨hp,m⟩ Q E):(ag (.obj i)>>=k) ⟨hp,m⟩ Q E:=by
 show (ag (.obj i)) _ _ _;unfold ag;refine au h ?_;exact ⟨hl,h'⟩
theorem wc {k:Bool->PT β} {i:Nat} {vs:List Int} (h:hp[i]?=some (.ro vs)) (hl:vs.length≤lim) (h':k (!vs.isEmpty) ⟨hp,m⟩ Q E):(ag (.obj i)>>=k) ⟨hp,m⟩ Q E:=by
 show (ag (.obj i)) _ _ _;unfold ag;refine au h ?_;exact ⟨hl,h'⟩
theorem wd {k:V->PT β} {i j:Nat} (h1:dW hp (.obj i)=true) (h2:dW hp (.obj j)=true) (h':k (.bool (decide (i=j))) ⟨hp,m⟩ Q E):(bb .Is (.obj i) (.obj j)>>=k) ⟨hp,m⟩ Q E:=⟨h1,h2,h'⟩
theorem tq {k:V->PT β} {i j:Nat} (h1:dW hp (.obj i)=true) (h2:dW hp (.obj j)=true) (h':k (.bool (!decide (i=j))) ⟨hp,m⟩ Q E):(bb .IsNot (.obj i) (.obj j)>>=k) ⟨hp,m⟩ Q E:=⟨h1,h2,h'⟩
theorem vl {k:V->PT β} {i:Nat} (h':k (.bool false) ⟨hp,m⟩ Q E):(bb .Is (.obj i) .none>>=k) ⟨hp,m⟩ Q E:=h'
theorem qV {k:V->PT β} (h':k (.bool true) ⟨hp,m⟩ Q E):(bb .Is .none .none>>=k) ⟨hp,m⟩ Q E:=h'
theorem lS {k:V->PT β} {i:Nat} (h':k (.bool true) ⟨hp,m⟩ Q E):(bb .IsNot (.obj i) .none>>=k) ⟨hp,m⟩ Q E:=h'
theorem qW {k:V->PT β} {b:Bool} (h':k (.bool true) ⟨hp,m⟩ Q E):(bb .IsNot (.bool b) .none>>=k) ⟨hp,m⟩ Q E:=h'
theorem eV {k:V->PT β} (h':k (.bool false) ⟨hp,m⟩ Q E):(bb .IsNot .none .none>>=k) ⟨hp,m⟩ Q E:=h'
theorem GR {k:V->PT β} {i j:Int} (h':k (.bool (decide (i<j))) ⟨hp,m⟩ Q E):(bb .Lt (.int i) (.int j)>>=k) ⟨hp,m⟩ Q E:=h'
theorem GS {k:V->PT β} {i j:Int} (h':k (.bool (decide (j<i))) ⟨hp,m⟩ Q E):(bb .Gt (.int i) (.int j)>>=k) ⟨hp,m⟩ Q E:=h'
theorem we {k:V->PT β} {a b:V} {x y:N2} (h1:aQ hp 3 a=some x) (h2:aQ hp 3 b=some y) (h':k (.bool (Lh x y)) ⟨hp,m⟩ Q E):(bb .Eq a b>>=k) ⟨hp,m⟩ Q E:=by
 show (match aQ hp 3 a,aQ hp 3 b with|some x,some y=>k (.bool (Lh x y)) ⟨hp,m⟩ Q E|_,_=>False);rw [h1,h2];exact h'
theorem ot {k:V->PT β} {a b:V} {x y:N2} (h1:aQ hp 3 a=some x) (h2:aQ hp 3 b=some y) (h':k (.bool (!Lh x y)) ⟨hp,m⟩ Q E):(bb .NotEq a b>>=k) ⟨hp,m⟩ Q E:=by
 show (match aQ hp 3 a,aQ hp 3 b with|some x,some y=>k (.bool (!Lh x y)) ⟨hp,m⟩ Q E|_,_=>False);rw [h1,h2];exact h'
theorem kG (ns:List Int):dC (ns.map V.int)=some ns:=by induction ns with|nil=>rfl|cons x r ih=>show (dC (r.map V.int)).map _=_;rw [ih];rfl
theorem vm {k:V->PT β} {i:Nat} {ns:List Int} {a:Int} (h:hp[i]?=some (.list (ns.map .int))) (hl:ns.length≤lim) (h':k (.bool (decide (a∈ns))) ⟨hp,m⟩ Q E):(bb .In (.int a) (.obj i)>>=k) ⟨hp,m⟩ Q E:=by
 show (inP (.int a) (.obj i)) _ _ _;unfold inP;refine au h ?_;dsimp only;rw [kG];exact ⟨by simpa using hl,h'⟩
theorem lT {k:V->PT β} {i:Nat} {ns:List Int} {a:Int} (h:hp[i]?=some (.list (ns.map .int))) (hl:ns.length≤lim) (h':k (.bool (!decide (a∈ns))) ⟨hp,m⟩ Q E):(bb .NotIn (.int a) (.obj i)>>=k) ⟨hp,m⟩ Q E:=by
 show (inP (.int a) (.obj i)) _ _ _;unfold inP;refine au h ?_;dsimp only;rw [kG];exact ⟨by simpa using hl,h'⟩
theorem zL {k:V->PT β} {i:Nat} {ns:List Int} {es:Array (Int×Value)} {ep:Nat} {t:KZ} {a:Int} (h:hp[i]?=some (.set ns es ep t)) (h':k (.bool (decide (a∈ns))) ⟨hp,m⟩ Q E):(bb .In (.int a) (.obj i)>>=k) ⟨hp,m⟩ Q E:=by
 show (inP (.int a) (.obj i)) _ _ _;unfold inP;refine au h ?_;exact h'
theorem lU {k:V->PT β} {i:Nat} {ns:List Int} {es:Array (Int×Value)} {ep:Nat} {t:KZ} {a:Int} (h:hp[i]?=some (.set ns es ep t)) (h':k (.bool (!decide (a∈ns))) ⟨hp,m⟩ Q E):(bb .NotIn (.int a) (.obj i)>>=k) ⟨hp,m⟩ Q E:=by
 show (inP (.int a) (.obj i)) _ _ _;unfold inP;refine au h ?_;exact h'
theorem qX {k:V->PT β} {i ep:Nat} {kv:List (Int×V)} {a:Int} (h:hp[i]?=some (.dict ep kv)) (h':k (.bool (!(aj kv a).isSome)) ⟨hp,m⟩ Q E):(bb .NotIn (.int a) (.obj i)>>=k) ⟨hp,m⟩ Q E:=by
 show (inP (.int a) (.obj i)) _ _ _;unfold inP;refine au h ?_;exact h'
theorem zM {k:V->PT β} {i j C:Nat} {fs:List (Str×V)} {vs:List V} (h:hp[j]?=some (.tup vs)) (h1:hp[i]?=some (.inst C fs)) (h2:∀v∈vs,∃j fs',v=.obj j∧hp[j]?=some (.inst C fs')) (h3:vs.length≤lim) (h':k (.bool (decide (V.obj i∈vs))) ⟨hp,m⟩ Q E):
  (bb .In (.obj i) (.obj j)>>=k) ⟨hp,m⟩ Q E:=by
 show (inP (.obj i) (.obj j)) _ _ _;unfold inP;refine au h ?_;exact ⟨⟨C,fs,h1,h2⟩,h3,h'⟩
theorem GC {k:V->PT β} {i j:Int} (h':k (.int (i+j)) ⟨hp,m⟩ Q E):(bD .Add (.int i) (.int j)>>=k) ⟨hp,m⟩ Q E:=h'
theorem GD {k:V->PT β} {i j:Int} (h':k (.int (i-j)) ⟨hp,m⟩ Q E):(bD .Sub (.int i) (.int j)>>=k) ⟨hp,m⟩ Q E:=h'
theorem qY {k:V->PT β} {i j:Int} (h:j≠0) (h':k (.int (i.fmod j)) ⟨hp,m⟩ Q E):(bD .Mod (.int i) (.int j)>>=k) ⟨hp,m⟩ Q E:=⟨h,h'⟩
theorem ou {k:V->PT β} {i j:Nat} {vs ws:List V} (h1:hp[i]?=some (.list vs)) (h2:hp[j]?=some (.list ws)) (hl:(vs++ws).length≤lim) (h':k (.obj hp.length) ⟨hp++[.list (vs++ws)],m⟩ Q E):
  (bD .Add (.obj i) (.obj j)>>=k) ⟨hp,m⟩ Q E:=by
 show (bD .Add (.obj i) (.obj j)) _ _ _;unfold bD;refine au h1 (au h2 ?_);exact ⟨hl,h'⟩
theorem zN {k:V->PT β} {i j:Nat} {xs ys:List Int} {es1 es2:Array (Int×Value)} {ep1 ep2:Nat} {t1 t2:KZ} (h1:hp[i]?=some (.set xs es1 ep1 t1)) (h2:hp[j]?=some (.set ys es2 ep2 t2))
  (h':∀es ep t,k (.obj hp.length) ⟨hp++[.set (aW ys xs) es ep t],m⟩ Q E):(bD .BitOr (.obj i) (.obj j)>>=k) ⟨hp,m⟩ Q E:=by
 show (bD .BitOr (.obj i) (.obj j)) _ _ _;unfold bD;refine au h1 (au h2 ?_);exact h'
theorem dk (h:x=some a) (h':k a ⟨hp,m⟩ Q E):(dp x>>=k) ⟨hp,m⟩ Q E:=by subst h;exact h'
theorem cR {k:V->PT β} {i ep:Nat} {kv:List (Int×V)} {n:Int} {v:V} (h:hp[i]?=some (.dict ep kv)) (hv:aj kv n=some v) (h':k v ⟨hp,m⟩ Q E):(aG (.obj i) (.int n)>>=k) ⟨hp,m⟩ Q E:=by
 show (aG (.obj i) (.int n)) _ _ _;unfold aG;refine au h (dk hv h')
theorem kH (h:j<n):idx n (j:Int)=some j:=by unfold idx;rw [RA (w5),HB,RA h]
theorem bQ {k:V->PT β} {i:Nat} {vs:List V} {j:Nat} {v:V} (h:hp[i]?=some (.list vs)) (hl:vs.length≤lim) (hv:vs[j]?=some v) (h':k v ⟨hp,m⟩ Q E):(aG (.obj i) (.int (j:Int))>>=k) ⟨hp,m⟩ Q E:=by
 have' hj:=(G4.mp hv).1
 show (aG (.obj i) (.int (j:Int))) _ _ _;unfold aG;refine au h ?_
 exact ⟨⟨by exact w36,by unfold lim at hl;exact w35 hl hj,hl⟩,dk (kH hj) (dk hv h')⟩
theorem ow {k:V->PT β} {i:Nat} {vs:List V} {j:Nat} {v:V} (h:hp[i]?=some (.tup vs)) (hl:vs.length≤lim) (hv:vs[j]?=some v) (h':k v ⟨hp,m⟩ Q E):(aG (.obj i) (.int (j:Int))>>=k) ⟨hp,m⟩ Q E:=by
 have' hj:=(G4.mp hv).1
 show (aG (.obj i) (.int (j:Int))) _ _ _;unfold aG;refine au h ?_
 exact ⟨⟨by exact w36,by unfold lim at hl;exact w35 hl hj,hl⟩,dk (kH hj) (dk hv h')⟩
theorem kI {k:V->PT β} {i:Nat} {ns:List Int} {j:Nat} {n:Int} (h:hp[i]?=some (.ro ns)) (hl:ns.length≤lim) (hv:ns[j]?=some n) (h':k (.int n) ⟨hp,m⟩ Q E):(aG (.obj i) (.int (j:Int))>>=k) ⟨hp,m⟩ Q E:=by
 have' hj:=(G4.mp hv).1
 show (aG (.obj i) (.int (j:Int))) _ _ _;unfold aG;refine au h ?_
 exact ⟨⟨by exact w36,by unfold lim at hl;exact w35 hl hj,hl⟩,dk (kH hj) (dk (by rw [hv];rfl) h')⟩
theorem qZ {k:V->PT β} {i:Nat} {vs:List V} {j:Nat} (h:hp[i]?=some (.list vs)) (hl:vs.length≤lim) (h':k (.obj hp.length) ⟨hp++[.list (vs.take j)],m⟩ Q E):(fg (.obj i) .none (.int (j:Int)) .none>>=k) ⟨hp,m⟩ Q E:=by
 show (fg (.obj i) .none (.int (j:Int)) .none) _ _ _;unfold fg;refine au h ?_
 exact ⟨⟨by exact w5,hl⟩,by rw [JM];exact Ct hl,by rw [HB];exact h'⟩
theorem wf {k:V->PT β} {i:Nat} {vs:List V} (h:hp[i]?=some (.list vs)) (hl:vs.length≤lim) (h':k (.obj hp.length) ⟨hp++[.list vs.reverse],m⟩ Q E):(fg (.obj i) .none .none (.int (-1))>>=k) ⟨hp,m⟩ Q E:=by
 show (fg (.obj i) .none .none (.int (-1))) _ _ _;unfold fg;refine au h ?_
 exact ⟨⟨rfl,hl⟩,by rw [IW];exact hl,h'⟩
end
set_option backward.match.sparseCases true
set_option backward.match.sparseCases false
def zO (q:PT Fl) (Q:Fl->AS->Prop) (E:Nat->AS->Prop) (f:Fl) (st:AS):Prop:=match f with
 |.next=>q st Q E
 |f=>Q f st
def jE (elt:PT V) (W:Option V->AS->Prop) (E:Nat->AS->Prop) (b:Bool) (st:AS):Prop:=if b=true then elt st (λy=>W (some y)) E else W none st
section
variable {α β:Type} {hp:List O} {m:bY} {Q:β->AS->Prop} {Qf:Fl->AS->Prop} {E:Nat->AS->Prop} {k:α->PT β}
def pA (q:PT Fl) (Q:Fl->AS->Prop) (E:Nat->AS->Prop) (K:Fl->AS->Prop):Prop:=∀f st,zO q Q E f st->K f st
theorem q0 (h:∀K,pA q Qf E K->p ⟨hp,m⟩ K E):aM p q ⟨hp,m⟩ Qf E:=by
 have e:(λf st'=>(match f with|.next=>q|f=>pure f:PT Fl) st' Qf E)=zO q Qf E:=by
  funext f st'
  cases f<;>rfl
 show p ⟨hp,m⟩ (λf st'=>(match f with|.next=>q|f=>pure f:PT Fl) st' Qf E) E
 rw [e];exact h _ λ_ _ z=>z
theorem A6 {q:PT Fl} {K:Fl->AS->Prop} (hK:pA q Qf E K) (h:q ⟨hp,m⟩ Qf E):K .next ⟨hp,m⟩:=hK .next _ h
theorem Fm {q:PT Fl} {K:Fl->AS->Prop} {v:V} (hK:pA q Qf E K) (h:Qf (.ret v) ⟨hp,m⟩):K (.ret v) ⟨hp,m⟩:=hK (.ret v) _ h
theorem A7 {q:PT Fl} {K:Fl->AS->Prop} (hK:pA q Qf E K) (h:Qf .cont ⟨hp,m⟩):K .cont ⟨hp,m⟩:=hK .cont _ h
theorem A8 (h:W hp m):gL W Qf .next ⟨hp,m⟩:=h
theorem A9 (h:W hp m):gL W Qf .cont ⟨hp,m⟩:=h
theorem Fn (h:Qf (.ret v) ⟨hp,m⟩):gL W Qf (.ret v) ⟨hp,m⟩:=h
theorem bA {γ:Type} {f:γ->V} {xs:List γ} {G:List O->Prop} {step:V->PT Fl} {items:List V} (hi:items=xs.map f) (I:List γ->List O->bY->Prop) (h0:I [] hp m)
  (hG:∀pre hp m,I pre hp m->G hp)
  (hs:∀pre x post hp m W,xs=pre++x::post->I pre hp m->(∀hp m,I (pre++[x]) hp m->W hp m)->step (f x) ⟨hp,m⟩ (gL W Qf) E)
  (hq:∀hp m,I xs hp m->Qf .next ⟨hp,m⟩):bq G step items ⟨hp,m⟩ Qf E:=by
 subst hi
 have main:∀(post pre:List γ) (hp:List O) (m:bY),xs=pre++post->I pre hp m->bq G step (post.map f) ⟨hp,m⟩ Qf E:=by
  intro post
  induction post with
  |nil=>
   intro pre hp m e hI
   rw [HR] at e;subst e
   exact ⟨hG _ _ _ hI,hq _ _ hI⟩
  |cons x post ih=>
   intro pre hp m e hI
   refine ⟨hG _ _ _ hI,?_⟩
   exact hs pre x post hp m _ e hI λhp' m' h=>ih (pre++[x]) hp' m' (by rw [e];simp) h
 exact main xs [] hp m rfl h0
theorem ib (I:Nat->List O->bY->Prop) (n:Nat) (h0:I n hp m)
  (hs:∀n hp m W,I n hp m->(∀n' hp m,n'<n->I n' hp m->W hp m)->t ⟨hp,m⟩ (λc st'=>if c=true then b st' (gL W Qf) E else Qf .next st') E):iA t b ⟨hp,m⟩ Qf E:=by
 have main:∀(N n:Nat) (hp:List O) (m:bY),n≤N->I n hp m->gu t b (N+1) ⟨hp,m⟩ Qf E:=by
  intro N
  induction N with
  |zero=>
   intro n hp m hn hI
   exact hs n hp m _ hI λn' hp' m' h h'=>by omega
  |succ N ih=>
   intro n hp m hn hI
   exact hs n hp m _ hI λn' hp' m' h h'=>ih n' hp' m' (w12 hn h) h'
 exact ⟨n+1,main n n hp m (GW _) h0⟩
theorem b0 {γ:Type} {l pre post:List γ} {x:γ} (e:l=pre++x::post):x∈l:=e▸List.mem_append_right _ (.head _)
theorem lm {α β:Type} {f:α->β} {l:List α} (h:l.length≤100000):(l.map f).length≤lim:=G2 (HN (G6 f)) h
theorem lmt {α β:Type} {f:α->β} {l:List α} (h:l.length<100000):(l.map f).length<lim:=HX (HN (G6 f)) h
theorem kJ {γ:Type} {l pre post:List γ} {x:γ} (e:l=pre++x::post):l[pre.length]?=some x:=by rw [e,Hh (GW _),Nat.sub_self];rfl
theorem tu {γ:Type} {l pre post:List γ} {x:γ} (e:l=pre++x::post):pre.length<l.length:=(G4.mp (kJ e)).1
theorem gF {k N:Nat} {pre post:List Nat} (e:Hf N=pre++k::post):k=pre.length∧k<N:=by
 obtain ⟨h1,h2⟩:=G4.mp (kJ e)
 rw [List.getElem_range] at h2
 rw [HA] at h1
 exact ⟨h2.symm,h2▸h1⟩
theorem tw (m:bY) (x:Str) (v w:V):upd (upd m x v) x w=upd m x w:=by
 funext y;unfold upd;split<;>rfl
theorem eD {γ:Type} {k:List V->PT β} {f:γ->V} {xs:List γ} {ns:List (Str×K0)} {x:Str} {ifs:PT Bool} {elt:PT V} {src:Src} (I:List γ->List V->List O->Prop) (hi:src.items=xs.map f) (h0:I [] [] hp)
  (hG:∀pre acc hp,I pre acc hp->src.G hp)
  (hs:∀pre a post acc hp (W:Option V->AS->Prop) (E':Nat->AS->Prop),xs=pre++a::post->I pre acc hp->(∀(o:Option V) hp,I (pre++[a]) (acc++o.toList) hp->W o ⟨hp,upd (dD ns m) x (f a)⟩)->(∀C hp m',E C ⟨hp,m⟩->E' C ⟨hp,m'⟩)->
   ifs ⟨hp,upd (dD ns m) x (f a)⟩ (jE elt W E') E')
  (hq:∀acc hp,I xs acc hp->k acc ⟨hp,m⟩ Q E):(bP ns x ifs elt src>>=k) ⟨hp,m⟩ Q E:=by
 have main:∀(post pre:List γ) (hp:List O) (acc:List V) (m':bY) (R:List V->AS->Prop),xs=pre++post->I pre acc hp->(∀v,upd m' x v=upd (dD ns m) x v)->(∀l st',I xs (acc++l) st'.hp->R l st')->
   gM src.G (λv=>do
    al x v
    let b <-ifs
    if b=true then (do let y <-elt;pure (some y)) else pure none) (post.map f) ⟨hp,m'⟩ R (λC st'=>E C ⟨st'.hp,m⟩):=by
  intro post
  induction post with
  |nil=>
   intro pre hp acc m' R e hI hm hR
   rw [HR] at e;subst e
   exact ⟨hG _ _ _ hI,hR _ _ (by rw [HR];exact hI)⟩
  |cons a post ih=>
   intro pre hp acc m' R e hI hm hR
   refine ⟨hG _ _ _ hI,?_⟩
   generalize hstep:(λv=>(do
    al x v
    let b <-ifs
    if b=true then (do let y <-elt;pure (some y)) else pure none:PT (Option V)))=stp at ih⊢
   have e3:∀(Q':Option V->AS->Prop),stp (f a) ⟨hp,m'⟩ Q' (λC st'=>E C ⟨st'.hp,m⟩)=ifs ⟨hp,upd (dD ns m) x (f a)⟩ (jE elt Q' (λC st'=>E C ⟨st'.hp,m⟩)) (λC st'=>E C ⟨st'.hp,m⟩):=by
    intro Q'
    have e4:(λ(b:Bool) st'=>(if b=true then (do let y <-elt;pure (some y)) else pure none:PT (Option V)) st' Q' (λC st'=>E C ⟨st'.hp,m⟩))=jE elt Q' (λC st'=>E C ⟨st'.hp,m⟩):=by
     funext b st'
     cases b<;>rfl
    rw [<-hm (f a),<-hstep,<-e4];rfl
   show stp (f a) ⟨hp,m'⟩ (λo st'=>gM src.G stp (post.map f) st' (λl st''=>R (match o with|some y=>y::l|none=>l) st'') (λC st'=>E C ⟨st'.hp,m⟩)) _
   rw [e3]
   refine hs pre a post acc hp (λo st'=>gM src.G stp (post.map f) st' (λl st''=>R (match o with|some y=>y::l|none=>l) st'') (λC st'=>E C ⟨st'.hp,m⟩)) (λC st'=>E C ⟨st'.hp,m⟩) e hI (λo hp' h=>?_) λC hp' m' h=>h
   refine ih (pre++[a]) hp' (acc++o.toList) _ _ (by rw [e];simp) h (λv=>by rw [tw]) λl st' hl=>hR _ _ ?_
   induction o with
   |none=>simpa using hl
   |some y=>simpa using hl
 have':=main xs [] hp [] (dD ns m) (λvs st'=>k vs ⟨st'.hp,m⟩ Q E) rfl h0 (λv=>rfl) λl st' h=>hq _ _ (by simpa using h)
 rw [<-hi] at this
 exact this
end
set_option backward.match.sparseCases true
set_option backward.match.sparseCases false
section
variable {β:Type} {hp:List O} {m:bY} {Q:β->AS->Prop} {E:Nat->AS->Prop} {fn:FnT} {hd:Bool}
theorem bi (h:hp[i]?=some (.list vs)) (hl:vs.length≤lim) (h':k ⟨vs,λhp=>hp[i]?=some (.list vs)⟩ ⟨hp,m⟩ Q E):(aI true (.obj i)>>=k) ⟨hp,m⟩ Q E:=by
 show (aI true (.obj i)) _ _ _;unfold aI;exact ⟨rfl,au h ⟨hl,h'⟩⟩
theorem fF (h:hp[i]?=some (.tup vs)) (hl:vs.length≤lim) (h':k ⟨vs,λhp=>hp[i]?=some (.tup vs)⟩ ⟨hp,m⟩ Q E):(aI true (.obj i)>>=k) ⟨hp,m⟩ Q E:=by
 show (aI true (.obj i)) _ _ _;unfold aI;exact ⟨rfl,au h ⟨hl,h'⟩⟩
theorem nG (h:hp[i]?=some (.dict ep kv)) (hl:kv.length≤lim)
  (h':k ⟨kv.map λp=>.int p.1,λhp=>∃kv',hp[i]?=some (.dict ep kv')∧kv'.map (·.1)=kv.map (·.1)⟩ ⟨hp,m⟩ Q E):(aI true (.obj i)>>=k) ⟨hp,m⟩ Q E:=by
 show (aI true (.obj i)) _ _ _;unfold aI;exact ⟨rfl,au h ⟨hl,h'⟩⟩
theorem rc (h:hp[i]?=some (.set ns es ep t))
  (h':∀ws:List Int,ws.Perm ns->k ⟨ws.map V.int,λhp=>hp[i]?=some (.set ns es ep t)⟩ ⟨hp,m⟩ Q E):(aI true (.obj i)>>=k) ⟨hp,m⟩ Q E:=by
 show (aI true (.obj i)) _ _ _;unfold aI;exact ⟨rfl,au h h'⟩
theorem vn (h:hp[i]?=some (.list vs)) (hl:vs.length≤lim) (h':k ⟨vs.reverse,λhp=>hp[i]?=some (.list vs)⟩ ⟨hp,m⟩ Q E):(gK (.obj i)>>=k) ⟨hp,m⟩ Q E:=by
 show (gK (.obj i)) _ _ _;unfold gK;exact au h ⟨hl,h'⟩
theorem eW (hl:n≤lim) (h':k ⟨(Hf n).map λ(j:Nat)=>V.int j,λ_=>True⟩ ⟨hp,m⟩ Q E):(cq true [.int (n:Int)]>>=k) ⟨hp,m⟩ Q E:=by
 show (cq true [.int (n:Int)]) _ _ _;unfold cq;exact ⟨⟨rfl,by exact w5,by exact w69 hl⟩,by rw [HB];exact h'⟩
theorem cY (hf:fn f []=some F) (h':F hd vs hp (λv hp'=>k v ⟨hp',m⟩ Q E) (λC hp'=>E C ⟨hp',m⟩)):(az (gam fn) hd (.ref f) vs>>=k) ⟨hp,m⟩ Q E:=by
 show (az (gam fn) hd (.ref f) vs) _ _ _
 have:az (gam fn) hd (.ref f) vs=dh hd F vs:=by
  show (match fn f [] with|some F=>dh hd F vs|none=>_)=_
  rw [hf]
 rw [this];exact h'
theorem oz (hf:fn f ks=some F) (h':F hd vs hp (λv hp'=>k v ⟨hp',m⟩ Q E) (λC hp'=>E C ⟨hp',m⟩)):(fA (gam fn) hd (.ref f) ks vs>>=k) ⟨hp,m⟩ Q E:=by
 show (fA (gam fn) hd (.ref f) ks vs) _ _ _
 have:fA (gam fn) hd (.ref f) ks vs=dh hd F vs:=by
  show (match fn f ks with|some F=>dh hd F vs|none=>_)=_
  rw [hf]
 rw [this];exact h'
theorem dO (hf:fn f []=some F) (h':F hd vs hp (λv hp'=>k v ⟨hp',m⟩ Q E) (λC hp'=>E C ⟨hp',m⟩)):(cv (gam fn) hd f vs>>=k) ⟨hp,m⟩ Q E:=by
 show (cv (gam fn) hd f vs) _ _ _
 have:cv (gam fn) hd f vs=dh hd F vs:=by
  show (match fn f [] with|some F=>dh hd F vs|none=>_)=_
  rw [hf]
 rw [this];exact h'
theorem nH (hn:fn C []=none) (he:(gam fn).exc C=false) (hi:(gam fn).init C=some f) (hf:fn f []=some F)
  (h':F hd (.obj hp.length::vs) (hp++[.inst C []]) (λv hp'=>v=.none∧k (.obj hp.length) ⟨hp',m⟩ Q E) (λC hp'=>E C ⟨hp',m⟩)):(az (gam fn) hd (.ref C) vs>>=k) ⟨hp,m⟩ Q E:=by
 show (az (gam fn) hd (.ref C) vs) _ _ _
 have:az (gam fn) hd (.ref C) vs=fq (gam fn) hd C vs:=by
  show (match fn C [] with|some F=>dh hd F vs|none=>if (gam fn).exc C=true then _ else fq (gam fn) hd C vs)=_
  rw [hn];dsimp only;rw [Rz (by rw [he];decide)]
 rw [this];unfold fq;rw [hi]
 refine fZ ?_
 exact dO (k:=λr=>do bc (r=.none);pure (.obj hp.length)) (Q:=λa st'=>k a st' Q E) (E:=E) hf h'
theorem zP (hn:fn C []=none) (he:(gam fn).exc C=true) (ho:(gam fn).excOk C vs hp) (h':k (.obj hp.length) ⟨hp++[.exc C],m⟩ Q E):(az (gam fn) hd (.ref C) vs>>=k) ⟨hp,m⟩ Q E:=by
 show (az (gam fn) hd (.ref C) vs) _ _ _
 have:az (gam fn) hd (.ref C) vs=(do em ((gam fn).excOk C vs);dg (.exc C)):=by
  show (match fn C [] with|some F=>dh hd F vs|none=>if (gam fn).exc C=true then _ else fq (gam fn) hd C vs)=_
  rw [hn];dsimp only;rw [RA he]
 rw [this];exact ⟨ho,h'⟩
theorem gG (h:hp[i]?=some (.list vs)) (hl:vs.length≤lim) (h':k (.int vs.length) ⟨hp,m⟩ Q E):(az (gam fn) hd (.builtin "len") [.obj i]>>=k) ⟨hp,m⟩ Q E:=by
 show (kh (.obj i)) _ _ _;unfold kh;exact au h ⟨hl,h'⟩
theorem wg (h:hp[i]?=some (.tup vs)) (hl:vs.length≤lim) (h':k (.int vs.length) ⟨hp,m⟩ Q E):(az (gam fn) hd (.builtin "len") [.obj i]>>=k) ⟨hp,m⟩ Q E:=by
 show (kh (.obj i)) _ _ _;unfold kh;exact au h ⟨hl,h'⟩
theorem rd (h:hp[i]?=some (.ro ns)) (hl:ns.length≤lim) (h':k (.int ns.length) ⟨hp,m⟩ Q E):(az (gam fn) hd (.builtin "len") [.obj i]>>=k) ⟨hp,m⟩ Q E:=by
 show (kh (.obj i)) _ _ _;unfold kh;exact au h ⟨hl,h'⟩
theorem iT (h:hp[i]?=some (.list vs)) (hl:vs.length≤lim) (h':k (.obj hp.length) ⟨hp++[.tup vs],m⟩ Q E):(az (gam fn) hd (.type "tuple") [.obj i]>>=k) ⟨hp,m⟩ Q E:=by
 show (mS (.obj i)) _ _ _;unfold mS;exact au h ⟨hl,h'⟩
theorem lV (h:hp[i]?=some (.tup vs)) (h':k (.obj i) ⟨hp,m⟩ Q E):(az (gam fn) hd (.type "tuple") [.obj i]>>=k) ⟨hp,m⟩ Q E:=by
 show (mS (.obj i)) _ _ _;unfold mS;exact au h h'
theorem tx (h:hp[i]?=some (.list vs)) (hl:vs.length≤lim) (h':k (.obj hp.length) ⟨hp++[.list vs],m⟩ Q E):(az (gam fn) hd (.type "list") [.obj i]>>=k) ⟨hp,m⟩ Q E:=by
 show (ix (.obj i)) _ _ _;unfold ix;exact au h ⟨hl,h'⟩
theorem eX (h:hp[i]?=some (.tup vs)) (hl:vs.length≤lim) (h':k (.obj hp.length) ⟨hp++[.list vs],m⟩ Q E):(az (gam fn) hd (.type "list") [.obj i]>>=k) ⟨hp,m⟩ Q E:=by
 show (ix (.obj i)) _ _ _;unfold ix;exact au h ⟨hl,h'⟩
theorem re (h':∀es ep t,k (.obj hp.length) ⟨hp++[.set [] es ep t],m⟩ Q E):(az (gam fn) hd (.type "set") []>>=k) ⟨hp,m⟩ Q E:=h'
theorem zQ (h:hp[i]?=some (.list (ns.map .int))) (hn:∀x∈ns,0≤x∧x<7) (h':∀es ep t,k (.obj hp.length) ⟨hp++[.set (aW ns []) es ep t],m⟩ Q E):
  (az (gam fn) true (.type "set") [.obj i]>>=k) ⟨hp,m⟩ Q E:=by
 show (qe true (.obj i)) _ _ _;unfold qe;refine ⟨rfl,au h ?_⟩;dsimp only;rw [kG];exact ⟨hn,h'⟩
theorem rf (h:hp[i]?=some (.set ns es ep t)) (hl:ns.length≤lim) (h':k (.obj hp.length) ⟨hp++[.list (ns.map .int)],m⟩ Q E):
  (az (gam fn) true (.builtin "sorted") [.obj i]>>=k) ⟨hp,m⟩ Q E:=by
 show (lw true (.obj i)) _ _ _;unfold lw;refine ⟨rfl,au h ⟨by simpa using hl,h'⟩⟩
theorem b4 (h:hp[i]?=some (.inst C fs)) (ha:(b5 C).lookup x=some (.fn f)) (hn:aj fs x=none) (h':k (.fn f) ⟨hp,m⟩ Q E):(aA (gam fn) (.obj i) x>>=k) ⟨hp,m⟩ Q E:=by
 show (aA (gam fn) (.obj i) x) _ _ _;unfold aA;refine au h ?_;dsimp only
 rw [show (gam fn).ak C x=some (.fn f) from ha];exact ⟨hn,h'⟩
theorem oA (h:hp[i]?=some (.inst C fs)) (ha:(b5 C).lookup x=some (.stat f)) (hn:aj fs x=none) (h':k (.stat f) ⟨hp,m⟩ Q E):(aA (gam fn) (.obj i) x>>=k) ⟨hp,m⟩ Q E:=by
 show (aA (gam fn) (.obj i) x) _ _ _;unfold aA;refine au h ?_;dsimp only
 rw [show (gam fn).ak C x=some (.stat f) from ha];exact ⟨hn,h'⟩
theorem ct (h:hp[i]?=some (.list vs)) (ha:cb .lst x=true) (h':k .lst ⟨hp,m⟩ Q E):(aA (gam fn) (.obj i) x>>=k) ⟨hp,m⟩ Q E:=by
 show (aA (gam fn) (.obj i) x) _ _ _;unfold aA;exact au h ⟨ha,h'⟩
theorem pB (h:hp[i]?=some (.set ns es ep t)) (ha:cb .set x=true) (h':k .set ⟨hp,m⟩ Q E):(aA (gam fn) (.obj i) x>>=k) ⟨hp,m⟩ Q E:=by
 show (aA (gam fn) (.obj i) x) _ _ _;unfold aA;exact au h ⟨ha,h'⟩
theorem kK (h:hp[i]?=some (.dict ep kv)) (ha:cb .dct x=true) (h':k .dct ⟨hp,m⟩ Q E):(aA (gam fn) (.obj i) x>>=k) ⟨hp,m⟩ Q E:=by
 show (aA (gam fn) (.obj i) x) _ _ _;unfold aA;exact au h ⟨ha,h'⟩
theorem cG (hf:fn f []=some F) (h':F hd (v::vs) hp (λv hp'=>k v ⟨hp',m⟩ Q E) (λC hp'=>E C ⟨hp',m⟩)):(ax (gam fn) hd v x (.fn f) vs>>=k) ⟨hp,m⟩ Q E:=
 dO hf h'
theorem rh (hf:fn f []=some F) (h':F hd vs hp (λv hp'=>k v ⟨hp',m⟩ Q E) (λC hp'=>E C ⟨hp',m⟩)):(ax (gam fn) hd v x (.stat f) vs>>=k) ⟨hp,m⟩ Q E:=
 dO hf h'
theorem pC:("append":Str)≠"insert":=by decide+kernel
theorem ck (h:hp[i]?=some (.list vs)) (hl:vs.length<lim) (h':k .none ⟨hp.set i (.list (vs++[y])),m⟩ Q E):(ax (gam fn) hd (.obj i) "append" .lst [y]>>=k) ⟨hp,m⟩ Q E:=by
 show (do let (i,o) <-bX (.obj i);match o with|.list l=>dI i l "append" [y]|_=>PT.stuck:PT V) _ _ _
 refine au h ?_;dsimp only;unfold dI;rw [RA rfl];exact ⟨hl,h'⟩
theorem ri (h:hp[i]?=some (.list vs)) (hl:vs.length<lim) (h':k .none ⟨hp.set i (.list (y::vs)),m⟩ Q E):(ax (gam fn) hd (.obj i) "insert" .lst [.int 0,y]>>=k) ⟨hp,m⟩ Q E:=by
 show (do let (i,o) <-bX (.obj i);match o with|.list l=>dI i l "insert" [.int 0,y]|_=>PT.stuck:PT V) _ _ _
 refine au h ?_;dsimp only;unfold dI;rw [Rz pC.symm,RA rfl];exact ⟨⟨rfl,hl⟩,h'⟩
theorem rj (h:hp[i]?=some (.set ns es ep t)) (h1:0≤n) (h2:n<7) (h':∀es ep t,k .none ⟨hp.set i (.set (cI n ns) es ep t),m⟩ Q E):
  (ax (gam fn) hd (.obj i) "add" .set [.int n]>>=k) ⟨hp,m⟩ Q E:=by
 show (do let (i,o) <-bX (.obj i);match o with|.set l _ _ _=>gZ i l "add" [.int n]|_=>PT.stuck:PT V) _ _ _
 refine au h ?_;dsimp only;unfold gZ;rw [RA rfl];exact ⟨⟨h1,h2⟩,h'⟩
theorem wh:("get":Str)≠"clear":=by decide+kernel
theorem jF (h:hp[i]?=some (.dict ep kv)) (h':k ((aj kv n).getD d) ⟨hp,m⟩ Q E):(ax (gam fn) hd (.obj i) "get" .dct [.int n,d]>>=k) ⟨hp,m⟩ Q E:=by
 show (do let (i,o) <-bX (.obj i);match o with|.dict _ l=>dJ i l "get" [.int n,d]|_=>PT.stuck:PT V) _ _ _
 refine au h ?_;dsimp only;unfold dJ;rw [RA rfl];exact h'
theorem tz (h:hp[i]?=some (.dict ep kv)) (hl:kv.length≤lim) (h':∀ep,k .none ⟨hp.set i (.dict ep []),m⟩ Q E):(ax (gam fn) hd (.obj i) "clear" .dct []>>=k) ⟨hp,m⟩ Q E:=by
 show (do let (i,o) <-bX (.obj i);match o with|.dict _ l=>dJ i l "clear" []|_=>PT.stuck:PT V) _ _ _
 refine au h ?_;dsimp only;unfold dJ;rw [Rz wh.symm,RA rfl];exact ⟨hl,h'⟩
theorem bR (h:hp[i]?=some (.inst C fs)) (ha:(b5 C).lookup x=some .field) (hv:aj fs x=some v) (h':k v ⟨hp,m⟩ Q E):(am (gam fn) hd (.obj i) x>>=k) ⟨hp,m⟩ Q E:=by
 show (am (gam fn) hd (.obj i) x) _ _ _;unfold am;refine au h ?_;dsimp only
 rw [show (gam fn).ak C x=some .field from ha];show (dp (aj fs x):PT V) _ _ _;rw [hv];exact h'
theorem du (h:hp[i]?=some (.inst C fs)) (ha:(b5 C).lookup x=some (.val y)) (hv:(aj fs x).getD y=v) (h':k v ⟨hp,m⟩ Q E):(am (gam fn) hd (.obj i) x>>=k) ⟨hp,m⟩ Q E:=by
 show (am (gam fn) hd (.obj i) x) _ _ _;unfold am;refine au h ?_;dsimp only
 rw [show (gam fn).ak C x=some (.val y) from ha];subst hv;exact h'
theorem kL (h:hp[i]?=some (.inst C fs)) (ha:(b5 C).lookup x=some (.prop f)) (hf:fn f []=some F)
  (h':F hd [.obj i] hp (λv hp'=>k v ⟨hp',m⟩ Q E) (λ_ _=>False)):(am (gam fn) hd (.obj i) x>>=k) ⟨hp,m⟩ Q E:=by
 show (am (gam fn) hd (.obj i) x) _ _ _;unfold am;refine au h ?_;dsimp only
 rw [show (gam fn).ak C x=some (.prop f) from ha]
 exact dO (k:=pure) (Q:=λv st'=>k v st' Q E) (E:=λ_ _=>False) hf h'
theorem c7 (h:hp[i]?=some (.inst C fs)) (ha:(b5 C).lookup x=some .field∨∃y,(b5 C).lookup x=some (.val y)) (hl:fs.length≤100) (h':k () ⟨hp.set i (.inst C (aV fs x y)),m⟩ Q E):
  (aC (gam fn) (.obj i) x y>>=k) ⟨hp,m⟩ Q E:=by
 show (aC (gam fn) (.obj i) x y) _ _ _;unfold aC;refine au h ?_;dsimp only
 rcases ha with ha|⟨z,ha⟩
 ·rw [show (gam fn).ak C x=some .field from ha];exact ⟨hl,h'⟩
 rw [show (gam fn).ak C x=some (.val z) from ha];exact ⟨hl,h'⟩
theorem c8 (h:hp[i]?=some (.dict ep kv)) (hl:kv.length≤lim) (h':∀ep',((aj kv n).isSome=true->ep'=ep)->k () ⟨hp.set i (.dict ep' (aV kv n y)),m⟩ Q E):
  (bL (.obj i) (.int n) y>>=k) ⟨hp,m⟩ Q E:=by
 show (bL (.obj i) (.int n) y) _ _ _;unfold bL;refine au h ⟨hl,?_⟩
 by_cases hs:(aj kv n).isSome=true
 ·rw [RA hs];exact h' ep λ_=>rfl
 rw [Rz hs];exact λep'=>h' ep' λz=>absurd z hs
theorem zR {k:Unit->PT β} {i j n:Nat} {vs ws:List V} (h1:hp[i]?=some (.list vs)) (h2:hp[j]?=some (.tup ws)) (hn:n≤vs.length) (hl:vs.length+ws.length≤lim) (h':k () ⟨hp.set i (.list (vs.take n++ws++vs.drop n)),m⟩ Q E):
  (cE (.obj i) (.int (n:Int)) (.int (n:Int)) (.obj j)>>=k) ⟨hp,m⟩ Q E:=by
 show (cE (.obj i) (.int (n:Int)) (.int (n:Int)) (.obj j)) _ _ _;unfold cE
 refine au h1 (au h2 ?_);exact ⟨⟨rfl,by exact w5,by exact w69 hn,hl⟩,by rw [HB];exact h'⟩
theorem rk (h:hp[i]?=some (.tup [a,b])) (h':k (a,b) ⟨hp,m⟩ Q E):(cL true (.obj i)>>=k) ⟨hp,m⟩ Q E:=by
 show (cL true (.obj i)) _ _ _;unfold cL;exact ⟨rfl,au h h'⟩
theorem tA (h:hp[i]?=some (.list vs)) (h':k (.bool true) ⟨hp,m⟩ Q E):(eB (gam fn) (.obj i) (.type "list")>>=k) ⟨hp,m⟩ Q E:=by
 show (eB (gam fn) (.obj i) (.type "list")) _ _ _;unfold eB;exact au h ⟨rfl,h'⟩
theorem tB (h:hp[i]?=some (.inst 336 fs)) (h':k (.bool false) ⟨hp,m⟩ Q E):(eB (gam fn) (.obj i) (.ref 364)>>=k) ⟨hp,m⟩ Q E:=by
 show (eB (gam fn) (.obj i) (.ref 364)) _ _ _;unfold eB;refine au h ?_;exact h'
theorem zS {x:Str} {i j:Int} {Q:Fl->AS->Prop} (h':Q .next ⟨hp,upd m x (.int (i+j))⟩):zB x .Add (.int i) (.int j) ⟨hp,m⟩ Q E:=h'
theorem zT (h':k v ⟨hp,m⟩ Q E):(boV .Or v true q>>=k) ⟨hp,m⟩ Q E:=h'
theorem vo (h':(q>>=k) ⟨hp,m⟩ Q E):(boV .Or v false q>>=k) ⟨hp,m⟩ Q E:=h'
theorem vp (h':k true ⟨hp,m⟩ Q E):(boT .Or true q>>=k) ⟨hp,m⟩ Q E:=h'
theorem vq (h':(q>>=k) ⟨hp,m⟩ Q E):(boT .Or false q>>=k) ⟨hp,m⟩ Q E:=h'
theorem rl (h':(q>>=k) ⟨hp,m⟩ Q E):(boT .And true q>>=k) ⟨hp,m⟩ Q E:=h'
theorem nI (h':k false ⟨hp,m⟩ Q E):(boT .And false q>>=k) ⟨hp,m⟩ Q E:=h'
end
theorem aJ {K:Frag} {fn:FnT} {f:Nat} {ns:List Str} {hd:Bool} {d:PT Fl} {vs:List V} {hp:List O} {Q:V->List O->Prop} {E:Nat->List O->Prop} (hE:cU (ev (gam fn) hd 30) ⟨aF K f,λ_=>true⟩ (an K f)=d) (hl:vs.length=ns.length) (hn:ns.Nodup)
  (h:d ⟨hp,λx=>(ns.zip vs).lookup x⟩ (mW Q) (iz E)):aq (gam fn) 30 (aF K f) (an K f) (aD ns) hd vs hp Q E:=by
 unfold aq aD
 rw [RA hl]
 refine ⟨by rw [List.map_fst_zip (w67 hl)];exact hn,?_⟩
 rw [hE];exact h
set_option backward.match.sparseCases true
set_option backward.match.sparseCases false
section
variable {α β:Type} {hp:List O} {m:bY} {Q:β->AS->Prop} {E:Nat->AS->Prop}
theorem bK {γ:Type} {k:List V->PT β} {f:γ->V} {xs:List γ} {ns:List (Str×K0)} {x:Str} {ifs:PT Bool} {elt:PT V} {src:Src} (F:γ->Option V) (hi:src.items=xs.map f) (hG:src.G hp)
  (hs:∀a∈xs,∀(W:Option V->AS->Prop) (E':Nat->AS->Prop),W (F a) ⟨hp,upd (dD ns m) x (f a)⟩->ifs ⟨hp,upd (dD ns m) x (f a)⟩ (jE elt W E') E')
  (hq:k (xs.filterMap F) ⟨hp,m⟩ Q E):(bP ns x ifs elt src>>=k) ⟨hp,m⟩ Q E:=by
 refine eD (f:=f) (xs:=xs) (λpre acc hp'=>hp'=hp∧acc=pre.filterMap F) hi ⟨rfl,rfl⟩ (λpre acc hp' h=>h.1▸hG) (λpre a post acc hp' W E' e h hW hE=>?_) λacc hp' h=>?_
 ·obtain ⟨rfl,rfl⟩:=h
  refine hs a (by rw [e];simp) W E' (hW _ _ ⟨rfl,?_⟩)
  rw [HH]
  cases e2:F a<;>simp [e2]
 obtain ⟨rfl,rfl⟩:=h;exact hq
theorem kM (a b:Int):Lh (.int a) (.int b)=decide (a=b):=by unfold Lh;rfl
theorem vr (h':k (.bool (decide (a=b))) ⟨hp,m⟩ Q E):(bb .Eq (.int a) (.int b)>>=k) ⟨hp,m⟩ Q E:=we rfl rfl (by rw [kM];exact h')
theorem wi (h':k (.bool (!decide (a=b))) ⟨hp,m⟩ Q E):(bb .NotEq (.int a) (.int b)>>=k) ⟨hp,m⟩ Q E:=ot rfl rfl (by rw [kM];exact h')
theorem ed (h:hp[i]?=some (.list (v::vs))) (hl:vs.length<lim) (h':k v ⟨hp,m⟩ Q E):(aG (.obj i) (.int 0)>>=k) ⟨hp,m⟩ Q E:=
 bQ (j:=0) h (by simp only [Ht];exact w19 hl) rfl h'
theorem rm (h:hp[i]?=some (.tup (v::vs))) (hl:vs.length<lim) (h':k v ⟨hp,m⟩ Q E):(aG (.obj i) (.int 0)>>=k) ⟨hp,m⟩ Q E:=
 ow (j:=0) h (by simp only [Ht];exact w19 hl) rfl h'
theorem tC (h:hp[i]?=some (.list vs)) (hl:vs.length≤lim) (h':k (.obj hp.length) ⟨hp++[.list (vs.take 1)],m⟩ Q E):(fg (.obj i) .none (.int 1) .none>>=k) ⟨hp,m⟩ Q E:=
 qZ (j:=1) h hl h'
theorem rn {b:Bool} {Q:Bool->AS->Prop} (h':Q b ⟨hp,m⟩):ag (.bool b) ⟨hp,m⟩ Q E:=h'
theorem b7 {p:PT β} (h:(p>>=λx=>pure x) ⟨hp,m⟩ Q E):p ⟨hp,m⟩ Q E:=h
theorem dl (h:elt ⟨hp,m⟩ (λy=>W (some y)) E'):(pure true:PT Bool) ⟨hp,m⟩ (jE elt W E') E':=h
theorem iU (h:W none ⟨hp,m⟩):(pure false:PT Bool) ⟨hp,m⟩ (jE elt W E') E':=h
end
abbrev QS:=List (Int×Nat×List Int)
def qv (q:Int×Nat×List Int):Int×V:=(q.1,.obj q.2.1)
theorem eY (qs:QS) (x:Int):aj (qs.map qv) x=(aj qs x).map λp=>.obj p.1:=by
 induction qs with
 |nil=>rfl
 |cons q r ih=>
  rw [bE,Hc,bE]
  by_cases e:q.1=x
  ·rw [RA e,RA (c:=(qv q).1=x) e];rfl
  rw [Rz e,Rz (c:=(qv q).1=x) e];exact ih
theorem tD (qs:QS) (x:Int) (a:Nat) (S:List Int):aV (qs.map qv) x (.obj a)=(aV qs x (a,S)).map qv:=by
 induction qs with
 |nil=>rfl
 |cons q r ih=>
  rw [ca,Hc,ca]
  by_cases e:q.1=x
  ·rw [RA e,RA (c:=(qv q).1=x) e];rfl
  rw [Rz e,Rz (c:=(qv q).1=x) e,ih];rfl
theorem bU {qs:QS} (h:aj qs x=some p):(x,p)∈qs:=by
 induction qs with
 |nil=>exact nNS h
 |cons q r ih=>
  rw [bE] at h
  by_cases e:q.1=x
  ·rw [RA e] at h;(replace h:=ay h;subst h);rw [<-e];exact .head _
  rw [Rz e] at h;exact .tail _ (ih h)
theorem dP {qs:QS} (nd:(qs.map (·.1)).Nodup) (h:q∈aV qs x (a,S)):q=(x,a,S)∨(q∈qs∧q.1≠x):=by
 induction qs with
 |nil=>exact .inl (GY.mp h)
 |cons p r ih=>
  rw [Hc,HS] at nd
  rw [ca] at h
  by_cases e:p.1=x
  ·rw [RA e] at h
   rcases G0.mp h with h|h
   ·exact .inl (by rw [h,e])
   exact .inr ⟨.tail _ h,λz=>nd.1 (e▸z▸G1.mpr ⟨q,h,rfl⟩)⟩
  rw [Rz e] at h
  rcases G0.mp h with h|h
  ·exact .inr ⟨h▸.head _,h▸e⟩
  exact (ih nd.2 h).imp id λz=>⟨.tail _ z.1,z.2⟩
theorem rp (qs:QS) (x:Int) (a:Nat) (S:List Int):(x,a,S)∈aV qs x (a,S):=bU (br qs x (a,S))
def mu (qs:QS):Nat:=(qs.map λq=>7-q.2.2.length).sum
theorem wj {qs:QS} (h:aj qs x=some (b,T)) (hl:T.length<S.length) (h7:S.length≤7):mu (aV qs x (a,S))<mu qs:=by
 induction qs with
 |nil=>exact nNS h
 |cons q r ih=>
  rw [bE] at h
  rw [ca]
  by_cases e:q.1=x
  ·rw [RA e] at h⊢
   obtain ⟨x',q2⟩:=q
   replace h:q2=(b,T):=by injection h
   subst h
   show (_::r.map _).sum<(_::r.map _).sum
   simp only [List.sum_cons];exact BN hl h7
  rw [Rz e] at h⊢
  have:=ih h
  show (_::(aV r x (a,S)).map _).sum<(_::r.map _).sum
  unfold mu at this
  simp only [List.sum_cons];exact BJ this
set_option backward.match.sparseCases true
set_option backward.match.sparseCases false
theorem rq (hp:List O) (n:Nat) (i:Int):aQ hp n (.int i)=some (.int i):=by cases n<;>rfl
theorem jG (hp:List O) (n:Nat):aQ hp n .none=some .none:=by cases n<;>rfl
theorem pD {α β:Type} {f:α->Option β} {g:α->β} {l:List α} (h:∀x∈l,f x=some (g x)):l.mapM f=some (l.map g):=by
 induction l with
 |nil=>rfl
 |cons a l ih=>
  rw [Ie,h a (.head _),ih λx hx=>h x (.tail _ hx)]
  rfl
theorem cP {hp:List O} {i:Nat} {ns:List Int} (n:Nat) (h:hp[i]?=some (.list (ns.map .int))):aQ hp (n+1) (.obj i)=some (.list (ns.map .int)):=by
 have e:(ns.map V.int).mapM (aQ hp n)=some (ns.map .int):=by
  rw [pD (g:=λv=>match v with|.int i=>.int i|_=>.none) (λx hx=>by obtain ⟨y,_,rfl⟩:=G1.mp hx;exact rq hp n y),Hx];rfl
 show (match hp[i]? with|some (.list vs)=>(vs.mapM (aQ hp n)).map LR|some (.tup vs)=>(vs.mapM (aQ hp n)).map PyData.tuple|_=>none)=_
 rw [h]
 show ((ns.map V.int).mapM (aQ hp n)).map LR=_
 rw [e];rfl
theorem jH {hp:List O} {w:Nat} {ps:List (Nat×List Int)} (n:Nat) (h:hp[w]?=some (.list (ps.map λp=>.obj p.1))) (hr:∀p∈ps,hp[p.1]?=some (.list (p.2.map .int))):
  aQ hp (n+2) (.obj w)=some (.list (ps.map λp=>.list (p.2.map .int))):=by
 have e:(ps.map λp=>V.obj p.1).mapM (aQ hp (n+1))=some (ps.map λp=>.list (p.2.map .int)):=by
  clear h
  induction ps with
  |nil=>rfl
  |cons p ps ih=>
   rw [Hc,Ie,cP n (hr p (.head _)),ih λx hx=>hr x (.tail _ hx)]
   rfl
 show (match hp[w]? with|some (.list vs)=>(vs.mapM (aQ hp (n+1))).map LR|some (.tup vs)=>(vs.mapM (aQ hp (n+1))).map PyData.tuple|_=>none)=_
 rw [h]
 show ((ps.map λp=>V.obj p.1).mapM (aQ hp (n+1))).map LR=_
 rw [e];rfl
theorem lW:∀a b:List Int,KW (a.map .int) (b.map .int)=decide (a=b)
 |[],[]=>by unfold KW;rfl
 |[],_::_=>by unfold KW;rfl
 |_::_,[]=>by unfold KW;rfl
 |x::a,y::b=>by
  show KW (.int x::a.map .int) (.int y::b.map .int)=_
  unfold KW
  rw [kM,lW a b]
  by_cases h1:x=y<;>by_cases h2:a=b<;>simp [h1,h2]
theorem f0 (a b:List Int):Lh (.list (a.map .int)) (.list (b.map .int))=decide (a=b):=by
 have:=lW a b
 unfold Lh;exact this
theorem gQ:∀a b:List (List Int),KW (a.map λr=>.list (r.map .int)) (b.map λr=>.list (r.map .int))=decide (a=b)
 |[],[]=>by unfold KW;rfl
 |[],_::_=>by unfold KW;rfl
 |_::_,[]=>by unfold KW;rfl
 |x::a,y::b=>by
  show KW (.list (x.map .int)::a.map _) (.list (y.map .int)::b.map _)=_
  unfold KW
  rw [f0,gQ a b]
  by_cases h1:x=y<;>by_cases h2:a=b<;>simp [h1,h2]
theorem ru (a b:List (List Int)):Lh (.list (a.map λr=>.list (r.map .int))) (.list (b.map λr=>.list (r.map .int)))=decide (a=b):=by
 have:=gQ a b
 unfold Lh;exact this
theorem wl:Lh .none .none=true:=by unfold Lh;rfl
theorem tF (h:n≤a) (ha:Kb a 100000=true:=by rfl):n≤lim:=G2 h (Il ha)
theorem wm (h:n≤a) (ha:Kb (a+1) 100000=true:=by rfl):n<lim:=HX h (Il ha)
theorem Ba {α β:Type} {f:α->β} {l:List α} {a:Nat} (h:l.length≤a) (ha:Kb a 100000=true:=by rfl):(l.map f).length≤lim:=by rw [G6];exact tF h ha
theorem zU {α β:Type} {f:α->β} {l:List α} {a:Nat} (h:l.length≤a) (ha:Kb (a+1) 100000=true:=by rfl):(l.map f).length<lim:=by rw [G6];exact wm h ha
theorem zV (ha:Kb n 100000=true):n≤lim:=Il ha
set_option backward.match.sparseCases true
abbrev KH (P:Ko):Frag:=hk.heap_1 P
abbrev DT:=Gam->Bool->PT Fl
abbrev DE (P:Ko) (fn:FnT) (hd:Bool) (n:Nat) (d:DT):Prop:=cU (ev (gam fn) hd 30) ⟨aF (KH P) n,λ_=>true⟩ (an (KH P) n)=d (gam fn) hd
abbrev zW:DT:=λΓ hd=>do
 pure (.ret (<-ad "result"))
abbrev zX:DT:=λΓ hd=>do
 let t21 <-ad "result"
 let _ <-ax Γ hd t21 "insert" (<-aA Γ t21 "insert") [(.int 0),(<-ad "o")]
 pure .next
abbrev zY:DT:=λΓ hd=>do
 let t16 <-ad "seen"
 let _ <-ax Γ hd t16 "add" (<-aA Γ t16 "add") [(<-am Γ hd (<-ad "o") "key")]
 zX Γ hd
abbrev zZ:DT:=λΓ hd=>do
 aM (do
  if (<-ag (<-bb .NotIn (<-am Γ hd (<-ad "o") "key") (<-ad "seen")))=true then (do
   zY Γ hd)
  else (do
   pure .next)) (do
  pure .next)
abbrev Aa:DT:=λΓ hd=>do
 aM (do
  let src7 <-gK (<-ad "ordering")
  bq src7.G (λv9=>do
   al "o" v9
   zZ Γ hd) src7.items) (do
  pure .next)
abbrev Ab:DT:=λΓ hd=>do
 aM (do
  let src4 <-gK (<-ad "orderings")
  bq src4.G (λv6=>do
   al "ordering" v6
   Aa Γ hd) src4.items) (do
  zW Γ hd)
abbrev Ac:DT:=λΓ hd=>do
 al "result" (<-newList [])
 Ab Γ hd
abbrev d28:DT:=λΓ hd=>do
 al "seen" (<-az Γ hd (.type "set") [])
 Ac Γ hd
theorem wn {P:Ko} (fn:FnT) (hd:Bool):DE P fn hd 28 d28:=!0
abbrev Ad:DT:=λΓ hd=>do
 pure (.ret (<-ad "result"))
abbrev Ae:DT:=λΓ hd=>do
 let t15 <-am Γ hd (<-ad "ob") "bases"
 cE (<-ad "result") (<-ad "i") (<-ad "i") t15
 pure .next
abbrev Af:DT:=λΓ hd=>do
 aM (do
  zB "i" .Add (<-ad "i") (.int 1)) (do
  Ae Γ hd)
abbrev Ag:DT:=λΓ hd=>do
 al "ob" (<-aG (<-ad "result") (<-ad "i"))
 Af Γ hd
abbrev Ah:DT:=λΓ hd=>do
 aM (do
  iA (do {pure (<-ag (<-bb .Lt (<-ad "i") (<-az Γ hd (.builtin "len") [(<-ad "result")])))}) (do
   Ag Γ hd)) (do
  Ad Γ hd)
abbrev Ai:DT:=λΓ hd=>do
 al "i" (.int 0)
 Ah Γ hd
abbrev d35:DT:=λΓ hd=>do
 al "result" (<-newList [(<-ad "begin")])
 Ai Γ hd
theorem wo {P:Ko} (fn:FnT) (hd:Bool):DE P fn hd 35 d35:=!0
abbrev d42:DT:=λΓ hd=>do
 pure (.ret (<-az Γ hd (.ref 28) [(<-newList [(<-az Γ hd (.ref 35) [(<-ad "ob")])])]))
theorem wp {P:Ko} (fn:FnT) (hd:Bool):DE P fn hd 42 d42:=!0
abbrev Aj:DT:=λΓ hd=>do
 let t4 <-ad "base_tree_remaining"
 aC Γ (<-ad "self") "base_tree_remaining" t4
 pure .next
abbrev d56:DT:=λΓ hd=>do
 let t1 <-am Γ hd (<-ad "c3") "leaf"
 aC Γ (<-ad "self") "C" t1
 Aj Γ hd
theorem Fo {P:Ko} (fn:FnT) (hd:Bool):DE P fn hd 56 d56:=!0
abbrev Ak:DT:=λΓ hd=>do
 let t3 <-az Γ hd (.type "tuple") [(<-ad "mro")]
 aC Γ (<-ad "self") "_mro" t3
 pure .next
abbrev d76:DT:=λΓ hd=>do
 let t1 <-ad "C"
 aC Γ (<-ad "self") "leaf" t1
 Ak Γ hd
theorem wq {P:Ko} (fn:FnT) (hd:Bool):DE P fn hd 76 d76:=!0
abbrev d83:DT:=λΓ hd=>do
 pure (.ret (<-az Γ hd (.type "list") [(<-am Γ hd (<-ad "self") "_mro")]))
theorem wt {P:Ko} (fn:FnT) (hd:Bool):DE P fn hd 83 d83:=!0
abbrev wu:DT:=λΓ hd=>do
 pure (.ret (<-az Γ hd (.ref 204) [(<-ad "C"),(<-ad "memo")]))
abbrev wv:DT:=λΓ hd=>do
 pure (.ret (<-az Γ hd (.ref 232) [(<-ad "C"),(<-ad "memo")]))
abbrev ww:DT:=λΓ hd=>do
 aM (do
  if (<-ag (<-ad "strict"))=true then (do
   wv Γ hd)
  else (do
   pure .next)) (do
  wu Γ hd)
abbrev wx:DT:=λΓ hd=>do
 let t30 <-az Γ hd (.ref 86) [(<-ad "base"),(<-ad "mro")]
 bL (<-ad "memo") (<-am Γ hd (<-ad "base") "key") t30
 pure .next
abbrev wy:DT:=λΓ hd=>do
 bc ((<-ag (<-bb .In (<-ad "base") (<-am Γ hd (<-ad "C") "bases")))=true)
 wx Γ hd
abbrev rx:DT:=λΓ hd=>do
 aM (do
  let src21 <-aI hd (<-ad "base_mros")
  bq src21.G (λv23=>do
   let p24 <-cL hd v23
   al "base" p24.1
   al "mro" p24.2
   wy Γ hd) src21.items) (do
  ww Γ hd)
abbrev wz:DT:=λΓ hd=>do
 al "base_mros" (<-(do {let t10 <-ad "base_mros";orV t10 (<-ag t10) (do {pure (<-newList [])})}))
 rx Γ hd
abbrev wA:DT:=λΓ hd=>do
 al "memo" (<-dg (.dict 0 []))
 wz Γ hd
abbrev Fp:DT:=λΓ hd=>do
 let t1 <-(if (<-ag (<-bb .IsNot (<-ad "strict") .none))=true then (do {pure (<-ad "strict")}) else (pure (.bool false)))
 al "strict" t1
 wA Γ hd
theorem oB {P:Ko} (fn:FnT) (hd:Bool):DE P fn hd 117 Fp:=!0
abbrev wB:DT:=λΓ hd=>do
 let t37 <-newList [(<-ad "C")]
 let t40 <-aG (<-ad "memo") (<-am Γ hd (<-aG (<-am Γ hd (<-ad "C") "bases") (.int 0)) "key")
 let t36 <-bD .Add t37 (<-ax Γ hd t40 "mro" (<-aA Γ t40 "mro") [])
 aC Γ (<-ad "self") "_mro" t36
 pure .next
abbrev wC:DT:=λΓ hd=>do
 aM (do
  if (<-ag (<-bb .Eq (<-az Γ hd (.builtin "len") [(<-am Γ hd (<-ad "C") "bases")]) (.int 1)))=true then (do
   wB Γ hd)
  else (do
   pure .next)) (do
  pure .next)
abbrev wD:DT:=λΓ hd=>do
 bc (hd=true)
 let t27 <-mV Γ hd "had_inconsistency" (<-ad "base_resolvers")
 aC Γ (<-ad "self") "bases_had_inconsistency" t27
 wC Γ hd
abbrev wE:DT:=λΓ hd=>do
 let t8 <-newList [(<-newList [(<-ad "C")])]
 let src12 <-aI hd (<-am Γ hd (<-ad "C") "bases")
 let t6 <-bD .Add (<-bD .Add t8 (<-newList (<-bP [(".0",.local),("base",.local),("memo",.free)] "base" (pure true) (do {let t16 <-aG (<-ad "memo") (<-am Γ hd (<-ad "base") "key");pure (<-ax Γ hd t16 "mro" (<-aA Γ t16 "mro") [])}) src12))) (<-newList [(<-az Γ hd (.type "list") [(<-am Γ hd (<-ad "C") "bases")])])
 aC Γ (<-ad "self") "base_tree" t6
 wD Γ hd
abbrev wF:DT:=λΓ hd=>do
 let t54 <-ad "base_resolvers"
 let _ <-ax Γ hd t54 "append" (<-aA Γ t54 "append") [(<-aG (<-ad "memo") (<-am Γ hd (<-ad "base") "key"))]
 pure .next
abbrev rz:DT:=λΓ hd=>do
 let t70 <-ad "resolver"
 bL (<-ad "memo") (<-am Γ hd (<-ad "base") "key") t70
 pure .next
abbrev wG:DT:=λΓ hd=>do
 let t66 <-ad "self"
 al "resolver" (<-ax Γ hd t66 "_same_kind" (<-aA Γ t66 "_same_kind") [(<-ad "base"),(<-ad "memo")])
 rz Γ hd
abbrev wH:DT:=λΓ hd=>do
 aM (do
  if (<-ag (<-bb .NotIn (<-am Γ hd (<-ad "base") "key") (<-ad "memo")))=true then (do
   wG Γ hd)
  else (do
   pure .next)) (do
  wF Γ hd)
abbrev wI:DT:=λΓ hd=>do
 aM (do
  let src49 <-aI hd (<-am Γ hd (<-ad "C") "bases")
  bq src49.G (λv52=>do
   al "base" v52
   wH Γ hd) src49.items) (do
  wE Γ hd)
abbrev tG:DT:=λΓ hd=>do
 al "base_resolvers" (<-newList [])
 wI Γ hd
abbrev tH:DT:=λΓ hd=>do
 let t3 <-ad "memo"
 aC Γ (<-ad "self") "memo" t3
 tG Γ hd
abbrev Fq:DT:=λΓ hd=>do
 let t1 <-ad "C"
 aC Γ (<-ad "self") "leaf" t1
 tH Γ hd
theorem tI {P:Ko} (fn:FnT) (hd:Bool):DE P fn hd 125 Fq:=!0
abbrev Fs:DT:=λΓ hd=>do
 pure (.ret (<-az Γ hd (.ref 204) [(<-ad "base"),(<-ad "memo")]))
theorem tJ {P:Ko} (fn:FnT) (hd:Bool):DE P fn hd 132 Fs:=!0
abbrev Ft:DT:=λΓ hd=>do
 pure (.ret (<-(do {let t2 <-am Γ hd (<-ad "self") "direct_inconsistency";orV t2 (<-ag t2) (do {pure (<-am Γ hd (<-ad "self") "bases_had_inconsistency")})})))
theorem Bb {P:Ko} (fn:FnT) (hd:Bool):DE P fn hd 139 Ft:=!0
abbrev wJ:DT:=λΓ hd=>do
 pure (.ret (<-az Γ hd (.type "list") [(<-am Γ hd (<-ad "self") "_own_legacy")]))
abbrev wK:DT:=λΓ hd=>do
 let t9 <-az Γ hd (.type "tuple") [(<-az Γ hd (.ref 42) [(<-am Γ hd (<-ad "self") "leaf")])]
 aC Γ (<-ad "self") "_own_legacy" t9
 pure .next
abbrev Fu:DT:=λΓ hd=>do
 aM (do
  if (<-ag (<-bb .Is (<-am Γ hd (<-ad "self") "_own_legacy") .none))=true then (do
   wK Γ hd)
  else (do
   pure .next)) (do
  wJ Γ hd)
theorem tK {P:Ko} (fn:FnT) (hd:Bool):DE P fn hd 147 Fu:=!0
abbrev wL:DT:=λΓ hd=>do
 aM (do
  if (<-ag (<-bb .Is (<-ad "b") (<-ad "base")))=true then (do
   pure (.ret (.bool false)))
  else (do
   pure .next)) (do
  pure .next)
abbrev rA:DT:=λΓ hd=>do
 aM (do
  let src5 <-aI hd (<-ad "bases")
  bq src5.G (λv7=>do
   al "b" v7
   wL Γ hd) src5.items) (do
  pure .next)
abbrev wM:DT:=λΓ hd=>do
 aM (do
  if (<-(do {orT (!(<-ag (<-ad "bases"))) (do {orT (<-ag (<-bb .Is (<-aG (<-ad "bases") (.int 0)) (<-ad "base"))) (pure false)})}))=true then (do
   pure .cont)
  else (do
   pure .next)) (do
  rA Γ hd)
abbrev Fv:DT:=λΓ hd=>do
 aM (do
  let src2 <-aI hd (<-ad "base_tree_remaining")
  bq src2.G (λv4=>do
   al "bases" v4
   wM Γ hd) src2.items) (do
  pure (.ret (.bool true)))
theorem tL {P:Ko} (fn:FnT) (hd:Bool):DE P fn hd 155 Fv:=!0
abbrev Fw:DT:=λΓ hd=>do
 let src3 <-aI hd (<-ad "base_tree")
 pure (.ret (<-dY hd (<-newList (<-bP [(".0",.local),("bases",.local),("ignoring",.free)] "bases" (pure true) (do {let src6 <-aI hd (<-ad "bases");pure (<-newList (<-bP [(".0",.local),("b",.local),("ignoring",.free)] "b" (do {if (<-ag (<-bb .IsNot (<-ad "b") (<-ad "ignoring")))=true then (pure true) else pure false}) (do {pure (<-ad "b")}) src6))}) src3))))
theorem tM {P:Ko} (fn:FnT) (hd:Bool):DE P fn hd 163 Fw:=!0
abbrev wN:DT:=λΓ hd=>do
 let t6 <-ad "self"
 pure (.ret (<-ax Γ hd t6 "_guess_next_base" (<-aA Γ t6 "_guess_next_base") [(<-ad "base_tree_remaining")]))
abbrev wO:DT:=λΓ hd=>do
 pure (.ret (<-ad "base"))
abbrev wP:DT:=λΓ hd=>do
 aM (do
  if (<-ag (<-bb .IsNot (<-ad "base") .none))=true then (do
   wO Γ hd)
  else (do
   pure .next)) (do
  wN Γ hd)
abbrev Fx:DT:=λΓ hd=>do
 let t2 <-ad "self"
 al "base" (<-ax Γ hd t2 "_find_next_C3_base" (<-aA Γ t2 "_find_next_C3_base") [(<-ad "base_tree_remaining")])
 wP Γ hd
theorem tN {P:Ko} (fn:FnT) (hd:Bool):DE P fn hd 173 Fx:=!0
abbrev wQ:DT:=λΓ hd=>do
 pure (.ret (<-ad "base"))
abbrev wR:DT:=λΓ hd=>do
 aM (do
  let t10 <-ad "self"
  if (<-ag (<-ax Γ hd t10 "_can_choose_base" (<-aA Γ t10 "_can_choose_base") [(<-ad "base"),(<-ad "base_tree_remaining")]))=true then (do
   wQ Γ hd)
  else (do
   pure .next)) (do
  pure .next)
abbrev wS:DT:=λΓ hd=>do
 al "base" (<-aG (<-ad "bases") (.int 0))
 wR Γ hd
abbrev Fy:DT:=λΓ hd=>do
 aM (do
  let src2 <-aI hd (<-ad "base_tree_remaining")
  bq src2.G (λv4=>do
   al "bases" v4
   wS Γ hd) src2.items) (do
  pure (.ret .none))
theorem tO {P:Ko} (fn:FnT) (hd:Bool):DE P fn hd 180 Fy:=!0
abbrev wT:DT:=λΓ hd=>do
 bc (hd=true∧Γ.exc 100=true)
 em (Γ.excOk 100 [])
 PT.raise 100
abbrev FA:DT:=λΓ hd=>do
 let t1 <-az Γ hd (.ref 59) [(<-ad "self"),(<-ad "base_tree_remaining")]
 aC Γ (<-ad "self") "direct_inconsistency" t1
 wT Γ hd
theorem tP {P:Ko} (fn:FnT) (hd:Bool):DE P fn hd 187 FA:=!0
abbrev wU:DT:=λΓ hd=>do
 let t14 <-ad "result"
 let _ <-ax Γ hd t14 "append" (<-aA Γ t14 "append") [(<-ad "base")]
 pure .next
abbrev wV:DT:=λΓ hd=>do
 let t18 <-ad "self"
 al "base" (<-ax Γ hd t18 "_choose_next_base" (<-aA Γ t18 "_choose_next_base") [(<-ad "base_tree_remaining")])
 pure .next
abbrev wW:DT:=λΓ hd=>do
 pure (.ret (<-am Γ hd (<-ad "self") "legacy_ro"))
abbrev wX:DT:=λΓ hd=>do
 let t21 <-am Γ hd (<-ad "self") "legacy_ro"
 aC Γ (<-ad "self") "_mro" t21
 wW Γ hd
abbrev wY:DT:=λΓ hd=>do
 aM (do
  vJ Γ 100 (do
   wV Γ hd) (do
   wX Γ false)) (do
  wU Γ hd)
abbrev wZ:DT:=λΓ hd=>do
 pure (.ret (<-ad "result"))
abbrev xc:DT:=λΓ hd=>do
 aM (do
  if (!(<-ag (<-ad "base_tree_remaining")))=true then (do
   wZ Γ hd)
  else (do
   pure .next)) (do
  wY Γ hd)
abbrev xd:DT:=λΓ hd=>do
 let t9 <-ad "self"
 al "base_tree_remaining" (<-ax Γ hd t9 "_nonempty_bases_ignoring" (<-aA Γ t9 "_nonempty_bases_ignoring") [(<-ad "base_tree_remaining"),(<-ad "base")])
 xc Γ hd
abbrev xe:DT:=λΓ hd=>do
 aM (do
  iA (do {pure (<-ag (.int 1))}) (do
   xd Γ hd)) (do
  pure .next)
abbrev tQ:DT:=λΓ hd=>do
 al "base" .none
 xe Γ hd
abbrev tR:DT:=λΓ hd=>do
 al "base_tree_remaining" (<-am Γ hd (<-ad "self") "base_tree")
 tQ Γ hd
abbrev FD:DT:=λΓ hd=>do
 let t1 <-newList []
 al "result" t1
 aC Γ (<-ad "self") "_mro" t1
 tR Γ hd
theorem tS {P:Ko} (fn:FnT) (hd:Bool):DE P fn hd 194 FD:=!0
abbrev xf:DT:=λΓ hd=>do
 pure (.ret (<-az Γ hd (.type "list") [(<-am Γ hd (<-ad "self") "_mro")]))
abbrev xg:DT:=λΓ hd=>do
 let t11 <-ad "self"
 let t9 <-az Γ hd (.type "tuple") [(<-ax Γ hd t11 "_merge" (<-aA Γ t11 "_merge") [])]
 aC Γ (<-ad "self") "_mro" t9
 pure .next
abbrev FE:DT:=λΓ hd=>do
 aM (do
  if (<-ag (<-bb .Is (<-am Γ hd (<-ad "self") "_mro") .none))=true then (do
   xg Γ hd)
  else (do
   pure .next)) (do
  xf Γ hd)
theorem tT {P:Ko} (fn:FnT) (hd:Bool):DE P fn hd 201 FE:=!0
abbrev FG:DT:=λΓ hd=>do
 pure (.ret (<-az Γ hd (.ref 232) [(<-ad "base"),(<-ad "memo")]))
theorem tU {P:Ko} (fn:FnT) (hd:Bool):DE P fn hd 222 FG:=!0
abbrev FH:DT:=λΓ hd=>do
 let t1 <-ad "self"
 let t2 <-ad "base_tree_remaining"
 bc (hd=true∧Γ.exc 59=true)
 em (Γ.excOk 59 [t1,t2])
 PT.raise 59
theorem tV {P:Ko} (fn:FnT) (hd:Bool):DE P fn hd 229 FH:=!0
abbrev xh:DT:=λΓ hd=>do
 pure (.ret (<-ad "mro"))
abbrev xi:DT:=λΓ hd=>do
 pure (.ret (<-am Γ hd (<-ad "resolver") "legacy_ro"))
abbrev xj:DT:=λΓ hd=>do
 aM (do
  if (<-ag (<-ad "use_legacy"))=true then (do
   xi Γ hd)
  else (do
   pure .next)) (do
  xh Γ hd)
abbrev xk:DT:=λΓ hd=>do
 let t8 <-(if (<-ag (<-bb .IsNot (<-ad "use_legacy_ro") .none))=true then (do {pure (<-ad "use_legacy_ro")}) else (pure (.bool false)))
 al "use_legacy" t8
 xj Γ hd
abbrev rB:DT:=λΓ hd=>do
 let t6 <-ad "resolver"
 al "mro" (<-ax Γ hd t6 "mro" (<-aA Γ t6 "mro") [])
 xk Γ hd
abbrev FJ:DT:=λΓ hd=>do
 al "resolver" (<-cv Γ hd 117 [(<-ad "C"),(<-ad "strict"),(<-ad "base_mros")])
 rB Γ hd
theorem oD {P:Ko} (fn:FnT) (hd:Bool):DE P fn hd 242 FJ:=!0
abbrev xl:DT:=λΓ hd=>do
 let t16 <-ad "self"
 let _ <-ax Γ hd t16 "setBases" (<-aA Γ t16 "setBases") [(<-az Γ hd (.type "tuple") [(<-ad "bases")])]
 pure .next
abbrev xm:DT:=λΓ hd=>do
 let t13 <-cu []
 aC Γ (<-ad "self") "sro" t13
 xl Γ hd
abbrev xn:DT:=λΓ hd=>do
 let t11 <-cu []
 aC Γ (<-ad "self") "iro" t11
 xm Γ hd
abbrev xo:DT:=λΓ hd=>do
 let t9 <-dg (.dict 0 [])
 aC Γ (<-ad "self") "_implied" t9
 xn Γ hd
abbrev xp:DT:=λΓ hd=>do
 let t7 <-cu []
 aC Γ (<-ad "self") "bases" t7
 xo Γ hd
abbrev xq:DT:=λΓ hd=>do
 let t5 <-dg (.dict 0 [])
 aC Γ (<-ad "self") "_dependents" t5
 xp Γ hd
abbrev xr:DT:=λΓ hd=>do
 let t3 <-ad "root"
 aC Γ (<-ad "self") "_ROOT" t3
 xq Γ hd
abbrev FK:DT:=λΓ hd=>do
 let t1 <-ad "key"
 aC Γ (<-ad "self") "key" t1
 xr Γ hd
theorem tW {P:Ko} (fn:FnT) (hd:Bool):DE P fn hd 279 FK:=!0
abbrev FL:DT:=λΓ hd=>do
 pure (.ret (<-am Γ hd (<-ad "self") "_dependents"))
theorem tY {P:Ko} (fn:FnT) (hd:Bool):DE P fn hd 286 FL:=!0
abbrev FM:DT:=λΓ hd=>do
 let t2 <-ad "dependent"
 let t6 <-am Γ hd (<-ad "self") "dependents"
 let t1 <-cu [t2,(<-bD .Add (<-aG (<-ax Γ hd t6 "get" (<-aA Γ t6 "get") [(<-am Γ hd (<-ad "dependent") "key"),(<-cu [.none,(.int 0)])]) (.int 1)) (.int 1))]
 bL (<-am Γ hd (<-ad "self") "_dependents") (<-am Γ hd (<-ad "dependent") "key") t1
 pure .next
theorem tZ {P:Ko} (fn:FnT) (hd:Bool):DE P fn hd 294 FM:=!0
abbrev xt:DT:=λΓ hd=>do
 let t4 <-ad "self"
 let _ <-ax Γ hd t4 "changed" (<-aA Γ t4 "changed") [(<-ad "self")]
 pure .next
abbrev xu:DT:=λΓ hd=>do
 let t11 <-ad "b"
 let _ <-ax Γ hd t11 "subscribe" (<-aA Γ t11 "subscribe") [(<-ad "self")]
 pure .next
abbrev xv:DT:=λΓ hd=>do
 aM (do
  let src7 <-aI hd (<-ad "bases")
  bq src7.G (λv9=>do
   al "b" v9
   xu Γ hd) src7.items) (do
  xt Γ hd)
abbrev xw:DT:=λΓ hd=>do
 let t1 <-ad "bases"
 aC Γ (<-ad "self") "bases" t1
 xv Γ hd
abbrev xx:DT:=λΓ hd=>do
 let t19 <-ad "b"
 let _ <-ax Γ hd t19 "unsubscribe" (<-aA Γ t19 "unsubscribe") [(<-ad "self")]
 pure .next
abbrev FN:DT:=λΓ hd=>do
 aM (do
  let src14 <-aI hd (<-am Γ hd (<-ad "self") "bases")
  bq src14.G (λv17=>do
   al "b" v17
   xx Γ hd) src14.items) (do
  xw Γ hd)
theorem ua {P:Ko} (fn:FnT) (hd:Bool):DE P fn hd 308 FN:=!0
abbrev xy:DT:=λΓ hd=>do
 pure (.ret (<-ad "sro"))
abbrev xz:DT:=λΓ hd=>do
 let t38 <-ad "sro"
 let _ <-ax Γ hd t38 "append" (<-aA Γ t38 "append") [(<-ad "root")]
 pure .next
abbrev xA:DT:=λΓ hd=>do
 let src29 <-aI hd (<-ad "sro")
 al "sro" (<-newList (<-bP [(".0",.local),("x",.local),("root",.free)] "x" (do {if (<-ag (<-bb .IsNot (<-ad "x") (<-ad "root")))=true then (pure true) else pure false}) (do {pure (<-ad "x")}) src29))
 xz Γ hd
abbrev xB:DT:=λΓ hd=>do
 aM (do
  if (<-(do {qm (<-ag (<-bb .IsNot (<-ad "root") .none)) (do {qm (<-ag (<-ad "sro")) (do {qm (<-ag (<-bb .IsNot (<-aG (<-ad "sro") (.int (-1))) (<-ad "root"))) (pure true)})})}))=true then (do
   xA Γ hd)
  else (do
   pure .next)) (do
  xy Γ hd)
abbrev xC:DT:=λΓ hd=>do
 al "root" (<-am Γ hd (<-ad "self") "_ROOT")
 xB Γ hd
abbrev FO:DT:=λΓ hd=>do
 let t2 <-ad "self"
 let src4 <-aI hd (<-am Γ hd (<-ad "self") "bases")
 al "sro" (<-fA Γ hd (.ref 242) ["base_mros"] [t2,(<-newList (<-bP [(".0",.local),("b",.local)] "b" (pure true) (do {pure (<-cu [(<-ad "b"),(<-am Γ hd (<-ad "b") "sro")])}) src4))])
 xC Γ hd
theorem ub {P:Ko} (fn:FnT) (hd:Bool):DE P fn hd 313 FO:=!0
abbrev xD:DT:=λΓ hd=>do
 let t29 <-ad "dependent"
 let _ <-ax Γ hd t29 "changed" (<-aA Γ t29 "changed") [(<-ad "originally_changed")]
 pure .next
abbrev xE:DT:=λΓ hd=>do
 aM (do
  let src22 <-aI hd (<-dZ hd (<-am Γ hd (<-ad "self") "_dependents"))
  bq src22.G (λv26=>do
   let p27 <-cL hd v26
   al "dependent" p27.1
   al "_count" p27.2
   xD Γ hd) src22.items) (do
  pure .next)
abbrev xF:DT:=λΓ hd=>do
 let t35 <-cu []
 bL (<-ad "implied") (<-am Γ hd (<-ad "ancestor") "key") t35
 pure .next
abbrev xG:DT:=λΓ hd=>do
 aM (do
  let src32 <-aI hd (<-ad "ancestors")
  bq src32.G (λv34=>do
   al "ancestor" v34
   xF Γ hd) src32.items) (do
  xE Γ hd)
abbrev xH:DT:=λΓ hd=>do
 let src14 <-aI hd (<-ad "ancestors")
 let t12 <-az Γ hd (.type "tuple") [(<-newList (<-bP [(".0",.local),("ancestor",.local),("isinstance",.globalImplicit),("InterfaceClass",.globalImplicit)] "ancestor" (do {if (<-ag (<-eB Γ (<-ad "ancestor") (.ref 364)))=true then (pure true) else pure false}) (do {pure (<-ad "ancestor")}) src14))]
 aC Γ (<-ad "self") "iro" t12
 xG Γ hd
abbrev xI:DT:=λΓ hd=>do
 let t9 <-az Γ hd (.type "tuple") [(<-ad "ancestors")]
 aC Γ (<-ad "self") "sro" t9
 xH Γ hd
abbrev xJ:DT:=λΓ hd=>do
 let t7 <-ad "self"
 al "ancestors" (<-ax Γ hd t7 "_calculate_sro" (<-aA Γ t7 "_calculate_sro") [])
 xI Γ hd
abbrev xK:DT:=λΓ hd=>do
 let t4 <-ad "implied"
 let _ <-ax Γ hd t4 "clear" (<-aA Γ t4 "clear") []
 xJ Γ hd
abbrev FP:DT:=λΓ hd=>do
 al "implied" (<-am Γ hd (<-ad "self") "_implied")
 xK Γ hd
theorem uc {P:Ko} (fn:FnT) (hd:Bool):DE P fn hd 318 FP:=!0
abbrev xL:DT:=λΓ hd=>do
 pure (.ret (<-ad "row"))
abbrev xM:DT:=λΓ hd=>do
 let t11 <-ad "row"
 let _ <-ax Γ hd t11 "append" (<-aA Γ t11 "append") [(<-ad "base")]
 pure .next
abbrev xN:DT:=λΓ hd=>do
 aM (do
  if (<-ag (<-bb .NotIn (<-ad "base") (<-ad "row")))=true then (do
   xM Γ hd)
  else (do
   pure .next)) (do
  pure .next)
abbrev xO:DT:=λΓ hd=>do
 aM (do
  let src3 <-aI hd (<-ad "bases")
  bq src3.G (λv5=>do
   al "base" v5
   xN Γ hd) src3.items) (do
  xL Γ hd)
abbrev FQ:DT:=λΓ hd=>do
 al "row" (<-newList [])
 xO Γ hd
theorem ud {P:Ko} (fn:FnT) (hd:Bool):DE P fn hd 373 FQ:=!0
abbrev xP:DT:=λΓ hd=>do
 pure (.ret (<-ad "ahead"))
abbrev xQ:DT:=λΓ hd=>do
 al "changed" (.bool true)
 pure .next
abbrev xR:DT:=λΓ hd=>do
 let t30 <-bD .BitOr (<-aG (<-ad "ahead") (<-ad "node")) (<-aG (<-ad "ahead") (<-ad "other"))
 bL (<-ad "ahead") (<-ad "node") t30
 xQ Γ hd
abbrev xS:DT:=λΓ hd=>do
 aM (do
  let src18 <-aI hd (<-aG (<-ad "ahead") (<-ad "other"))
  if (<-ag (<-newList (<-bP [(".0",.local),("one",.local),("ahead",.free),("node",.free)] "one" (do {if (<-ag (<-bb .NotIn (<-ad "one") (<-aG (<-ad "ahead") (<-ad "node"))))=true then (pure true) else pure false}) (do {pure (<-ad "one")}) src18)))=true then (do
   xR Γ hd)
  else (do
   pure .next)) (do
  pure .next)
abbrev xT:DT:=λΓ hd=>do
 aM (do
  let src10 <-aI hd (<-az Γ hd (.builtin "sorted") [(<-aG (<-ad "ahead") (<-ad "node"))])
  bq src10.G (λv15=>do
   al "other" v15
   xS Γ hd) src10.items) (do
  pure .next)
abbrev xU:DT:=λΓ hd=>do
 aM (do
  let src7 <-aI hd (<-ad "ahead")
  bq src7.G (λv9=>do
   al "node" v9
   xT Γ hd) src7.items) (do
  pure .next)
abbrev xV:DT:=λΓ hd=>do
 al "changed" (.bool false)
 xU Γ hd
abbrev xW:DT:=λΓ hd=>do
 aM (do
  iA (do {pure (<-ag (<-ad "changed"))}) (do
   xV Γ hd)) (do
  xP Γ hd)
abbrev xX:DT:=λΓ hd=>do
 al "changed" (.bool true)
 xW Γ hd
abbrev ue:DT:=λΓ hd=>do
 let t49 <-ad "ahead"
 let t47 <-bD .BitOr (<-ax Γ hd t49 "get" (<-aA Γ t49 "get") [(<-aG (<-ad "row") (<-ad "k")),(<-az Γ hd (.type "set") [])]) (<-az Γ hd (.type "set") [(<-fg (<-ad "row") .none (<-ad "k") .none)])
 bL (<-ad "ahead") (<-aG (<-ad "row") (<-ad "k")) t47
 pure .next
abbrev uf:DT:=λΓ hd=>do
 aM (do
  let src43 <-cq hd [(<-az Γ hd (.builtin "len") [(<-ad "row")])]
  bq src43.G (λv46=>do
   al "k" v46
   ue Γ hd) src43.items) (do
  pure .next)
abbrev ug:DT:=λΓ hd=>do
 aM (do
  let src40 <-aI hd (<-ad "rows")
  bq src40.G (λv42=>do
   al "row" v42
   uf Γ hd) src40.items) (do
  xX Γ hd)
abbrev FR:DT:=λΓ hd=>do
 al "ahead" (<-dg (.dict 0 []))
 ug Γ hd
theorem uh {P:Ko} (fn:FnT) (hd:Bool):DE P fn hd 378 FR:=!0
abbrev xY:DT:=λΓ hd=>do
 pure (.ret (<-ad "row"))
abbrev xZ:DT:=λΓ hd=>do
 al "row" (<-bD .Add (<-ad "row") (<-az Γ hd (.ref 385) [(<-ad "world"),(<-ad "base")]))
 pure .next
abbrev yc:DT:=λΓ hd=>do
 aM (do
  let src4 <-aI hd (<-aG (<-ad "world") (<-ad "node"))
  bq src4.G (λv8=>do
   al "base" v8
   xZ Γ hd) src4.items) (do
  xY Γ hd)
abbrev FS:DT:=λΓ hd=>do
 al "row" (<-newList [(<-ad "node")])
 yc Γ hd
theorem ui {P:Ko} (fn:FnT) (hd:Bool):DE P fn hd 385 FS:=!0
abbrev yd:DT:=λΓ hd=>do
 pure (.ret (<-ad "kept"))
abbrev ye:DT:=λΓ hd=>do
 al "kept" (<-bD .Add (<-newList [(<-ad "node")]) (<-ad "kept"))
 pure .next
abbrev yf:DT:=λΓ hd=>do
 aM (do
  if (<-ag (<-bb .NotIn (<-ad "node") (<-ad "kept")))=true then (do
   ye Γ hd)
  else (do
   pure .next)) (do
  pure .next)
abbrev yg:DT:=λΓ hd=>do
 aM (do
  let src3 <-aI hd (<-fg (<-ad "row") .none .none (.int (-1)))
  bq src3.G (λv7=>do
   al "node" v7
   yf Γ hd) src3.items) (do
  yd Γ hd)
abbrev FU:DT:=λΓ hd=>do
 al "kept" (<-newList [])
 yg Γ hd
theorem uj {P:Ko} (fn:FnT) (hd:Bool):DE P fn hd 392 FU:=!0
abbrev yh:DT:=λΓ hd=>do
 pure (.ret (<-ad "order"))
abbrev yi:DT:=λΓ hd=>do
 let src58 <-aI hd (<-ad "left")
 al "left" (<-newList (<-bP [(".0",.local),("other",.local),("free",.free)] "other" (do {if (<-ag (<-bb .NotEq (<-ad "other") (<-aG (<-ad "free") (.int 0))))=true then (pure true) else pure false}) (do {pure (<-ad "other")}) src58))
 pure .next
abbrev yj:DT:=λΓ hd=>do
 let t52 <-ad "order"
 let _ <-ax Γ hd t52 "append" (<-aA Γ t52 "append") [(<-aG (<-ad "free") (.int 0))]
 yi Γ hd
abbrev yk:DT:=λΓ hd=>do
 let src27 <-aI hd (<-ad "heads")
 al "free" (<-newList (<-bP [(".0",.local),("head",.local),("ahead",.free),("left",.free)] "head" (do {let c29 <-(do {qm (<-ag (<-ad "head")) (do {let src35 <-aI hd (<-aG (<-ad "ahead") (<-aG (<-ad "head") (.int 0)));qm (!(<-ag (<-newList (<-bP [(".0",.local),("other",.local),("left",.free)] "other" (do {if (<-ag (<-bb .In (<-ad "other") (<-ad "left")))=true then (pure true) else pure false}) (do {pure (<-ad "other")}) src35)))) (pure true)})});if c29=true then (pure true) else pure false}) (do {pure (<-aG (<-ad "head") (.int 0))}) src27))
 yj Γ hd
abbrev yl:DT:=λΓ hd=>do
 let src12 <-aI hd (<-ad "rows")
 al "heads" (<-newList (<-bP [(".0",.local),("row",.local),("left",.free)] "row" (pure true) (do {let src16 <-aI hd (<-ad "row");pure (<-fg (<-newList (<-bP [(".0",.local),("other",.local),("left",.free)] "other" (do {if (<-ag (<-bb .In (<-ad "other") (<-ad "left")))=true then (pure true) else pure false}) (do {pure (<-ad "other")}) src16)) .none (.int 1) .none)}) src12))
 yk Γ hd
abbrev ym:DT:=λΓ hd=>do
 aM (do
  iA (do {pure (<-ag (<-ad "left"))}) (do
   yl Γ hd)) (do
  yh Γ hd)
abbrev yn:DT:=λΓ hd=>do
 let src4 <-aI hd (<-ad "ahead")
 al "left" (<-newList (<-bP [(".0",.local),("other",.local)] "other" (pure true) (do {pure (<-ad "other")}) src4))
 ym Γ hd
abbrev FV:DT:=λΓ hd=>do
 al "order" (<-newList [(<-ad "node")])
 yn Γ hd
theorem uk {P:Ko} (fn:FnT) (hd:Bool):DE P fn hd 397 FV:=!0
abbrev yo:DT:=λΓ hd=>do
 pure (.ret (<-cu [(<-ad "orders"),(<-ad "stands")]))
abbrev yp:DT:=λΓ hd=>do
 let t46 <-ad "stands"
 let _ <-ax Γ hd t46 "append" (<-aA Γ t46 "append") [(.bool false)]
 pure .next
abbrev yq:DT:=λΓ hd=>do
 let t39 <-ad "orders"
 let _ <-ax Γ hd t39 "append" (<-aA Γ t39 "append") [(<-az Γ hd (.ref 392) [(<-az Γ hd (.ref 385) [(<-ad "world"),(<-ad "node")])])]
 yp Γ hd
abbrev yr:DT:=λΓ hd=>do
 let t57 <-ad "stands"
 let m58 <-aA Γ t57 "append"
 let src61 <-aI hd (<-ad "row")
 let _ <-ax Γ hd t57 "append" m58 [(<-bb .Eq (<-newList (<-bP [(".0",.local),("base",.local),("stands",.free)] "base" (do {if (!(<-ag (<-aG (<-ad "stands") (<-ad "base"))))=true then (pure true) else pure false}) (do {pure (<-ad "base")}) src61)) (<-newList []))]
 pure .next
abbrev yt:DT:=λΓ hd=>do
 let t50 <-ad "orders"
 let _ <-ax Γ hd t50 "append" (<-aA Γ t50 "append") [(<-az Γ hd (.ref 397) [(<-ad "node"),(<-ad "rows"),(<-ad "ahead")])]
 yr Γ hd
abbrev yu:DT:=λΓ hd=>do
 aM (do
  let src28 <-aI hd (<-ad "ahead")
  if (<-ag (<-newList (<-bP [(".0",.local),("other",.local),("ahead",.free)] "other" (do {if (<-ag (<-bb .In (<-ad "other") (<-aG (<-ad "ahead") (<-ad "other"))))=true then (pure true) else pure false}) (do {pure (<-ad "other")}) src28)))=true then (do
   yq Γ hd)
  else (do
   yt Γ hd)) (do
  pure .next)
abbrev yv:DT:=λΓ hd=>do
 al "ahead" (<-az Γ hd (.ref 378) [(<-ad "rows")])
 yu Γ hd
abbrev yw:DT:=λΓ hd=>do
 let src16 <-aI hd (<-ad "row")
 al "rows" (<-bD .Add (<-newList (<-bP [(".0",.local),("base",.local),("orders",.free)] "base" (pure true) (do {pure (<-aG (<-ad "orders") (<-ad "base"))}) src16)) (<-newList [(<-ad "row")]))
 yv Γ hd
abbrev yx:DT:=λΓ hd=>do
 al "row" (<-az Γ hd (.ref 373) [(<-aG (<-ad "world") (<-ad "node"))])
 yw Γ hd
abbrev ul:DT:=λΓ hd=>do
 aM (do
  let src6 <-cq hd [(<-az Γ hd (.builtin "len") [(<-ad "world")])]
  bq src6.G (λv9=>do
   al "node" v9
   yx Γ hd) src6.items) (do
  yo Γ hd)
abbrev um:DT:=λΓ hd=>do
 al "stands" (<-newList [])
 ul Γ hd
abbrev FW:DT:=λΓ hd=>do
 al "orders" (<-newList [])
 um Γ hd
theorem un {P:Ko} (fn:FnT) (hd:Bool):DE P fn hd 402 FW:=!0
abbrev yy:DT:=λΓ hd=>do
 let src22 <-aI hd (<-ad "numbers")
 let vs34 <-bP [(".0",.local),("found",.local),("len",.globalImplicit)] "found" (pure true) (do {let t24 <-(if (<-ag (<-bb .Eq (<-az Γ hd (.builtin "len") [(<-ad "found")]) (.int 1)))=true then (do {pure (<-aG (<-ad "found") (.int 0))}) else (pure (.int (-1))));pure t24}) src22
 pure (.ret (<-newList vs34))
abbrev yz:DT:=λΓ hd=>do
 let t18 <-ad "told"
 let _ <-ax Γ hd t18 "append" (<-aA Γ t18 "append") [.none]
 yy Γ hd
abbrev yA:DT:=λΓ hd=>do
 let src2 <-aI hd (<-ad "told")
 al "numbers" (<-newList (<-bP [(".0",.local),("one",.cell),("range",.globalImplicit),("len",.globalImplicit),("specs",.free)] "one" (pure true) (do {let src5 <-cq hd [(<-az Γ hd (.builtin "len") [(<-ad "specs")])];pure (<-newList (<-bP [(".0",.local),("k",.local),("one",.free),("specs",.free)] "k" (do {if (<-ag (<-bb .Is (<-aG (<-ad "specs") (<-ad "k")) (<-ad "one")))=true then (pure true) else pure false}) (do {pure (<-ad "k")}) src5))}) src2))
 yz Γ hd
abbrev yB:DT:=λΓ hd=>do
 pure (.ret (<-newList [(.int (-1))]))
abbrev yC:DT:=λΓ hd=>do
 aM (do
  if (!(<-ag (<-eB Γ (<-ad "told") (.type "list"))))=true then (do
   yB Γ hd)
  else (do
   pure .next)) (do
  yA Γ hd)
abbrev yD:DT:=λΓ hd=>do
 al "told" (<-fA Γ hd (.ref 242) ["strict"] [(<-aG (<-ad "specs") (<-ad "node")),(<-ad "strict")])
 pure .next
abbrev FY:DT:=λΓ hd=>do
 aM (do
  vJ Γ 59 (do
   yD Γ hd) (do
   pure (.ret .none))) (do
  yC Γ hd)
theorem uo {P:Ko} (fn:FnT) (hd:Bool):DE P fn hd 407 FY:=!0
abbrev yE:DT:=λΓ hd=>do
 let src20 <-aI hd (<-ad "specs")
 pure (.ret (<-bb .Eq (<-newList (<-bP [(".0",.local),("spec",.local)] "spec" (pure true) (do {pure (<-newList (<-bP [(".0",.local),("base",.local)] "base" (pure true) (do {pure (<-am Γ hd (<-ad "base") "key")}) (<-aI hd (<-am Γ hd (<-ad "spec") "bases"))))}) src20)) (<-ad "world")))
abbrev yF:DT:=λΓ hd=>do
 aM (do
  if (<-ag (<-bb .NotEq (<-az Γ hd (.ref 407) [(<-ad "specs"),(<-bD .Sub (<-ad "many") (.int 1)),(.bool false)]) (<-aG (<-ad "orders") (<-bD .Sub (<-ad "many") (.int 1)))))=true then (do
   pure (.ret (.bool false)))
  else (do
   pure .next)) (do
  yE Γ hd)
abbrev yG:DT:=λΓ hd=>do
 aM (do
  let t50 <-az Γ hd (.ref 407) [(<-ad "specs"),(<-ad "node"),(.bool true)]
  let t54 <-(if (<-ag (<-aG (<-ad "stands") (<-ad "node")))=true then (do {pure (<-aG (<-ad "orders") (<-ad "node"))}) else (pure .none))
  if (<-ag (<-bb .NotEq t50 t54))=true then (do
   pure (.ret (.bool false)))
  else (do
   pure .next)) (do
  pure .next)
abbrev yH:DT:=λΓ hd=>do
 aM (do
  if (<-ag (<-bb .NotEq (<-az Γ hd (.ref 407) [(<-ad "specs"),(<-ad "node"),(.bool false)]) (<-aG (<-ad "orders") (<-ad "node"))))=true then (do
   pure (.ret (.bool false)))
  else (do
   pure .next)) (do
  yG Γ hd)
abbrev yI:DT:=λΓ hd=>do
 aM (do
  let src45 <-cq hd [(<-ad "many")]
  bq src45.G (λv47=>do
   al "node" v47
   yH Γ hd) src45.items) (do
  yF Γ hd)
abbrev yJ:DT:=λΓ hd=>do
 let p17 <-cL hd (<-az Γ hd (.ref 402) [(<-ad "world")])
 al "orders" p17.1
 al "stands" p17.2
 yI Γ hd
abbrev yK:DT:=λΓ hd=>do
 let t78 <-ad "specs"
 let m79 <-aA Γ t78 "append"
 let t81 <-az Γ hd (.builtin "len") [(<-ad "specs")]
 let src85 <-aI hd (<-ad "bases")
 let _ <-ax Γ hd t78 "append" m79 [(<-az Γ hd (.ref 336) [t81,(<-az Γ hd (.type "tuple") [(<-newList (<-bP [(".0",.local),("base",.local),("specs",.free)] "base" (pure true) (do {pure (<-aG (<-ad "specs") (<-ad "base"))}) src85))])])]
 pure .next
abbrev yL:DT:=λΓ hd=>do
 aM (do
  let src74 <-aI hd (<-ad "world")
  bq src74.G (λv76=>do
   al "bases" v76
   yK Γ hd) src74.items) (do
  yJ Γ hd)
abbrev yM:DT:=λΓ hd=>do
 al "specs" (<-newList [])
 yL Γ hd
abbrev uq:DT:=λΓ hd=>do
 al "at" (<-bD .Add (<-bD .Add (<-ad "at") (.int 1)) (<-ad "count"))
 pure .next
abbrev ur:DT:=λΓ hd=>do
 let t136 <-ad "world"
 let m137 <-aA Γ t136 "append"
 let src139 <-aI hd (<-ad "picks")
 let _ <-ax Γ hd t136 "append" m137 [(<-newList (<-bP [(".0",.local),("pick",.local),("node",.free)] "pick" (pure true) (do {pure (<-bD .Mod (<-ad "pick") (<-ad "node"))}) src139))]
 uq Γ hd
abbrev ut:DT:=λΓ hd=>do
 let src114 <-cq hd [(<-ad "count")]
 let vs134 <-bP [(".0",.local),("k",.local),("len",.globalImplicit),("at",.free),("script",.free)] "k" (pure true) (do {let t116 <-(if (<-ag (<-bb .Lt (<-bD .Add (<-bD .Add (<-ad "at") (.int 1)) (<-ad "k")) (<-az Γ hd (.builtin "len") [(<-ad "script")])))=true then (do {pure (<-aG (<-ad "script") (<-bD .Add (<-bD .Add (<-ad "at") (.int 1)) (<-ad "k")))}) else (do {pure (<-ad "k")}));pure t116}) src114
 al "picks" (<-newList vs134)
 ur Γ hd
abbrev uu:DT:=λΓ hd=>do
 let t106 <-(if (<-ag (<-bb .Gt (<-ad "node") (.int 0)))=true then (do {pure (<-ad "count")}) else (pure (.int 0)))
 al "count" t106
 ut Γ hd
abbrev uv:DT:=λΓ hd=>do
 let t94 <-(if (<-ag (<-bb .Lt (<-ad "at") (<-az Γ hd (.builtin "len") [(<-ad "script")])))=true then (do {pure (<-bD .Mod (<-aG (<-ad "script") (<-ad "at")) (.int 4))}) else (pure (.int 0)))
 al "count" t94
 uu Γ hd
abbrev uw:DT:=λΓ hd=>do
 aM (do
  let src91 <-cq hd [(<-ad "many")]
  bq src91.G (λv93=>do
   al "node" v93
   uv Γ hd) src91.items) (do
  yM Γ hd)
abbrev ux:DT:=λΓ hd=>do
 al "at" (.int 1)
 uw Γ hd
abbrev uy:DT:=λΓ hd=>do
 al "world" (<-newList [])
 ux Γ hd
abbrev FZ:DT:=λΓ hd=>do
 let t1 <-(if (<-ag (<-ad "script"))=true then (do {pure (<-bD .Add (.int 1) (<-bD .Mod (<-aG (<-ad "script") (.int 0)) (.int 7)))}) else (pure (.int 1)))
 al "many" t1
 uy Γ hd
theorem uz {P:Ko} (fn:FnT) (hd:Bool):DE P fn hd 412 FZ:=!0
section
variable {α:Type} [DecidableEq α]
def aP (l:List α):List α:=l.foldr (λx r=>if x∈r then r else x::r) []
theorem jI {x:α} {r:List α}:aP (x::r)=if x∈aP r then aP r else x::aP r:=rfl
theorem ee {x:α} {r:List α} (h:x∈aP r):aP (x::r)=aP r:=jI.trans (RA h)
theorem cV {x:α} {r:List α} (h:x∉aP r):aP (x::r)=x::aP r:=jI.trans (Rz h)
theorem lX (l:List α):(aP l).length≤l.length:=by
 induction l with
 |nil=>exact GW _
 |cons x r ih=>
  by_cases h:x∈aP r
  ·rw [ee h];exact JD ih
  rw [cV h];exact JN ih
theorem dQ {l:List α} {x:α}:x∈aP l↔x∈l:=by
 induction l generalizing x with
 |nil=>exact .rfl
 |cons y r ih=>
  by_cases h:y∈aP r
  ·rw [ee h,ih,G0]
   exact ⟨.inr,λz=>z.elim (λe=>by rw [e];exact ih.mp h) id⟩
  rw [cV h,G0,G0,ih]
theorem fG (l:List α):(aP l).Nodup:=by
 induction l with
 |nil=>exact .nil
 |cons y r ih=>
  by_cases h:y∈aP r
  ·rw [ee h];exact ih
  rw [cV h];exact HS.mpr ⟨h,ih⟩
end
def bp (rows:List (List Int)) (n:Nat):Nat->List Int:=
 Nat.rec (λk=>[(k:Int)]) (λ_ ih k=>(k:Int)::((rows[k]?).getD []).flatMap λb=>ih b.toNat) n
def cf (rows:List (List Int)):Prop:=rows.length≤7∧∀(k:Nat) r,rows[k]?=some r->r.length≤3∧∀x∈r,0≤x∧x<k
theorem cH {α β:Type} {l:List α} {f g:α->List β} (h:∀x∈l,f x=g x):l.flatMap f=l.flatMap g:=by
 induction l with
 |nil=>rfl
 |cons a l ih=>rw [Ia,Ia,h a (.head _),ih λx hx=>h x (.tail _ hx)]
theorem pE {rows:List (List Int)} (W:cf rows):∀n k,k≤n->bp rows (n+1) k=bp rows n k:=by
 intro n
 induction n with
 |zero=>
  intro k hk
  have:k=0:=w16 hk
  subst this
  show (0:Int)::_=_
  induction e:rows[0]? with
  |none=>rfl
  |some r=>
   have:=(W.2 0 r e).2
   induction r using Lc with
   |nil=>rfl
   |cons x r=>exact absurd (Hu (this x (.head _)).1 (this x (.head _)).2) (J9 _)
 |succ n ih=>
  intro k hk
  show (k:Int)::_=(k:Int)::_
  congr 1
  refine cH λb hb=>ih _ ?_
  induction e:rows[k]? with
  |none=>rw [e] at hb;cases hb
  |some r=>rw [e] at hb;have:=(W.2 k r e).2 b hb;exact Cw hk this
theorem jJ (W:cf rows) (h:k≤n):∀d,bp rows (n+d) k=bp rows n k:=by
 intro d
 induction d with
 |zero=>rfl
 |succ d ih=>rw [<-JJ,pE W _ _ (w45 h),ih]
theorem uA {rows:List (List Int)} (W:cf rows) {k:Nat} {r:List Int} (h:rows[k]?=some r):bp rows 7 k=(k:Int)::r.flatMap λb=>bp rows 7 b.toNat:=by
 have' hk:k<rows.length:=(G4.mp h).1
 have:=W.1
 rw [show bp rows 7 k=bp rows (k+1+(6-k)) k from by rw [show k+1+(6-k)=7 by exact w63 hk this],jJ W (w2)]
 show (k:Int)::((rows[k]?).getD []).flatMap _=_
 rw [h]
 show (k:Int)::r.flatMap _=_
 congr 1
 refine cH λb hb=>?_
 have:=(W.2 k r h).2 b hb
 rw [show bp rows 7 b.toNat=bp rows (k+(7-k)) b.toNat from by rw [show k+(7-k)=7 by exact w62 hk ‹_›],jJ W (EF this)];rfl
theorem iV (W:cf rows):∀n k,(bp rows n k).length≤4^n:=by
 intro n
 induction n with
 |zero=>intro k;exact GW 1
 |succ n ih=>
  intro k
  have key:∀l:List Int,(l.flatMap λb=>bp rows n b.toNat).length≤l.length*4^n:=by
   intro l
   induction l with
   |nil=>simp
   |cons x l ihl=>rw [Ia,G7,Ht,JV];have:=ih x.toNat;exact Bt ihl this
  show (_::_).length≤_
  rw [Ht]
  have hr:((rows[k]?).getD []).length≤3:=by
   induction e:rows[k]? with
   |none=>simp
   |some r=>exact (W.2 k r e).1
  have h1:=key ((rows[k]?).getD [])
  have h2:((rows[k]?).getD []).length*4^n≤3*4^n:=Iz _ hr
  have h3:0<4^n:=Nat.pow_pos !3
  rw [Nat.pow_succ];exact w47 h1 h2 h3
set_option linter.unusedSectionVars false
section
variable {α:Type} [DecidableEq α]
def cZ (rows:List (List α)) (h:α):Bool:=rows.all λr=>r.head?==some h||!(r.contains h)
def bO (rows:List (List α)):Option α:=(rows.filterMap Ij).find? (cZ rows)
def bj (h:α) (rows:List (List α)):List (List α):=rows.map λr=>r.filter λx=>x≠h
def dF (rows:List (List α)):Bool:=rows.all List.isEmpty
def fH (n:Nat):List (List α)->Option (List α):=
 Nat.rec (λrows=>if dF rows=true then some [] else none) (λ_ ih rows=>if dF rows=true then some [] else (bO rows).elim none λh=>(ih (bj h rows)).map (h::·)) n
def merge (rows:List (List α)):Option (List α):=fH rows.flatten.length rows
theorem ei:dF rows=true↔∀r∈rows,r=[]:=by
 unfold dF;rw [Hd];simp [HJ]
theorem good_iff {rows:List (List α)} {h:α}:cZ rows h=true↔∀r∈rows,r.head?=some h∨h∉r:=by
 unfold cZ;rw [Hd];simp
theorem jK {rows:List (List α)} {h:α} (e:bO rows=some h):cZ rows h=true:=by
 unfold bO at e;exact Jb e
theorem c9 {rows:List (List α)} {h:α} (e:bO rows=some h):∃r∈rows,r.head?=some h:=by
 unfold bO at e
 obtain ⟨r,hr,h2⟩:=HM.mp (Ik e)
 exact ⟨r,hr,h2⟩
theorem uB (h:α) (rows:List (List α)):(bj h rows).flatten.length≤rows.flatten.length:=by
 induction rows with
 |nil=>exact GW _
 |cons r rs ih=>
  show (r.filter _++(bj h rs).flatten).length≤(r++rs.flatten).length
  rw [G7,G7]
  have:=H1 (λx=>decide (x≠h)) r
  exact Bu ih this
theorem kO {h:α} {rows:List (List α)} (hr:∃r∈rows,h∈r):(bj h rows).flatten.length<rows.flatten.length:=by
 induction rows with
 |nil=>obtain ⟨r,hr,_⟩:=hr;cases hr
 |cons r rs ih=>
  show (r.filter _++(bj h rs).flatten).length<(r++rs.flatten).length
  rw [G7,G7]
  have h1:=H1 (λx=>decide (x≠h)) r
  have h2:=uB h rs
  obtain ⟨r',hr',hm⟩:=hr
  rcases G0.mp hr' with rfl|hr'
  ·have':(r'.filter λx=>decide (x≠h)).length<r'.length:=by
    rw [IN]
    exact ⟨h,hm,by simp⟩
   exact Bs h2 this
  have:=ih ⟨r',hr',hm⟩;exact Br h1 this
theorem dm {rows:List (List α)} (hn:dF rows=true):∀n,fH n rows=some []
 |0=>RA hn
 |_+1=>RA hn
theorem dw {rows:List (List α)} (hn:¬dF rows=true):fH (n+1) rows=(bO rows).elim none λh=>(fH n (bj h rows)).map (h::·):=Rz hn
theorem gR {rows:List (List α)} (h:rows.flatten.length≤0):dF rows=true:=
 ei.mpr (List.flatten_eq_nil_iff.mp (HP.mp (w16 h)))
theorem oF {rows:List (List α)} {h:α} (e:bO rows=some h):(bj h rows).flatten.length<rows.flatten.length:=
 let ⟨r,hr,hh⟩:=c9 e
 kO ⟨r,hr,Ig hh⟩
theorem nJ (n m:Nat) (rows:List (List α)) (h1:rows.flatten.length≤n) (h2:rows.flatten.length≤m):fH n rows=fH m rows:=by
 by_cases hn:dF rows=true
 ·rw [dm hn,dm hn]
 induction n generalizing m rows with
 |zero=>exact absurd (gR h1) hn
 |succ n ih=>induction m using Hn with
  |zero=>exact absurd (gR h2) hn
  |succ m=>
   rw [dw hn,dw hn]
   induction e:bO rows with
   |none=>rfl
   |some h=>
    show JZ _ _=JZ _ _
    have hl:=oF e
    by_cases hd:dF (bj h rows)=true
    ·rw [dm hd,dm hd]
    rw [ih m (bj h rows) (w12 h1 hl) (w12 h2 hl) hd]
theorem eE (n:Nat) (rows:List (List α)) (h:rows.flatten.length≤n):fH n rows=merge rows:=nJ n _ rows h (GW _)
theorem bW {rows:List (List α)} (h:∀r∈rows,r=[]):merge rows=some []:=dm (ei.mpr h) _
theorem bI {rows:List (List α)} (hn:¬∀r∈rows,r=[]) (h:bO rows=none):merge rows=none:=by
 rw [<-eE (rows.flatten.length+1) rows (w2),dw (λe=>hn (ei.mp e)),h];rfl
theorem be {rows:List (List α)} {h:α} (e:bO rows=some h):merge rows=(merge (bj h rows)).map (h::·):=by
 have hn:¬dF rows=true:=λz=>by
  obtain ⟨r,hr,hh⟩:=c9 e
  rw [ei.mp z r hr] at hh;exact nNS hh
 rw [<-eE (rows.flatten.length+1) rows (w2),dw hn,e]
 show JZ _ _=_
 rw [eE _ _ (w32 (oF e))]
theorem dR {P:List (List α)->Prop} (h0:∀rows,(∀r∈rows,r=[])->P rows) (h1:∀rows,(¬∀r∈rows,r=[])->bO rows=none->P rows) (h2:∀rows h,bO rows=some h->P (bj h rows)->P rows):∀rows,P rows:=by
 intro rows
 generalize hn:rows.flatten.length=n
 induction n using JW generalizing rows with
 |ind n ih=>
  by_cases hz:∀r∈rows,r=[]
  ·exact h0 rows hz
  induction e:bO rows with
  |none=>exact h1 rows hz e
  |some h=>
   obtain ⟨r,hr,hh⟩:=c9 e
   exact h2 rows h e (ih _ (by rw [<-hn];exact kO ⟨r,hr,Ig hh⟩) _ rfl)
theorem lY {h x:α} {rows:List (List α)}:(∃r∈bj h rows,x∈r)↔(∃r∈rows,x∈r)∧x≠h:=by
 constructor
 ·rintro ⟨r,hr,hx⟩
  obtain ⟨r',hr',rfl⟩:=G1.mp hr
  rw [HD] at hx
  exact ⟨⟨r',hr',hx.1⟩,by simpa using hx.2⟩
 rintro ⟨⟨r,hr,hx⟩,n⟩
 exact ⟨_,G1.mpr ⟨r,hr,rfl⟩,HD.mpr ⟨hx,by simpa using n⟩⟩
theorem jL (rows:List (List α)):∀l,merge rows=some l->l.Nodup∧∀x,x∈l↔∃r∈rows,x∈r:=by
 refine dR (P:=λrows=>∀l,merge rows=some l->l.Nodup∧∀x,x∈l↔∃r∈rows,x∈r) ?_ ?_ ?_ rows
 ·intro rows hz l e
  rw [bW hz] at e;(replace e:=ay e;subst e)
  refine ⟨by simp,λx=>⟨(λh=>nomatch h),λ⟨r,hr,hx⟩=>?_⟩⟩
  rw [hz r hr] at hx;exact hx
 ·intro rows hz e l e2
  rw [bI hz e] at e2;exact nNS e2
 intro rows h e ih l e2
 rw [be e] at e2
 induction e3:merge (bj h rows) with
 |none=>rw [e3] at e2;exact nNS e2
 |some l'=>
  rw [e3] at e2;(replace e2:=ay e2;subst e2)
  obtain ⟨i1,i2⟩:=ih l' e3
  obtain ⟨r,hr,hh⟩:=c9 e
  refine ⟨HS.mpr ⟨λhm=>((lY.mp ((i2 h).mp hm)).2) rfl,i1⟩,λx=>?_⟩
  rw [G0,i2,lY]
  constructor
  ·rintro (rfl|h1)
   ·exact ⟨r,hr,Ig hh⟩
   exact h1.1
  intro hx
  by_cases hxh:x=h
  ·exact .inl hxh
  exact .inr ⟨hx,hxh⟩
end
set_option linter.unusedSectionVars false
section
variable {α:Type} [DecidableEq α]
def Bf (rows:List (List α)) (x y:α):Prop:=∃r∈rows,[x,y].Sublist r
theorem lZ (nd:r.Nodup) (hh:r.head?=some h) (hs:[x,h].Sublist r):False:=by
 induction r using Lc with
 |nil=>exact nNS hh
 |cons a t=>
  (replace hh:=ay hh;subst hh)
  rw [HS] at nd
  cases hs with
  |cons _ hs=>exact nd.1 (hs.subset (by simp))
  |cons_cons _ hs=>exact nd.1 (hs.subset (by simp))
theorem rC (hh:r.head?=some g) (hm:h∈r) (n:g≠h):[g,h].Sublist r:=by
 induction r using Lc with
 |nil=>exact nNS hh
 |cons a t=>
  (replace hh:=ay hh;subst hh)
  rcases G0.mp hm with e|hm
  ·exact absurd e.symm n
  exact (Jf.mpr hm).cons_cons _
theorem iW (h:[x,y].Sublist r) (hx:p x=true) (hy:p y=true):[x,y].Sublist (r.filter p):=by
 have:=h.filter p
 simpa [hx,hy] using this
theorem l0 {P:α->Prop}:∀rows:List (List α),(∀r∈rows,r.Nodup)->(∀y,P y->∃z,P z∧Bf rows z y)->(∃x,P x)->merge rows=none:=by
 refine dR ?_ ?_ ?_
 ·intro rows hz hn hP ⟨x,hx⟩
  obtain ⟨z,_,r,hr,hs⟩:=hP x hx
  rw [hz r hr] at hs
  cases hs
 ·intro rows hz e _ _ _
  exact bI hz e
 intro rows h e ih hn hP hx
 have hg:=good_iff.mp (jK e)
 have' nP:¬P h:=λhp=>by
  obtain ⟨z,_,r,hr,hs⟩:=hP h hp
  rcases hg r hr with hh|hh
  ·exact lZ (hn r hr) hh hs
  exact hh (hs.subset (by simp))
 rw [be e,ih ?_ ?_ hx] at⊢;·rfl
 ·intro r hr
  obtain ⟨r',hr',rfl⟩:=G1.mp hr
  exact (hn r' hr').filter _
 intro y hy
 obtain ⟨z,hz,r,hr,hs⟩:=hP y hy
 refine ⟨z,hz,_,G1.mpr ⟨r,hr,rfl⟩,iW hs ?_ ?_⟩
 ·simpa using λe:z=h=>nP (e▸hz)
 simpa using λe:y=h=>nP (e▸hy)
theorem nK {R:α->α->Prop} (tr:∀x y z,R x y->R y z->R x z) (ir:∀x,¬R x x):∀l:List α,l≠[]->∃m∈l,∀z∈l,¬R z m:=by
 intro l
 induction l with
 |nil=>intro h;exact absurd rfl h
 |cons a t ih=>
  intro _
  by_cases ht:t=[]
  ·subst ht;exact ⟨a,by simp,λz hz=>by rw [GY.mp hz];exact ir a⟩
  obtain ⟨m,hm,h⟩:=ih ht
  by_cases ha:R a m
  ·refine ⟨a,by simp,λz hz=>?_⟩
   rcases G0.mp hz with rfl|hz
   ·exact ir _
   exact λhr=>h z hz (tr _ _ _ hr ha)
  refine ⟨m,by simp [hm],λz hz=>?_⟩
  rcases G0.mp hz with rfl|hz
  ·exact ha
  exact h z hz
structure Q7 (rows:List (List α)) (left:List α):Prop where
 nd:∀r∈rows,r.Nodup
 up:∀x y,Relation.TransGen (Bf rows) x y->x∈left->y∈left
 sub:∀x∈left,∃r∈rows,x∈r
abbrev cut (left:List α) (rows:List (List α)):List (List α):=rows.map λr=>r.filter λx=>decide (x∈left)
theorem Q7.good_iff {rows:List (List α)} {left:List α} (L:Q7 rows left) {h:α} (hm:h∈left):cZ (cut left rows) h=true↔∀z,Relation.TransGen (Bf rows) z h->z∉left:=by
 rw [Mine.Internal.good_iff]
 constructor
 ·intro hg z hz hl
  obtain ⟨w,hw,r,hr,hs⟩:∃w,w∈left∧Bf rows w h:=by
   induction hz with
   |single h1=>exact ⟨z,hl,h1⟩
   |tail h1 h2=>exact ⟨_,L.up _ _ h1 hl,h2⟩
  have' hs':[w,h].Sublist (r.filter λx=>decide (x∈left)):=iW hs (by simpa using hw) (by simpa using hm)
  rcases hg _ (G1.mpr ⟨r,hr,rfl⟩) with hh|hh
  ·exact lZ ((L.nd r hr).filter _) hh hs'
  exact hh (hs'.subset (by simp))
 intro hz r' hr'
 obtain ⟨r,hr,rfl⟩:=G1.mp hr'
 by_cases hmem:h∈r.filter λx=>decide (x∈left)
 ·refine .inl ?_
  induction e:(r.filter λx=>decide (x∈left)).head? with
  |none=>rw [List.head?_eq_none_iff] at e;rw [e] at hmem;cases hmem
  |some g=>
   by_cases hgh:g=h
   ·rw [hgh]
   exfalso
   have hs:=rC e hmem hgh
   have hgl:g∈left:=by have:=Ig e;rw [HD] at this;simpa using this.2
   exact hz g (.single ⟨r,hr,hs.trans (List.filter_sublist)⟩) hgl
 exact .inr hmem
theorem Q7.some {rows:List (List α)} {left:List α} (L:Q7 rows left) (ac:∀x,¬Relation.TransGen (Bf rows) x x) (hn:left≠[]):∃h,bO (cut left rows)=some h∧h∈left∧(∀z,Relation.TransGen (Bf rows) z h->z∉left):=by
 obtain ⟨m,hm,hmin⟩:=nK (R:=Relation.TransGen (Bf rows)) (λ_ _ _=>Relation.TransGen.trans) ac left hn
 obtain ⟨r,hr,hmr⟩:=L.sub m hm
 have' hg:=(L.good_iff hm).mpr λz hz hl=>hmin z hl hz
 have hmf:m∈r.filter λx=>decide (x∈left):=HD.mpr ⟨hmr,by simpa using hm⟩
 have hh:(r.filter λx=>decide (x∈left)).head?=.some m:=(Mine.Internal.good_iff.mp hg _ (G1.mpr ⟨r,hr,rfl⟩)).resolve_right λz=>z hmf
 have hin:m∈(cut left rows).filterMap Ij:=HM.mpr ⟨_,G1.mpr ⟨r,hr,rfl⟩,hh⟩
 induction e:bO (cut left rows) with
 |none=>
  unfold bO at e
  rw [List.find?_eq_none] at e
  exact absurd hg (e m hin)
 |some h=>
  obtain ⟨r',hr',hh'⟩:=c9 e
  obtain ⟨r2,hr2,rfl⟩:=G1.mp hr'
  have' hl:h∈left:=by have:=Ig hh';rw [HD] at this;simpa using this.2
  exact ⟨h,rfl,hl,(L.good_iff hl).mp (jK e)⟩
theorem Q7.next {rows:List (List α)} {left:List α} (L:Q7 rows left) {h:α} (hz:∀z,Relation.TransGen (Bf rows) z h->z∉left):Q7 rows (left.filter λx=>decide (x≠h))∧cut (left.filter λx=>decide (x≠h)) rows=bj h (cut left rows):=by
 refine ⟨⟨L.nd,λx y hxy hx=>?_,λx hx=>L.sub x (HD.mp hx).1⟩,?_⟩
 ·rw [HD] at hx⊢
  refine ⟨L.up x y hxy hx.1,?_⟩
  simpa using λe:y=h=>hz x (e▸hxy) hx.1
 unfold cut bj
 rw [Hx]
 refine HC λr hr=>?_
 show _=(r.filter _).filter _
 rw [List.filter_filter]
 refine List.filter_congr λx hx=>?_
 simp [and_comm]
theorem rD {rows:List (List α)} {left:List α} (h:∀r∈rows,∀x∈r,x∈left):cut left rows=rows:=by
 unfold cut
 have:∀r∈rows,(r.filter λx=>decide (x∈left))=r:=λr hr=>Iw.mpr λx hx=>by simpa using h r hr x hx
 rw [HC this];simp
theorem uC:∀r∈cut ([]:List α) rows,r=[]:=by
 intro r hr
 obtain ⟨r',_,rfl⟩:=G1.mp hr
 simp
end
set_option linter.unusedSectionVars false
def ao {α:Type} [DecidableEq α] (ns:List α):List α:=ns.foldl (λr x=>if x∈r then r else r++[x]) []
section
variable {α:Type} [DecidableEq α]
theorem ch (ns:List α) (x:α):ao (ns++[x])=if x∈ao ns then ao ns else ao ns++[x]:=by unfold ao;rw [List.foldl_append];rfl
theorem aN {ns:List α} {x:α}:x∈ao ns↔x∈ns:=by
 suffices ∀acc:List α,x∈ns.foldl (λr x=>if x∈r then r else r++[x]) acc↔x∈acc∨x∈ns by simpa [ao] using this []
 induction ns with
 |nil=>intro acc;simp
 |cons a l ih=>
  intro acc
  rw [JX,ih]
  split
  ·rename_i h
   rw [G0]
   constructor
   ·exact λz=>z.imp id .inr
   rintro (h1|rfl|h1)
   ·exact .inl h1
   ·exact .inl h
   exact .inr h1
  simp [or_assoc]
theorem ft (ns:List α):(ao ns).Nodup:=by
 suffices ∀acc:List α,acc.Nodup->(ns.foldl (λr x=>if x∈r then r else r++[x]) acc).Nodup by exact this [] (by simp)
 induction ns with
 |nil=>intro acc h;exact h
 |cons a l ih=>
  intro acc h
  rw [JX]
  refine ih _ ?_
  split
  ·exact h
  rename_i n
  rw [JI]
  refine ⟨h,by simp,λu hu v hv=>?_⟩
  rw [GY.mp hv];rintro rfl;exact n hu
theorem l9 (ns:List α):(ao ns).length≤ns.length:=Jq.length_le_of_subset (ft ns) λ_ h=>aN.mp h
end
def cS (os:List (List Int)) (bases:List Int):List (List Int):=(ao bases).map (λb=>(os[b.toNat]?).getD [])++[ao bases]
def cJ (world:List (List Int)) (k:Nat) (bases:List Int) (p:List (List Int)×List Bool):List (List Int)×List Bool:=
 match merge (cS p.1 bases) with
 |none=>(p.1++[aP (bp world 7 k)],p.2++[false])
 |some l=>(p.1++[(k:Int)::l],p.2++[(ao bases).all λb=>(p.2[b.toNat]?).getD false])
def a0 (world:List (List Int)) (n:Nat):List (List Int)×List Bool:=Nat.rec ([],[]) (λk ih=>cJ world k ((world[k]?).getD []) ih) n
theorem bS (world:List (List Int)):∀n,(a0 world n).1.length=n∧(a0 world n).2.length=n:=by
 intro n
 induction n with
 |zero=>exact ⟨rfl,rfl⟩
 |succ n ih=>
  show (cJ world n _ (a0 world n)).1.length=_∧(cJ world n _ (a0 world n)).2.length=_
  unfold cJ
  split<;>exact ⟨(G7 ..).trans (congrArg (·+1) ih.1),(G7 ..).trans (congrArg (·+1) ih.2)⟩
theorem pF (world:List (List Int)) (k:Nat) (bases:List Int) (p:List (List Int)×List Bool):p.1<+:(cJ world k bases p).1∧p.2<+:(cJ world k bases p).2:=by
 unfold cJ;split<;>exact ⟨GV _ _,GV _ _⟩
theorem kP (world:List (List Int)) (n:Nat):∀d,(a0 world n).1<+:(a0 world (n+d)).1∧(a0 world n).2<+:(a0 world (n+d)).2:=by
 intro d
 induction d with
 |zero=>exact ⟨GX _,GX _⟩
 |succ d ih=>
  have':=pF world (n+d) ((world[n+d]?).getD []) (a0 world (n+d))
  exact ⟨ih.1.trans this.1,ih.2.trans this.2⟩
theorem nM (W:cf world):∀n k,∀x∈bp world n k,0≤x∧x≤k:=by
 intro n
 induction n with
 |zero=>intro k x hx;exact EK (GY.mp hx)
 |succ n ih=>
  intro k x hx
  replace hx:x∈(k:Int)::((world[k]?).getD []).flatMap λb=>bp world n b.toNat:=hx
  rcases G0.mp hx with rfl|hx
  ·exact w75
  obtain ⟨b,hb,_⟩:=IU.mp hx;clear hx;rename_i hx
  have:=ih _ x hx
  induction e:world[k]? with
  |none=>rw [e] at hb;cases hb
  |some r=>rw [e] at hb;have:=(W.2 k r e).2 b hb;exact EO ‹_› this
theorem gS {os:List (List Int)} {bases:List Int} {row:List Int} (h:row∈cS os bases):(∃b∈bases,row=(os[b.toNat]?).getD [])∨row=ao bases:=by
 unfold cS at h
 rcases G8.mp h with h|h
 ·obtain ⟨b,hb,rfl⟩:=G1.mp h;exact .inl ⟨b,aN.mp hb,rfl⟩
 exact .inr (GY.mp h)
theorem yN {world:List (List Int)} (W:cf world):∀n (k:Nat) r,(a0 world n).1[k]?=some r->r.Nodup∧∀x∈r,0≤x∧x≤k:=by
 intro n
 induction n with
 |zero=>intro k r h;exact nNS h
 |succ n ih=>
  intro k r h
  have hl:=(bS world n).1
  by_cases hk:k<n
  ·rw [show (a0 world (n+1)).1[k]?=(a0 world n).1[k]? from ?_] at h
   ·exact ih k r h
   obtain ⟨t,ht⟩:=(kP world n 1).1
   rw [<-ht,Ha (w31 hl hk)]
  have' hbase:∀b∈(world[n]?).getD [],0≤b∧b<n:=λb hb=>by
   induction e:world[n]? with
   |none=>rw [e] at hb;cases hb
   |some r=>rw [e] at hb;exact (W.2 n r e).2 b hb
  have' hrows:∀row∈cS (a0 world n).1 ((world[n]?).getD []),∀x∈row,0≤x∧x<n:=λrow hrow x hx=>by
   rcases gS hrow with ⟨b,hb,rfl⟩|rfl
   ·have hb':=hbase b hb
    induction e:(a0 world n).1[b.toNat]? with
    |none=>rw [e] at hx;cases hx
    |some r=>rw [e] at hx;have:=(ih _ r e).2 x hx;exact w86 hb' this
   exact hbase x (aN.mp hx)
  have key:(a0 world (n+1)).1=(a0 world n).1++[match merge (cS (a0 world n).1 ((world[n]?).getD [])) with|none=>aP (bp world 7 n)|some l=>(n:Int)::l]:=by
   show (cJ world n ((world[n]?).getD []) (a0 world n)).1=_
   unfold cJ;split<;>rfl
  rw [key] at h
  have hkn:k=n:=by
   have':=(G4.mp h).1
   simp [hl] at this;exact DB hk this
  subst hkn
  rw [Hh (w34 hl),hl,Nat.sub_self] at h
  simp only [I8,Hm.injEq] at h
  subst h
  split
  ·exact ⟨fG _,λx hx=>nM W _ _ x (dQ.mp hx)⟩
  rename_i l e
  obtain ⟨h1,h2⟩:=jL _ l e
  refine ⟨HS.mpr ⟨λhm=>?_,h1⟩,λx hx=>?_⟩
  ·obtain ⟨row,hrow,hx⟩:=(h2 _).mp hm
   have:=hrows row hrow _ hx;exact DN this
  rcases G0.mp hx with rfl|hx
  ·exact w75
  obtain ⟨row,hrow,_⟩:=(h2 _).mp hx;clear hx;rename_i hx
  have:=hrows row hrow _ hx;exact EA this
theorem eF {l:List Int} (nd:l.Nodup) (h:∀x∈l,0≤x∧x<7):l.length≤7:=by
 have:(l.map Hy).length≤(Hf 7).length:=by
  refine Jq.length_le_of_subset ?_ λx hx=>?_
  ·rw [Ib,Ji]
   rw [Ib] at nd
   exact nd.imp_of_mem λ{a b} ha hb hab=>by have:=h a ha;have:=h b hb;exact w88 hab ‹_› this
  obtain ⟨n,hn,rfl⟩:=G1.mp hx
  have:=h n hn
  rw [H9];exact w26 this
 simpa using this
set_option linter.unusedSectionVars false
def bC (bs:Nat->List Nat) (n:Nat):Nat->List Nat:=Nat.rec (λk=>[k]) (λ_ ih k=>k::(bs k).flatMap ih) n
def aX (bs:Nat->List Nat) (N:Nat):Prop:=N≤7∧∀k<N,(bs k).length≤3∧∀b∈bs k,b<k
theorem nN (W:aX bs N):∀n k,k≤n->k<N->bC bs (n+1) k=bC bs n k:=by
 intro n
 induction n with
 |zero=>
  intro k hk hN
  have':k=0:=w16 hk
  subst this
  show (0:Nat)::_=_
  induction e:bs 0 using Lc with
  |nil=>rfl
  |cons x r=>exact absurd ((W.2 0 hN).2 x (by rw [e];exact .head _)) (Io _)
 |succ n ih=>
  intro k hk hN
  show k::_=k::_
  congr 1
  refine cH λb hb=>ih _ ?_ ?_
  ·have:=(W.2 k hN).2 b hb;exact w12 hk this
  have:=(W.2 k hN).2 b hb;exact w1 hN this
theorem iX (W:aX bs N) (h:k≤n) (hN:k<N):∀d,bC bs (n+d) k=bC bs n k:=by
 intro d
 induction d with
 |zero=>rfl
 |succ d ih=>rw [<-JJ,nN W _ _ (w45 h) hN,ih]
theorem ma (W:aX bs N) (hN:k<N):bC bs 7 k=k::(bs k).flatMap (bC bs 7):=by
 have:=W.1
 rw [show bC bs 7 k=bC bs (k+1+(6-k)) k from by rw [show k+1+(6-k)=7 by exact w63 hN this],iX W (w2) hN]
 show k::(bs k).flatMap _=_
 congr 1
 refine cH λb hb=>?_
 have:=(W.2 k hN).2 b hb
 rw [show bC bs 7 b=bC bs (k+(7-k)) b from by rw [show k+(7-k)=7 by exact w62 hN ‹_›],iX W (w32 this) (w1 hN this)];rfl
theorem jM (W:aX bs N):∀n k,k<N->(bC bs n k).length≤4^n:=by
 intro n
 induction n with
 |zero=>intro k _;exact GW 1
 |succ n ih=>
  intro k hN
  have key:∀l:List Nat,(∀b∈l,b<N)->(l.flatMap (bC bs n)).length≤l.length*4^n:=by
   intro l
   induction l with
   |nil=>intro _;simp
   |cons x l ihl=>
    intro h
    rw [Ia,G7,Ht,JV]
    have:=ih x (h x (.head _));have:=ihl λb hb=>h b (.tail _ hb);exact w40 ‹_› this
  show (_::_).length≤_
  rw [Ht]
  have hr:=(W.2 k hN).1
  have h1:=key (bs k) λb hb=>by have:=(W.2 k hN).2 b hb;exact w1 hN this
  have h2:(bs k).length*4^n≤3*4^n:=Iz _ hr
  have h3:0<4^n:=Nat.pow_pos !3
  rw [Nat.pow_succ];exact w47 h1 h2 h3
theorem ge (W:aX bs N):∀n k,k<N->∀x∈bC bs n k,x≤k:=by
 intro n
 induction n with
 |zero=>intro k _ x hx;exact w34 (GY.mp hx)
 |succ n ih=>
  intro k hN x hx
  replace hx:x∈k::(bs k).flatMap (bC bs n):=hx
  rcases G0.mp hx with rfl|hx
  ·exact Et
  obtain ⟨b,hb,_⟩:=IU.mp hx;clear hx;rename_i hx
  have h1:=(W.2 k hN).2 b hb
  have:=ih b (w1 hN h1) x hx
  exact BV h1 this
theorem uD (f:Nat->List Nat) (h:∀x,f x≠[]):∀l:List Nat,l.length≤(l.flatMap f).length:=by
 intro l
 induction l with
 |nil=>simp
 |cons a l ih=>
  rw [Ia,G7,Ht]
  have:=List.length_pos_iff.mpr (h a);exact Cg ih this
theorem rE (bs:Nat->List Nat) (n k:Nat):bC bs n k≠[]:=by cases n<;>simp [bC]
set_option linter.unusedSectionVars false
section
variable {α:Type} [DecidableEq α]
def neR (rows:List (List α)):List (List α):=rows.filter λr=>!r.isEmpty
theorem eZ:r∈neR rows↔r∈rows∧r≠[]:=by
 unfold neR;rw [HD];simp
theorem gf (rows:List (List α)):bO (neR rows)=bO rows:=by
 have h1:(neR rows).filterMap Ij=rows.filterMap Ij:=by
  unfold neR
  induction rows with
  |nil=>rfl
  |cons r rs ih=>
   induction r using Lc with
   |nil=>rw [Hw,Rz (by simp),HL rfl];exact ih
   |cons a l=>rw [Hw,RA (by simp),Hv (f:=Ij) (b:=a) rfl,Hv (f:=Ij) (b:=a) rfl,ih]
 have h2:cZ (neR rows)=cZ rows:=by
  funext h
  rw [Ja,good_iff,good_iff]
  constructor
  ·intro hg r hr
   by_cases hn:r=[]
   ·subst hn;exact .inr (by simp)
   exact hg r (eZ.mpr ⟨hr,hn⟩)
  intro hg r hr
  exact hg r (eZ.mp hr).1
 unfold bO;rw [h1,h2]
theorem uE (f:List α->List α) (h0:f []=[]) (rows:List (List α)):neR ((neR rows).map f)=neR (rows.map f):=by
 unfold neR
 induction rows with
 |nil=>rfl
 |cons r rs ih=>
  induction r using Lc with
  |nil=>rw [Hw,Rz (by simp),Hc,Hw,Rz (by rw [h0];simp)];exact ih
  |cons a l=>
   rw [Hw,RA (by simp),Hc,Hc]
   generalize f (a::l)=g
   rw [Hw,Hw,ih]
theorem md (h:α) (rows:List (List α)):neR (bj h (neR rows))=neR (bj h rows):=uE _ rfl rows
theorem me (rows:List (List α)):∀rows',neR rows'=neR rows->merge rows'=merge rows:=by
 refine dR (P:=λrows=>∀rows',neR rows'=neR rows->merge rows'=merge rows) ?_ ?_ ?_ rows
 ·intro rows hz rows' e
  rw [bW hz,bW λr hr=>?_] at⊢
  refine Classical.byContradiction λhn=>?_
  have:=(eZ.mp (e▸eZ.mpr ⟨hr,hn⟩)).1
  exact hn (hz r this)
 ·intro rows hz hp rows' e
  rw [bI hz hp,bI (λhz'=>hz λr hr=>?_) (by rw [<-gf,e,gf,hp])] at⊢
  refine Classical.byContradiction λhn=>?_
  have:=(eZ.mp (e.symm▸eZ.mpr ⟨hr,hn⟩)).1
  exact hn (hz' r this)
 intro rows h hp ih rows' e
 rw [be hp,be (h:=h) (by rw [<-gf,e,gf,hp]),ih]
 rw [<-md,e,md]
theorem jN (rows:List (List α)):merge (neR rows)=merge rows:=me rows _ (by unfold neR;rw [List.filter_filter];simp)
end
set_option linter.unusedSectionVars false
theorem gh {α:Type} {P:List α->Prop} (h0:P []) (h1:∀l x,P l->P (l++[x])):∀l,P l:=by
 have:∀l' l:List α,l=l'.reverse->P l:=by
  intro l'
  induction l' with
  |nil=>intro l e;rw [e];exact h0
  |cons a l' ih=>intro l e;rw [e,JG];exact h1 _ _ (ih _ rfl)
 intro l
 exact this l.reverse l (by simp)
section
variable {α β:Type} [DecidableEq α] [DecidableEq β]
theorem ej (r:List α):(ao r).head?=r.head?:=by
 refine gh (P:=λr=>(ao r).head?=r.head?) rfl (λl x ih=>?_) r
 rw [ch]
 induction l using Lc with
 |nil=>simp [ao]
 |cons a l=>
  split
  ·rw [ih];rfl
  have hne:ao (a::l)≠[]:=λe=>by have:a∈ao (a::l):=aN.mpr (.head _);rw [e] at this;cases this
  induction e:ao (a::l) using Lc with
  |nil=>exact absurd e hne
  |cons b m=>rw [e] at ih;exact ih
theorem iY (p:α->Bool) (r:List α):(ao r).filter p=ao (r.filter p):=by
 refine gh (P:=λr=>(ao r).filter p=ao (r.filter p)) rfl (λl x ih=>?_) r
 rw [ch,IG]
 by_cases hp:p x=true
 ·have':[x].filter p=[x]:=by simp [hp]
  rw [this,ch,<-ih]
  by_cases hm:x∈ao l
  ·rw [RA hm,RA (HD.mpr ⟨hm,hp⟩)]
  rw [Rz hm,Rz (λh=>hm (HD.mp h).1),IG,this]
 have':[x].filter p=[]:=by simp [hp]
 rw [this,HR,<-ih]
 split
 ·rfl
 rw [IG,this,HR]
theorem kQ (f:α->Option β) (p:β->Bool) (bs:List α):((ao bs).filterMap f).find? p=(bs.filterMap f).find? p:=by
 refine gh (P:=λbs=>((ao bs).filterMap f).find? p=(bs.filterMap f).find? p) rfl (λl x ih=>?_) bs
 rw [ch,HH,IC]
 split
 ·rename_i hm
  rw [ih]
  induction e:(l.filterMap f).find? p with
  |some y=>rfl
  |none=>
   rw [List.find?_eq_none] at e
   induction e2:([x].filterMap f).find? p with
   |none=>rfl
   |some y=>
    have h1:=Ik e2
    have h2:=Jb e2
    obtain ⟨z,hz,hy⟩:=HM.mp h1
    rw [GY] at hz
    subst hz
    exact absurd h2 (e y (HM.mpr ⟨z,aN.mp hm,hy⟩))
 rw [HH,IC,ih]
theorem mf:∀(rows:List (List α)) (bs:List α) (g:α->List α) (r:List α),rows=bs.map g++[r]->merge ((ao bs).map g++[ao r])=merge rows:=by
 have gd:∀(bs:List α) (g:α->List α) (r:List α),cZ ((ao bs).map g++[ao r])=cZ (bs.map g++[r]):=by
  intro bs g r
  funext h
  rw [Ja,good_iff,good_iff]
  constructor
  ·intro hg q hq
   rcases G8.mp hq with hq|hq
   ·obtain ⟨b,hb,rfl⟩:=G1.mp hq
    exact hg _ (HU _ (G1.mpr ⟨b,aN.mpr hb,rfl⟩))
   rw [GY.mp hq]
   have:=hg (ao r) (by simp)
   rw [ej,aN] at this
   exact this
  intro hg q hq
  rcases G8.mp hq with hq|hq
  ·obtain ⟨b,hb,rfl⟩:=G1.mp hq
   exact hg _ (HU _ (G1.mpr ⟨b,aN.mp hb,rfl⟩))
  rw [GY.mp hq,ej,aN]
  exact hg r (by simp)
 have' pk:∀(bs:List α) (g:α->List α) (r:List α),bO ((ao bs).map g++[ao r])=bO (bs.map g++[r]):=by
  intro bs g r
  unfold bO
  rw [gd,HH,HH,IC,IC,IH,IH,kQ]
  congr 2
  have:=ej r
  induction e:r.head? with
  |none=>rw [e] at this;rw [HL this,HL e]
  |some x=>rw [e] at this;rw [Hv this,Hv e]
 refine dR ?_ ?_ ?_
 ·rintro rows hz bs g r rfl
  rw [bW hz,bW λq hq=>?_] at⊢
  rcases G8.mp hq with hq|hq
  ·obtain ⟨b,hb,rfl⟩:=G1.mp hq
   exact hz _ (HU _ (G1.mpr ⟨b,aN.mp hb,rfl⟩))
  rw [GY.mp hq,hz r (by simp)];rfl
 ·rintro rows hz hp bs g r rfl
  rw [bI hz hp,bI (λhz'=>hz λq hq=>?_) (by rw [pk,hp])] at⊢
  rcases G8.mp hq with hq|hq
  ·obtain ⟨b,hb,rfl⟩:=G1.mp hq
   exact hz' _ (HU _ (G1.mpr ⟨b,aN.mpr hb,rfl⟩))
  rw [GY.mp hq]
  have:=hz' (ao r) (by simp)
  induction r using Lc with
  |nil=>rfl
  |cons a l=>have h:a∈ao (a::l):=aN.mpr (.head _);rw [this] at h;cases h
 rintro rows h hp ih bs g r rfl
 rw [be hp,be (h:=h) (by rw [pk,hp])]
 have e1:bj h (bs.map g++[r])=bs.map (λb=>(g b).filter λx=>x≠h)++[r.filter λx=>x≠h]:=by unfold bj;rw [Hp,Hx];rfl
 have e2:bj h ((ao bs).map g++[ao r])=(ao bs).map (λb=>(g b).filter λx=>x≠h)++[ao (r.filter λx=>x≠h)]:=by unfold bj;rw [Hp,Hx,<-iY];rfl
 rw [e2,ih bs _ _ e1]
theorem rF {f:α->β} (inj:∀x y,f x=f y->x=y) (rows:List (List α)) (h:α):cZ (rows.map (It f)) (f h)=cZ rows h:=by
 rw [Ja,good_iff,good_iff]
 constructor
 ·intro hg r hr
  have':=hg (r.map f) (G1.mpr ⟨r,hr,rfl⟩)
  rw [J6] at this
  refine this.imp (λe=>?_) λe hm=>e (G1.mpr ⟨h,hm,rfl⟩)
  induction hh:r.head? with
  |none=>rw [hh] at e;exact nNS e
  |some x=>rw [hh] at e;rw [inj x h (Hm.inj e)]
 intro hg r' hr'
 obtain ⟨r,hr,rfl⟩:=G1.mp hr'
 rw [J6]
 refine (hg r hr).imp (λe=>by rw [e];rfl) λe hm=>?_
 obtain ⟨x,hx,ex⟩:=G1.mp hm
 exact e (inj x h ex▸hx)
theorem mh {f:α->β} (inj:∀x y,f x=f y->x=y) (rows:List (List α)):bO (rows.map (It f))=(bO rows).map f:=by
 unfold bO
 have e:(rows.map (It f)).filterMap Ij=(rows.filterMap Ij).map f:=by
  rw [IH,List.map_filterMap]
  congr 1
  funext r
  exact J6
 rw [e]
 generalize rows.filterMap Ij=l
 induction l with
 |nil=>rfl
 |cons a l ih=>
  rw [Hc,IL,IL,rF inj]
  cases cZ rows a with
  |true=>rfl
  |false=>exact ih
theorem rG {f:α->β} (inj:∀x y,f x=f y->x=y) (rows:List (List α)) (h:α):bj (f h) (rows.map (It f))=(bj h rows).map (It f):=by
 unfold bj
 rw [Hx,Hx]
 refine HC λr _=>?_
 show (r.map f).filter _=(r.filter _).map f
 rw [List.filter_map]
 congr 1
 refine List.filter_congr λx _=>?_
 have:f x=f h↔x=h:=⟨inj x h,λe=>by rw [e]⟩
 simp [this]
theorem pG {f:α->β} (inj:∀x y,f x=f y->x=y):∀rows:List (List α),merge (rows.map (It f))=(merge rows).map (It f):=by
 refine dR ?_ ?_ ?_
 ·intro rows hz
  rw [bW hz,bW λr hr=>?_] at⊢;·rfl
  obtain ⟨r',hr',rfl⟩:=G1.mp hr
  rw [hz r' hr'];rfl
 ·intro rows hz hp
  rw [bI hz hp,bI (λhz'=>hz λr hr=>?_) (by rw [mh inj,hp];rfl)] at⊢;·rfl
  have:=hz' (r.map f) (G1.mpr ⟨r,hr,rfl⟩)
  exact List.map_eq_nil_iff.mp this
 intro rows h hp ih
 rw [be hp,be (h:=f h) (by rw [mh inj,hp];rfl),rG inj,ih]
 cases merge (bj h rows)<;>rfl
theorem rH {f:α->β} (inj:∀x y,f x=f y->x=y) (l:List α):aP (l.map f)=(aP l).map f:=by
 induction l with
 |nil=>rfl
 |cons a l ih=>
  have' hm:f a∈(aP l).map f↔a∈aP l:=⟨λh=>by obtain ⟨x,hx,e⟩:=G1.mp h;exact inj x a e▸hx,λh=>G1.mpr ⟨a,h,rfl⟩⟩
  rw [Hc]
  by_cases h:a∈aP l
  ·rw [ee h,ee (by rw [ih];exact hm.mpr h),ih]
  rw [cV h,cV (by rw [ih];exact λz=>h (hm.mp z)),ih];rfl
theorem pH {f:α->β} (inj:∀x y,f x=f y->x=y) (l:List α):ao (l.map f)=(ao l).map f:=by
 refine gh (P:=λl=>ao (l.map f)=(ao l).map f) rfl (λl x ih=>?_) l
 have' hm:f x∈(ao l).map f↔x∈ao l:=⟨λh=>by obtain ⟨y,hy,e⟩:=G1.mp h;exact inj y x e▸hy,λh=>G1.mpr ⟨x,h,rfl⟩⟩
 rw [Hp,Hc,List.map_nil,ch,ch,ih]
 by_cases h:x∈ao l
 ·rw [RA h,RA (hm.mpr h)]
 rw [Rz h,Rz (λz=>h (hm.mp z))];simp
theorem pI:∀t:List α,t.Nodup->merge [t,[]]=some t:=by
 intro t
 induction t with
 |nil=>intro _;exact bW (by simp)
 |cons a t ih=>
  intro nd
  rw [HS] at nd
  have hp:bO [a::t,[]]=some a:=by
   unfold bO
   simp [cZ]
  have hd:bj a [a::t,[]]=[t,[]]:=by
   unfold bj
   have':t.filter (λx=>decide (x≠a))=t:=Iw.mpr λx hx=>by simpa using (λe=>nd.1 (e▸hx):¬x=a)
   simp at this⊢
   exact this
  rw [be hp,hd,ih nd.2];rfl
theorem nO (h:α) (t:List α) (nd:(h::t).Nodup):merge [h::t,[h]]=some (h::t):=by
 rw [HS] at nd
 have hp:bO [h::t,[h]]=some h:=by unfold bO;simp [cZ]
 have hd:bj h [h::t,[h]]=[t,[]]:=by
  unfold bj
  have':t.filter (λx=>decide (x≠h))=t:=Iw.mpr λx hx=>by simpa using (λe=>nd.1 (e▸hx):¬x=h)
  simp at this⊢
  exact this
 rw [be hp,hd,pI t nd.2];rfl
theorem pJ (k:α) (rows:List (List α)) (h:∀r∈rows,k∉r):merge ([k]::rows)=(merge rows).map (k::·):=by
 have hp:bO ([k]::rows)=some k:=by
  unfold bO
  rw [Hv (f:=Ij) (b:=k) rfl,IL]
  have:cZ ([k]::rows) k=true:=good_iff.mpr λr hr=>by
   rcases G0.mp hr with rfl|hr
   ·exact .inl rfl
   exact .inr (h r hr)
  rw [this]
 rw [be hp]
 have hd:bj k ([k]::rows)=[]::rows:=by
  unfold bj
  rw [Hc]
  congr 1
  ·simp
  have:∀r∈rows,(r.filter λx=>decide (x≠k))=r:=λr hr=>Iw.mpr λx hx=>by simpa using (λe=>h r hr (e▸hx):¬x=k)
  rw [HC this];simp
 rw [hd,me rows ([]::rows) (by unfold neR;simp)]
end
local macro_rules | `(tactic| walk_at $s:str) => do
  let mut r <-`(tactic|walk_at "v")
  let mut t <-`(tactic|first|with_reducible assumption|kernel_rfl)
  let mut l:="zK zf zg v2 v3"
  match s.getString with
    |"s"=>
       l:="lR Fk kF Fj qT A8 Fn A9 GC GD GR GS"
       r <-`(tactic|skip)
       t <-`(tactic|first|walk_at "u"|(with_reducible apply q0;intro _ _))
    |"u"=>l:="GB A6 Fm A7"
    |"v"=>r <-`(tactic|all_goals walk_at "v")
    |"l"=>
       l:="zV tF Ba wm zU"
       t <-`(tactic|simp [lim]<;>omega)
       r <-`(tactic|all_goals first|assumption|with_unfolding_all rfl)
    |_=>Lean.Macro.throwUnsupported
  for w in (l.splitOn " ").reverse do
    let i:=Lean.mkIdent w.toName
    t <-`(tactic|first|(focus with_reducible apply$i;$r:tactic)| $t:tactic)
  return t
def er (ns:List Int):List Int:=ns.foldl (λr x=>if x∈r then r else r++[x]) []
theorem iZ (ns:List Int) (x:Int):er (ns++[x])=if x∈er ns then er ns else er ns++[x]:=by unfold er;rw [List.foldl_append];rfl
theorem jO (ns:List Int):(er ns).length≤ns.length:=by
 suffices ∀l acc:List Int,(l.foldl (λr x=>if x∈r then r else r++[x]) acc).length≤acc.length+l.length by simpa [er] using this ns []
 intro l
 induction l with
 |nil=>intro acc;simp
 |cons x l ih=>intro acc;rw [JX];split<;>(refine G2 (ih _) ?_;simp<;>exact CF)
inductive Rj (hd:Bool) (vs:List V) (hp:List O) (Q:V->List O->Prop) (E:Nat->List O->Prop):Prop
 |mk (z1:hd=true) (i) (ns:List Int) (z2:vs=[.obj i]) (z3:hp[i]?=some (.list (ns.map .int))) (z4:ns.length≤1000) (z5:∀hp' j,hp<+:hp'->hp'[j]?=some (.list ((er ns).map .int))->hp.length≤j->Q (.obj j) hp'):Rj hd vs hp Q E
theorem yO (h:Rj hd vs hp Q E):
  aq (gam fn) 30 (aF (KH P) 373) (an (KH P) 373) (aD ["bases"]) hd vs hp Q E:=by
 obtain ⟨rfl,i,ns,rfl,hi,hl,hQ⟩:=h
 have' hlim:ns.length≤lim:=by unfold lim;exact w7 hl
 refine aJ (ud fn true) rfl (by decide+kernel) ?_
 intros
 refine aR (!3) ?_
 intros
 refine bi (af hi) (by simpa using hlim) ?_
 refine bA (f:=V.int) (xs:=ns) rfl (λpre hp' m=>P8 (hp<+:hp') (m "row"=some (.obj hp.length)) (hp'[hp.length]?=some (.list ((er pre).map .int)))) ⟨GV _ _,!1,ai⟩ ?_ ?_ ?_
 ·rintro pre hp' m ⟨h1,h2,h3⟩
  exact ae h1 hi
 ·rintro pre x post hp' m W e ⟨h1,h2,h3⟩ hW
  intros
  have hpre:(er pre).length≤lim:=by have:=jO pre;rw [e] at hlim;simp at hlim;exact Bq this hlim
  have hpre':(er pre).length<lim:=by have:=jO pre;rw [e] at hl;simp at hl;unfold lim;exact Ci this hl
  refine lT h3 hpre ?_
  intros
  refine bN (λhc=>?_) λhc=>?_
  ·intros
   refine ct h3 (!3) ?_
   intros
   refine ck h3 (by simpa using hpre') ?_
   intros
   refine hW _ _ ⟨cF h1 (GW _),!1,?_⟩
   rw [bf h3,iZ,Rz (by simpa using hc),Hp];rfl
  intros
  refine hW _ _ ⟨h1,!1,?_⟩
  rw [h3,iZ,RA (by simpa using hc)]
 rintro hp' m ⟨h1,h2,h3⟩
 intros
 exact hQ _ _ h1 h3 (GW _)
def Ql (hp:List O) (ps:List (Nat×List Int)):Prop:=∀p∈ps,hp[p.1]?=some (.list (p.2.map .int))
theorem Ql.up (x:hp<+:hp') (h:Ql hp ps):Ql hp' ps:=λp hp=>ae x (h p hp)
abbrev adr (p:Nat×List Int):V:=.obj p.1
abbrev rws (ps:List (Nat×List Int)):List (List Int):=ps.map (·.2)
inductive RwI {γ:Type} (hp1:List O) (F:List γ->List (List Int)) (pre:List γ) (acc:List V) (hp2:List O):Prop
 |mk (z1:hp1<+:hp2) (hs:List (Nat×List Int)) (z2:acc=hs.map adr) (z3:rws hs=F pre) (z4:Ql hp2 hs):RwI hp1 F pre acc hp2
theorem RwI.ext {γ:Type} {F:List γ->List (List Int)} {pre:List γ} (h:RwI hp1 F pre acc hp2):hp1<+:hp2:=by obtain ⟨h,_⟩:=h;exact h
inductive Q0 (hd:Bool) (vs:List V) (hp:List O) (Q:V->List O->Prop) (E:Nat->List O->Prop):Prop
 |mk (z1:hd=true) (i) (ns:List Int) (z2:vs=[.obj i]) (z3:hp[i]?=some (.list (ns.map .int))) (z4:ns.length≤50000) (z5:∀hp' j,hp<+:hp'->hp'[j]?=some (.list ((aP ns).map .int))->hp.length≤j->Q (.obj j) hp'):Q0 hd vs hp Q E
theorem uF (h:Q0 hd vs hp Q E):
  aq (gam fn) 30 (aF (KH P) 392) (an (KH P) 392) (aD ["row"]) hd vs hp Q E:=by
 obtain ⟨rfl,i,ns,rfl,hi,hl,hQ⟩:=h
 have' hlim:ns.length≤lim:=by unfold lim;exact w82 hl
 refine aJ (uj fn true) rfl (by decide+kernel) ?_
 dsimp only [HT,Hi]
 intros
 refine aR (!2) ?_
 intros
 refine wf (af hi) (by simpa using hlim) ?_
 refine bi ai (by simpa using hlim) ?_
 refine bA (f:=V.int) (xs:=ns.reverse) (by simp) (λpre hp' m=>hp++[O.list []]++[.list (ns.map V.int).reverse]<+:hp'∧∃j,P8 (m "kept"=some (.obj j)) (hp.length≤j) (hp'[j]?=some (.list ((aP pre.reverse).map .int)))) ⟨GX _,hp.length,!1,GW _,af ai⟩ ?_ ?_ ?_
 ·rintro pre hp' m ⟨h1,_⟩
  exact ae h1 ai
 ·rintro pre x post hp' m W e ⟨h1,j,h2,hj,h3⟩ hW
  have' hpre:(aP pre.reverse).length≤50000:=by
   have:=lX pre.reverse
   have:=congrArg HW e
   simp at*;exact Bn hl ‹_› this
  have hpl:(aP pre.reverse).length≤lim:=by unfold lim;exact w82 hpre
  intros
  refine lT h3 hpl ?_
  intros
  refine bN (λhc=>?_) λhc=>?_
  ·intros
   refine aR (!2) ?_
   intros
   refine ou ai (af h3) (by simp;unfold lim;exact Eh hpre) ?_
   intros
   refine hW _ _ ⟨hY (hY h1 _) _,_,!1,?_,ai.trans ?_⟩
   ·have:=bH h1;simp at*;exact CH this
   simp at hc
   simp [cV hc]
  intros
  refine hW _ _ ⟨h1,j,!1,hj,?_⟩
  simp at hc
  rw [h3];simp [ee hc]
 rintro hp' m ⟨h1,j,h2,hj,h3⟩
 intros
 rw [List.reverse_reverse] at h3
 exact hQ _ _ (((GV _ _).trans (GV _ _)).trans h1) h3 hj
inductive Qt (n:Nat) (hd:Bool) (vs:List V) (hp:List O) (Q:V->List O->Prop) (E:Nat->List O->Prop):Prop
 |mk (z1:hd=true) (w) (ps:List (Nat×List Int)) (k) (r) (z2:vs=[.obj w,.int (k:Nat)]) (z3:hp[w]?=some (.list (ps.map adr))) (z4:Ql hp ps) (z5:cf (rws ps)) (z6:k<n) (z7:(rws ps)[k]?=some r) (z8:∀hp' j,hp<+:hp'->hp'[j]?=some (.list ((bp (rws ps) 7 k).map .int))->hp.length≤j->Q (.obj j) hp'):Qt n hd vs hp Q E
inductive WkI (hp:List O) (w k:Nat) (ps:List (Nat×List Int)) (pre:List Int) (hp':List O) (m:bY):Prop
 |mk (z1:hp<+:hp') (z2:m "world"=some (.obj w)) (j:Nat) (z3:m "row"=some (.obj j)) (z4:hp.length≤j) (z5:hp'[j]?=some (.list (((k:Int)::pre.flatMap λb=>bp (rws ps) 7 b.toNat).map .int))):WkI hp w k ps pre hp' m
theorem uG (hf:fn 385 []=some (Qt n)) (h:Qt (n+1) hd vs hp Q E):
  aq (gam fn) 30 (aF (KH P) 385) (an (KH P) 385) (aD ["world","node"]) hd vs hp Q E:=by
 obtain ⟨rfl,w,ps,k,r,rfl,hw,hr,W,hk,hkr,hQ⟩:=h
 have hlen:ps.length≤7:=by simpa using W.1
 refine aJ (ui fn true) rfl (by decide+kernel) ?_
 dsimp only [HT,Hi]
 obtain ⟨p,hp1,rfl⟩:∃p,ps[k]?=some p∧p.2=r:=by simpa using hkr
 have hpm:p∈ps:=HV hp1
 have hr3:=(W.2 k _ hkr).1
 intros
 refine aR (!2) ?_
 intros
 refine bQ (af hw) (by simp;unfold lim;exact w4 hlen) (v:=adr p) (by rw [Hg,hp1];rfl) ?_
 refine bi (af (hr p hpm)) (by simp;unfold lim;exact Ec hr3) ?_
 refine bA (f:=V.int) (xs:=p.2) rfl (WkI hp w k ps)
  ⟨GV _ _,!1,hp.length,!1,GW _,ai⟩ ?_ ?_ ?_
 ·rintro pre hp' m ⟨h1,_⟩
  exact ae h1 (hr p hpm)
 ·rintro pre x post hp' m V e ⟨h1,hmw,j,h2,hj,h3⟩ hV
  have' hx:=(W.2 k _ hkr).2 x (by rw [e];simp)
  obtain ⟨b,rfl⟩:=Ii hx.1
  replace hb:∃rb,(rws ps)[b]?=some rb:=⟨_,G3 (IY (w56 hx) (G4.mp hkr).1)⟩
  obtain ⟨rb,hrb⟩:=hb
  have flen:∀l:List Int,(l.flatMap λb=>bp (rws ps) 7 b.toNat).length≤l.length*16384:=by
   intro l
   induction l with
   |nil=>simp
   |cons x l ihl=>rw [Ia,G7,Ht,JV];have:=iV W 7 x.toNat;simp at this;exact Ca ihl this
  intros
  refine cY hf ⟨rfl,w,ps,b,rb,rfl,ae h1 hw,hr.up h1,W,by exact BG hk hx,hrb,λhp2 j2 g1 g2 g3=>?_⟩
  intros
  have hpl:pre.length≤2:=by have:=congrArg HW e;simp at this;exact w44 hr3 this
  have hA:((k:Int)::pre.flatMap λb=>bp (rws ps) 7 b.toNat).length≤32769:=by have:=flen pre;simp only [Ht];exact Dc hpl this
  have hB:=iV W 7 b
  refine ou (ae g1 h3) g2 (by rw [G7,G6,G6];unfold lim;simp only [show 4^7=16384 from rfl] at hB;exact De hA hB) ?_
  intros
  refine hV _ _ ⟨(h1.trans g1).trans (GV _ _),!1,_,!1,G2 hj (Hk (aE (ae g1 h3))),ai.trans ?_⟩
  simp
 rintro hp' m ⟨h1,_,j,h2,hj,h3⟩
 intros
 refine hQ _ _ h1 ?_ hj
 rw [h3,uA W hkr]
def Bef (rows:List (List Int)) (x y:Int):Prop:=∃row∈rows,∃k:Nat,row[k]?=some y∧x∈row.take k
abbrev dy (rows:List (List Int)):Int->Int->Prop:=Relation.TransGen (Bef rows)
def QJ (hp:List O) (j ep:Nat) (qs:QS):Prop:=hp[j]?=some (.dict ep (qs.map qv))∧∀q∈qs,Ex3 λes ep t=>hp[q.2.1]?=some (.set q.2.2 es ep t)
theorem nQ {hp:List O} {i j:Nat} {o o':O} (h:hp[i]?=some o) (h':hp[j]?=some o') (n:o≠o'):i≠j:=by
 rintro rfl;rw [h] at h';(replace h':=ay h';subst h');exact n rfl
theorem aw {hp:List O} {i j:Nat} {o o':O} (h:hp[i]?=some o) (h':hp[j]?=some o') (n:(o.ctorIdx==o'.ctorIdx)=false):i≠j:=nQ h h' λe=>by rw [e,beq_self_eq_true] at n;exact nTF n
theorem QJ.up (x:hp<+:hp') (h:QJ hp j ep qs):QJ hp' j ep qs:=
 ⟨ae x h.1,λq hq=>let ⟨es,e,t,z⟩:=h.2 q hq;⟨es,e,t,ae x z⟩⟩
theorem QJ.put {hp:List O} {j ep ep':Nat} {qs:QS} {x:Int} {a:Nat} {S:List Int} {es:Array (Int×Value)} {e:Nat} {t:KZ} (nd:(qs.map (·.1)).Nodup) (h:QJ hp j ep qs) (ha:hp[a]?=some (.set S es e t)):
  QJ (hp.set j (.dict ep' (aV (qs.map qv) x (.obj a)))) j ep' (aV qs x (a,S)):=by
 refine ⟨by rw [bf h.1,tD],λq hq=>?_⟩
 rcases dP nd hq with rfl|⟨hq,_⟩
 ·exact ⟨es,e,t,aO (aw h.1 ha rfl) ha⟩
 obtain ⟨es',e',t',z⟩:=h.2 q hq
 exact ⟨es',e',t',aO (aw h.1 z rfl) z⟩
structure Ph (hp0 hp:List O) (j ep:Nat) (pp:List (List Int×Nat)) (qs:QS):Prop where
 ext:hp0<+:hp
 low:hp0.length≤j
 tab:QJ hp j ep qs
 nd:(qs.map (·.1)).Nodup
 key:∀x,x∈qs.map (·.1)↔∃q∈pp,q.1[q.2]?=some x
 small:∀q∈qs,PQ q.2.2
 mem:∀q∈qs,∀y,y∈q.2.2↔∃z∈pp,z.1[z.2]?=some q.1∧y∈z.1.take z.2
theorem Ph.up (x:hp<+:hp') (h:Ph hp0 hp j ep pp qs):Ph hp0 hp' j ep pp qs:={h with ext:=h.ext.trans x,tab:=h.tab.up x}
def kR (rows:List (List Int)):Prop:=rows.length≤10∧∀r∈rows,r.length≤100∧∀x∈r,0≤x∧x<7
theorem fc (h:PQ S):S.length≤7:=by
 have':(S.map Hy).length≤(Hf 7).length:=by
  refine Jq.length_le_of_subset ?_ λx hx=>?_
  ·rw [Ib,Ji]
   exact h.rise.imp_of_mem λ{a b} ha hb hab=>by have:=h.low a ha;have:=h.low b hb;exact ET hab ‹_›
  obtain ⟨n,hn,rfl⟩:=G1.mp hx
  have:=h.low n hn
  rw [H9];exact w26 this
 simpa using this
theorem rI (h:PQ S) (hT:PQ T) (hs:∀x∈T,x∈S) (hy:y∈S) (hn:y∉T):T.length<S.length:=by
 have nd:∀{U:List Int},PQ U->U.Nodup:=λh=>Ib.mpr (h.rise.imp λhab=>by exact EU hab)
 have':(y::T).length≤S.length:=Jq.length_le_of_subset (HS.mpr ⟨hn,nd hT⟩) λx hx=>by
  rcases G0.mp hx with rfl|hx
  ·exact hy
  exact hs x hx
 rw [Ht] at this;exact CG this
theorem jP:PQ []:=⟨List.Pairwise.nil,λ_ h=>by cases h⟩
theorem uH (H:Ph hp0 hp j ep pp qs) (hy:row[k]?=some y) (hr:∀x∈row,0≤x∧x<7)
  (x:hp<+:hp') (hS:PQ S) (hm:∀z,z∈S↔∃q∈pp,q.1[q.2]?=some y∧z∈q.1.take q.2)
  (ha:hp'[a]?=some (.set (aW (aW (row.take k) []) S) es e t)):Ph hp0 (hp'.set j (.dict ep' (aV (qs.map qv) y (.obj a)))) j ep' (pp++[(row,k)]) (aV qs y (a,aW (aW (row.take k) []) S)):=by
 have' H':=H.up x
 have' hrt:∀x∈row.take k,0≤x∧x<7:=λx hx=>hr x (IA hx)
 refine ⟨cF H'.ext H.low,H.low,H'.tab.put H.nd ha,?_,λz=>?_,λq hq=>?_,λq hq z=>?_⟩
 ·rw [cw]
  split
  ·exact H.nd
  rename_i n
  rw [JI]
  refine ⟨H.nd,by simp,λu hu v hv=>?_⟩
  rw [GY.mp hv];rintro rfl;exact n hu
 ·rw [cw]
  have':z∈(if y∈qs.map (·.1) then qs.map (·.1) else qs.map (·.1)++[y])↔z∈qs.map (·.1)∨z=y:=by
   split
   ·rename_i hm;exact ⟨.inl,λh=>h.elim id λe=>e▸hm⟩
   rw [G8,GY]
  rw [this,H.key]
  constructor
  ·rintro (⟨q,hq,h⟩|rfl)
   ·exact ⟨q,HU _ hq,h⟩
   exact ⟨(row,k),by simp,hy⟩
  rintro ⟨q,hq,h⟩
  rcases G8.mp hq with hq|hq
  ·exact .inl ⟨q,hq,h⟩
  rw [GY.mp hq] at h
  exact .inr (by rw [hy] at h;(replace h:=ay h;subst h);rfl)
 ·rcases dP H.nd hq with rfl|⟨hq,_⟩
  ·exact PQ.all hS λx hx=>(PQ.all jP hrt).low x hx
  exact H.small q hq
 rcases dP H.nd hq with rfl|⟨hq,hn⟩
 ·rw [bw,bw,hm]
  constructor
  ·rintro ((h|h)|⟨q,hq,h⟩)
   ·exact ⟨(row,k),by simp,hy,h⟩
   ·cases h
   exact ⟨q,HU _ hq,h⟩
  rintro ⟨q,hq,h⟩
  rcases G8.mp hq with hq|hq
  ·exact .inr ⟨q,hq,h⟩
  rw [GY.mp hq] at h
  exact .inl (.inl h.2)
 rw [H.mem q hq]
 constructor
 ·rintro ⟨w,hw,h⟩;exact ⟨w,HU _ hw,h⟩
 rintro ⟨w,hw,h⟩
 rcases G8.mp hw with hw|hw
 ·exact ⟨w,hw,h⟩
 rw [GY.mp hw,hy] at h
 exact absurd (by cases h.1;rfl) hn
structure Cl (hp0 hp:List O) (j ep:Nat) (rows:List (List Int)) (qs:QS):Prop where
 ext:hp0<+:hp
 low:hp0.length≤j
 tab:QJ hp j ep qs
 nd:(qs.map (·.1)).Nodup
 key:∀x,x∈qs.map (·.1)↔∃row∈rows,x∈row
 small:∀q∈qs,PQ q.2.2
 lo:∀q∈qs,∀y,Bef rows y q.1->y∈q.2.2
 hi:∀q∈qs,∀y∈q.2.2,dy rows y q.1
theorem Cl.up (x:hp<+:hp') (h:Cl hp0 hp j ep rows qs):Cl hp0 hp' j ep rows qs:={h with ext:=h.ext.trans x,tab:=h.tab.up x}
theorem jQ (h:dy rows x y):∃row∈rows,x∈row:=by
 induction h with
 |single h=>obtain ⟨r,hr,k,_,hx⟩:=h;exact ⟨r,hr,IA hx⟩
 |tail _ _ ih=>exact ih
theorem Cl.other (H:Cl hp0 hp j ep rows qs) (hq:q∈qs) (hy:y∈q.2.2):∃p,aj qs y=some p:=
 cx ((H.key y).mpr (jQ (H.hi q hq y hy)))
theorem oG {qs:QS} (nd:(qs.map (·.1)).Nodup) (h:q∈qs):aj qs q.1=some q.2:=by
 induction qs with
 |nil=>cases h
 |cons p r ih=>
  rw [Hc,HS] at nd
  rw [bE]
  rcases G0.mp h with rfl|h
  ·rw [RA rfl]
  rw [Rz (λe:p.1=q.1=>nd.1 (e▸G1.mpr ⟨q,h,rfl⟩))];exact ih nd.2 h
theorem Cl.step (H:Cl hp0 hp j ep rows qs) (hx:aj qs x=some p) (hy:aj qs y=some o) (hm:y∈p.2) (hk:∃z,z∈o.2∧z∉p.2)
  (X:hp<+:hp') (ha:hp'[a]?=some (.set (aW o.2 p.2) es e t)):
  Cl hp0 (hp'.set j (.dict ep (aV (qs.map qv) x (.obj a)))) j ep rows (aV qs x (a,aW o.2 p.2))∧mu (aV qs x (a,aW o.2 p.2))<mu qs∧(aV qs x (a,aW o.2 p.2)).map (·.1)=qs.map (·.1):=by
 have H':=H.up X
 have hxm:=bU hx
 have hym:=bU hy
 have' hkeys:(aV qs x (a,aW o.2 p.2)).map (·.1)=qs.map (·.1):=by rw [cw,RA (G1.mpr ⟨_,hxm,rfl⟩)]
 have' hS:PQ (aW o.2 p.2):=PQ.all (H.small _ hxm) λz hz=>(H.small _ hym).low z hz
 refine ⟨⟨cF H'.ext H.low,H.low,H'.tab.put H.nd ha,by rw [hkeys];exact H.nd,λz=>by rw [hkeys];exact H.key z,λq hq=>?_,λq hq z hz=>?_,λq hq z hz=>?_⟩,?_,hkeys⟩
 ·rcases dP H.nd hq with rfl|⟨hq,_⟩
  ·exact hS
  exact H.small q hq
 ·rcases dP H.nd hq with rfl|⟨hq,_⟩
  ·exact bw.mpr (.inr (H.lo _ hxm z hz))
  exact H.lo q hq z hz
 ·rcases dP H.nd hq with rfl|⟨hq,_⟩
  ·rcases bw.mp hz with hz|hz
   ·exact (H.hi _ hym z hz).trans (H.hi _ hxm y hm)
   exact H.hi _ hxm z hz
  exact H.hi q hq z hz
 obtain ⟨z,hz1,hz2⟩:=hk
 exact wj hx (rI hS (H.small _ hxm) (λw hw=>bw.mpr (.inr hw)) (bw.mpr (.inl hz1)) hz2) (fc hS)
theorem Cl.done (H:Cl hp0 hp j ep rows qs) (hc:∀q∈qs,∀y∈q.2.2,∀p,aj qs y=some p->∀z∈p.2,z∈q.2.2):∀q∈qs,∀y,y∈q.2.2↔dy rows y q.1:=by
 intro q hq y
 refine ⟨H.hi q hq y,λh=>?_⟩
 obtain ⟨x,a,S⟩:=q
 show y∈S
 replace h:dy rows y x:=h
 have main:∀x,dy rows y x->∀a S,(x,a,S)∈qs->y∈S:=by
  intro x h
  induction h with
  |single h=>intro a S hq;exact H.lo _ hq _ h
  |tail h1 h2 ih=>
   intro a S hq
   have hb:=H.lo _ hq _ h2
   obtain ⟨p,hp⟩:=H.other hq hb
   exact hc _ hq _ hb p hp _ (ih p.1 p.2 (bU hp))
 exact main x h a S hq
inductive QP (hd:Bool) (vs:List V) (hp:List O) (Q:V->List O->Prop) (E:Nat->List O->Prop):Prop
 |mk (z1:hd=true) (r) (ps:List (Nat×List Int)) (z2:vs=[.obj r]) (z3:hp[r]?=some (.list (ps.map adr))) (z4:Ql hp ps) (z5:kR (rws ps)) (z6:∀hp' j ep qs,Cl hp hp' j ep (rws ps) qs->(∀q∈qs,∀y,y∈q.2.2↔dy (rws ps) y q.1)->qs.length≤7->Q (.obj j) hp'):QP hd vs hp Q E
theorem map_take {l:List Int} (k:Nat):(l.map V.int).take k=(l.take k).map V.int:=(List.map_take ..).symm
theorem ek {rows:List (List Int)} {qs:QS} (ok:kR rows) (nd:(qs.map (·.1)).Nodup) (hk:∀x∈qs.map (·.1),∃row∈rows,x∈row):qs.length≤7:=by
 have:((qs.map (·.1)).map Hy).length≤(Hf 7).length:=by
  have' lo:∀x∈qs.map (·.1),0≤x∧x<7:=λx hx=>let ⟨r,hr,h⟩:=hk x hx;(ok.2 r hr).2 x h
  refine Jq.length_le_of_subset ?_ λx hx=>?_
  ·rw [Ib,Ji]
   rw [Ib] at nd
   exact nd.imp_of_mem λ{a b} ha hb hab=>by have:=lo a ha;have:=lo b hb;exact w88 hab ‹_› this
  obtain ⟨n,hn,rfl⟩:=G1.mp hx
  have:=lo n hn
  rw [H9];exact w26 this
 simpa using this
def pp (l:List (Nat×List Int)):List (List Int×Nat):=l.flatMap λp=>(Hf p.2.length).map (Prod.mk p.2)
theorem rJ (h:z∈pp ps):z.1∈rws ps:=by
 obtain ⟨p,hp',h⟩:=IU.mp h
 obtain ⟨k',_,rfl⟩:=G1.mp h
 exact G1.mpr ⟨p,hp',rfl⟩
theorem uI:pp (pre++[p])=pp pre++(Hf p.2.length).map (Prod.mk p.2):=by simp [pp]
theorem Al (H:Ph hp hp1 j ep (pp ps) qs):Cl hp hp1 j ep (rws ps) qs:=by
 have' ofpp:∀row∈rws ps,∀k:Nat,k<row.length->(row,k)∈pp ps:=λrow hrow k hk=>by
  obtain ⟨p,hp',rfl⟩:=G1.mp hrow
  exact IU.mpr ⟨p,hp',G1.mpr ⟨k,H9.mpr hk,rfl⟩⟩
 refine ⟨H.ext,H.low,H.tab,H.nd,λx=>(H.key x).trans ⟨λ⟨z,hz,h⟩=>⟨z.1,rJ hz,HV h⟩,λ⟨row,hrow,h⟩=>?_⟩,H.small,λq hq y hb=>?_,λq hq y hy=>?_⟩
 ·obtain ⟨k,hk,e⟩:=List.getElem_of_mem h
  exact ⟨(row,k),ofpp row hrow k hk,(G3 hk).trans (congrArg some e)⟩
 ·obtain ⟨row,hrow,k,h1,h2⟩:=hb
  exact (H.mem q hq y).mpr ⟨(row,k),ofpp row hrow k (G4.mp h1).1,h1,h2⟩
 obtain ⟨z,hz,h1,h2⟩:=(H.mem q hq y).mp hy
 exact .single ⟨z.1,rJ hz,z.2,h1,h2⟩
def F3 (qs:QS):Prop:=∀q∈qs,∀y∈q.2.2,∀p,aj qs y=some p->∀z∈p.2,z∈q.2.2
def rK (qs:QS) (pre:List Int):Prop:=∀q∈qs,q.1∈pre->∀y∈q.2.2,∀p,aj qs y=some p->∀z∈p.2,z∈q.2.2
def yP (qs:QS) (x:Int) (pre2:List Int):Prop:=∀y∈pre2,∀p,aj qs y=some p->∀z∈p.2,∀p3,aj qs x=some p3->z∈p3.2
def eG (l:List Int) (z:Int):Option V:=if z∈l then none else some (.int z)
inductive AI1 (hp:List O) (pre:List (Nat×List Int)) (hp':List O) (m:bY):Prop
 |mk (z1:m "ahead"=some (.obj hp.length)) (ep) (qs) (z2:Ph hp hp' hp.length ep (pp pre) qs):AI1 hp pre hp' m
inductive AI2 (hp:List O) (p:Nat×List Int) (pre:List (Nat×List Int)) (pre2:List Nat) (hp2:List O) (m2:bY):Prop
 |mk (z1:m2 "ahead"=some (.obj hp.length)) (z2:m2 "row"=some (adr p)) (ep) (qs) (z3:Ph hp hp2 hp.length ep (pp pre++pre2.map (Prod.mk p.2)) qs):AI2 hp p pre pre2 hp2 m2
inductive AI3 (hp:List O) (ps:List (Nat×List Int)) (n:Nat) (hp':List O) (m:bY):Prop
 |mk (z1:m "ahead"=some (.obj hp.length)) (ep) (qs) (z2:Cl hp hp' hp.length ep (rws ps) qs) (c) (z3:m "changed"=some (.bool c)) (z4:(c=true->n=mu qs+1)) (z5:c=false->F3 qs):AI3 hp ps n hp' m
inductive AI4 (hp:List O) (ps:List (Nat×List Int)) (ep:Nat) (qs:QS) (pre:List Int) (hp':List O) (m:bY):Prop
 |mk (z1:m "ahead"=some (.obj hp.length)) (qs') (z2:Cl hp hp' hp.length ep (rws ps) qs') (z3:qs'.map (·.1)=qs.map (·.1)) (c) (z4:m "changed"=some (.bool c)) (z5:(c=true->mu qs'<mu qs)) (z6:c=false->qs'=qs∧rK qs pre):AI4 hp ps ep qs pre hp' m
inductive AI5 (hp hp':List O) (ps:List (Nat×List Int)) (ep:Nat) (qs qs':QS) (px:Nat×List Int) (x:Int) (pre:List Int) (pre2:List Int) (hp3:List O) (m3:bY):Prop
 |mk (z1:hp3[hp'.length]?=some (.list (px.2.map .int))) (z2:m3 "ahead"=some (.obj hp.length)) (z3:m3 "node"=some (.int x)) (qs3) (z4:Cl hp hp3 hp.length ep (rws ps) qs3) (z5:qs3.map (·.1)=qs.map (·.1)) (z6:(∃p3,aj qs3 x=some p3∧∀z∈px.2,z∈p3.2)) (c) (z7:m3 "changed"=some (.bool c)) (z8:(c=true->mu qs3<mu qs)) (z9:c=false->qs3=qs∧qs'=qs∧rK qs pre∧yP qs x pre2):AI5 hp hp' ps ep qs qs' px x pre pre2 hp3 m3
theorem rL {P:Ko} {fn:FnT} {hd:Bool} {vs:List V} {hp:List O} {Q:V->List O->Prop} {E:Nat->List O->Prop} (h:QP hd vs hp Q E):
  aq (gam fn) 30 (aF (KH P) 378) (an (KH P) 378) (aD ["rows"]) hd vs hp Q E:=by
 obtain ⟨rfl,i,ps,rfl,hi,hr,ok,hQ⟩:=h
 have' hpl:ps.length≤10:=by simpa using ok.1
 refine aJ (uh fn true) rfl (by decide+kernel) ?_
 dsimp only [HT,Hi]
 intros
 refine fZ ?_
 intros
 refine bi (af hi) (!2) ?_
 refine bA (f:=adr) (xs:=ps) rfl (AI1 hp)
  ⟨!1,0,[],GV _ _,GW _,⟨ai,(λ_ h=>nomatch h)⟩,List.nodup_nil,by simp [pp],(λ_ h=>nomatch h),(λ_ h=>nomatch h)⟩ ?_ ?_ ?_
 ·rintro pre hp' m ⟨_,ep,qs,H⟩
  exact ae H.ext hi
 ·rintro pre p post hp' m W e ⟨hm,ep,qs,H⟩ hW
  have' hpm:p∈ps:=b0 e
  have' hrow:=hr p hpm
  obtain ⟨hl,hx⟩:=ok.2 p.2 (G1.mpr ⟨p,hpm,rfl⟩)
  intros
  refine gG (ae H.ext hrow) (!2) ?_
  rw [G6]
  refine eW (!2) ?_
  refine bA (f:=λ(j:Nat)=>V.int j) (xs:=Hf p.2.length) rfl (AI2 hp p pre)
   ⟨!1,!1,ep,qs,by simpa using H⟩ (λ_ _ _ _=>trivial) ?_ ?_
  ·rintro pre2 k post2 hp2 m2 W2 e2 ⟨hm1,hm2,ep2,qs2,H2⟩ hW2
   have' hk:k<p.2.length:=by rw [<-H9,e2];simp
   have' hy:p.2[k]?=some p.2[k]:=G3 hk
   generalize p.2[k]=y at hy
   have' hrow2:=ae H2.ext hrow
   have' hyv:(p.2.map V.int)[k]?=some (.int y):=by rw [Hg,hy];rfl
   intros
   refine kK H2.tab.1 (!3) ?_
   intros
   refine bQ hrow2 (!2) hyv ?_
   intros
   refine re λes0 ep0 t0=>?_
   refine jF (af H2.tab.1) ?_
   obtain ⟨a,S,ha,hS,es,e1,t,hAt,hmem⟩:Ex2 λa S=>P8 ((aj (qs2.map qv) y).getD (.obj hp2.length)=.obj a) (PQ S) (Ex3 λes e1 t=>(hp2++[O.set [] es0 ep0 t0])[a]?=some (.set S es e1 t)∧∀z,z∈S↔∃q∈(pp pre++pre2.map (Prod.mk p.2)),q.1[q.2]?=some y∧z∈q.1.take q.2):=by
    rw [eY]
    induction eg:aj qs2 y with
    |some b=>
     have' hb:=bU eg
     obtain ⟨es,e1,t,h1⟩:=H2.tab.2 _ hb
     exact ⟨b.1,b.2,rfl,H2.small _ hb,es,e1,t,af h1,H2.mem _ hb⟩
    |none=>
     refine ⟨_,[],rfl,jP,es0,ep0,t0,ai,λz=>⟨λh=>(by cases h),λ⟨q,hq,h⟩=>?_⟩⟩
     have':=(H2.key y).mpr ⟨q,hq,h.1⟩
     obtain ⟨b,hb⟩:=cx this
     rw [eg] at hb;exact nNS hb
   rw [ha]
   intros
   refine qZ (af hrow2) (!2) ?_
   rw [map_take]
   refine zQ ai (λx hxx=>hx x (IA hxx)) λes3 ep3 t3=>?_
   refine zN (af (af hAt)) ai λes4 ep4 t4=>?_
   intros
   refine bQ (af (af (af (af hrow2)))) (!2) hyv ?_
   have' hq7:qs2.length≤7:=ek ok H2.nd λx hxk=>by
    obtain ⟨q,hq,h1⟩:=(H2.key x).mp hxk
    have' hxq:=HV h1
    rcases G8.mp hq with hq|hq
    ·obtain ⟨p',hp',e'⟩:=G1.mp (rJ hq)
     exact ⟨q.1,G1.mpr ⟨p',by rw [e];exact HU _ hp',e'⟩,hxq⟩
    obtain ⟨k',_,rfl⟩:=G1.mp hq
    exact ⟨p.2,G1.mpr ⟨p,hpm,rfl⟩,hxq⟩
   refine c8 (af (af (af (af H2.tab.1)))) (!2) λep' _=>?_
   intros
   refine hW2 _ _ ⟨!1,!1,ep',?_,?_⟩
   rotate_left
   rw [Hp,<-IB]
   refine uH H2 hy hx ?_ hS hmem ai
   simp only [IB];exact GV _ _
  rintro hp2 m2 ⟨hm1,hm2,ep2,qs2,H2⟩
  intros
  refine hW _ _ ⟨hm1,ep2,qs2,?_⟩
  rw [uI];exact H2
 rintro hp1 m1 ⟨hm,ep,qs,H⟩
 have' C0:=Al H
 clear H
 intros
 refine ib (AI3 hp ps) (mu qs+1)
  ⟨!1,ep,qs,C0,true,!1,λ_=>rfl,(λh=>nomatch h)⟩ ?_
 rintro n hp2 m2 W ⟨hm2,ep,qs,C,c,hc,hc1,hc2⟩ hW
 intros
 refine rn ?_
 induction c with
 |false=>
  rw [Rz !3]
  intros
  exact hQ _ _ ep qs C (C.done (hc2 rfl)) (ek ok C.nd λx hx=>(C.key x).mp hx)
 |true=>
  rw [RA rfl]
  have' hn:=hc1 rfl
  intros
  have' hq7:qs.length≤7:=ek ok C.nd λx hx=>(C.key x).mp hx
  refine nG C.tab.1 (!2) ?_
  refine bA (f:=V.int) (xs:=qs.map (·.1)) (by simp [qv]) (AI4 hp ps ep qs)
   ⟨!1,qs,C,rfl,false,!1,(λh=>nomatch h),λ_=>⟨rfl,(λq _ h=>nomatch h)⟩⟩ ?_ ?_ ?_
  ·rintro pre hp' m ⟨_,qs',C',hk,_⟩
   refine ⟨qs'.map qv,C'.tab.1,?_⟩
   have':∀l:QS,(l.map qv).map (·.1)=l.map (·.1):=λl=>by simp [qv]
   rw [this,this,hk]
  ·rintro pre x post hp' m VV e ⟨hm,qs',C',hk,c,hcv,hct,hcf⟩ hV
   have' hxk:x∈qs'.map (·.1):=by rw [hk,e];simp
   obtain ⟨px,hpx⟩:=cx hxk
   have' hpm:=bU hpx
   obtain ⟨es,e1,t,hset⟩:=C'.tab.2 _ hpm
   have' hl2:px.2.length≤7:=fc (C'.small _ hpm)
   intros
   refine cR C'.tab.1 (v:=.obj px.1) (by rw [eY,hpx];rfl) ?_
   refine rf hset (!2) ?_
   refine bi ai (!2) ?_
   refine bA (f:=V.int) (xs:=px.2) rfl (AI5 hp hp' ps ep qs qs' px x pre)
    ⟨ai,!1,!1,qs',C'.up (GV _ _),hk,⟨px,hpx,λz hz=>hz⟩,c,!1,hct,λh=>⟨(hcf h).1,(hcf h).1,(hcf h).2,(λ_ h=>nomatch h)⟩⟩ ?_ ?_ ?_
   ·rintro pre2 hp3 m3 ⟨h1,_⟩;exact h1
   ·rintro pre2 y post2 hp3 m3 V3 e3 ⟨hl3,hma,hmn,qs3,C3,hk3,⟨p3,hp3x,hsub⟩,c3,hc3,hct3,hcf3⟩ hV3
    have' hyx:y∈p3.2:=hsub y (by rw [e3];simp)
    have' hp3m:=bU hp3x
    obtain ⟨o,ho⟩:=C3.other hp3m hyx
    have' hom:=bU ho
    obtain ⟨es1,ee1,t1,hs1⟩:=C3.tab.2 _ hp3m
    obtain ⟨es2,ee2,t2,hs2⟩:=C3.tab.2 _ hom
    have' hgx:aj (qs3.map qv) x=some (.obj p3.1):=by rw [eY,hp3x];rfl
    have' hgy:aj (qs3.map qv) y=some (.obj o.1):=by rw [eY,ho];rfl
    intros
    refine cR C3.tab.1 hgy ?_
    refine rc hs2 λws hws=>?_
    refine bK (f:=V.int) (xs:=ws) (eG p3.2) rfl hs2 (λz hz W E' hW=>?_) ?_
    ·intros
     refine cR C3.tab.1 hgx ?_
     refine lU hs1 ?_
     intros
     refine bN (λhc=>?_) λhc=>?_
     ·refine dl ?_
      intros
      rw [show eG p3.2 z=some (.int z) from Rz (by simpa using hc)] at hW
      exact hW
     refine iU ?_
     rw [show eG p3.2 z=none from RA (by simpa using hc)] at hW
     exact hW
    have' hwl:(ws.filterMap (eG p3.2)).length≤lim:=by
     have' h1:=Ir (eG p3.2) ws
     have' h2:=hws.length_eq
     have' h3:=fc (C3.small _ hom)
     simp only [lim];exact w46 h1 h2 h3
    refine aR hwl ?_
    refine d9 ai hwl ?_
    refine bN (λhc=>?_) λhc=>?_
    ·have' hk:∃z,z∈o.2∧z∉p3.2:=by
      induction ef:ws.filterMap (eG p3.2) using Lc with
      |nil=>rw [ef] at hc;exact nFT hc
      |cons a l=>
       obtain ⟨z,hz,hz2⟩:=HM.mp (ef▸List.mem_cons_self:a∈ws.filterMap (eG p3.2))
       refine ⟨z,hws.mem_iff.mp hz,λhm=>?_⟩
       rw [show eG p3.2 z=none from RA hm] at hz2;exact nNS hz2
     intros
     refine cR (af C3.tab.1) hgx ?_
     intros
     refine cR (af C3.tab.1) hgy ?_
     refine zN (af hs1) (af hs2) λes4 ep4 t4=>?_
     intros
     have' hq7:qs3.length≤7:=ek ok C3.nd λx hx=>(C3.key x).mp hx
     refine c8 (af (af C3.tab.1)) (!2) λep' hep=>?_
     have' hep:=hep (by rw [hgx];rfl)
     subst hep
     obtain ⟨s1,s2,s3⟩:=C3.step hp3x ho hyx hk (a:=(hp3++[O.list (ws.filterMap (eG p3.2))]).length) ((GV _ _).trans (GV _ _)) ai
     intros
     refine hV3 _ _ ⟨?_,!1,!1,_,s1,s3.trans hk3,⟨_,oG s1.nd (rp _ _ _ _),λz hz=>bw.mpr (.inr (hsub z hz))⟩,true,!1,λ_=>?_,(λh=>nomatch h)⟩
     ·exact aO (aw C3.tab.1 hl3 rfl) (af (af hl3))
     refine G5 s2 ?_
     induction c3 with
     |true=>exact Hk (hct3 rfl)
     |false=>rw [(hcf3 rfl).1];exact GW _
    have' hkk:∀z∈o.2,z∈p3.2:=λz hz=>by
     refine Classical.byContradiction λhn=>?_
     have':V.int z∈ws.filterMap (eG p3.2):=HM.mpr ⟨z,hws.mem_iff.mpr hz,Rz hn⟩
     induction ef:ws.filterMap (eG p3.2) using Lc with
     |nil=>rw [ef] at this;cases this
     |cons a l=>rw [ef] at hc;exact nTF hc
    intros
    refine hV3 _ _ ⟨af hl3,!1,!1,qs3,C3.up (GV _ _),hk3,⟨p3,hp3x,hsub⟩,c3,!1,hct3,λh=>?_⟩
    obtain ⟨rfl,g1,g2,g3⟩:=hcf3 h
    refine ⟨rfl,g1,g2,λu hu p hp z hz q hq=>?_⟩
    rcases G8.mp hu with hu|hu
    ·exact g3 u hu p hp z hz q hq
    rw [GY.mp hu,ho] at hp
    (replace hp:=ay hp;subst hp)
    rw [hp3x] at hq;(replace hq:=ay hq;subst hq)
    exact hkk z hz
   rintro hp3 m3 ⟨hl3,hma,hmn,qs3,C3,hk3,⟨p3,hp3x,hsub⟩,c3,hc3,hct3,hcf3⟩
   intros
   refine hV _ _ ⟨hma,qs3,C3,hk3,c3,hc3,hct3,λh=>?_⟩
   obtain ⟨rfl,g1,g2,g3⟩:=hcf3 h
   refine ⟨rfl,λq hq hqx y hy p hp z hz=>?_⟩
   rcases G8.mp hqx with hqx|hqx
   ·exact g2 q hq hqx y hy p hp z hz
   replace hqx:=GY.mp hqx
   have' h1:=oG C3.nd hq
   rw [hqx] at h1
   rw [g1,h1] at hpx
   refine g3 y ?_ p hp z hz q.2 h1
   rw [<-Hm.inj hpx];exact hy
  rintro hp' m ⟨hm,qs',C',hk,c,hcv,hct,hcf⟩
  intros
  induction c with
  |true=>exact hW (mu qs'+1) _ _ (by have':=hct rfl;exact BW hn this) ⟨hm,ep,qs',C',true,hcv,λ_=>rfl,(λh=>nomatch h)⟩
  |false=>
   obtain ⟨rfl,hcl⟩:=hcf rfl
   exact hW 0 _ _ (CV hn) ⟨hm,ep,qs',C',false,hcv,(λh=>nomatch h),λ_ q hq=>hcl q hq (G1.mpr ⟨q,hq,rfl⟩)⟩
theorem nR (h1:r[k]?=some y) (h2:x∈r.take k):[x,y].Sublist r:=by
 obtain ⟨hk,e⟩:=G4.mp h1
 have:r=r.take k++y::r.drop (k+1):=by rw [<-e];simp
 rw [this]
 exact (Jf.mpr h2).append ((Jf.mpr (.head _)))
theorem nS (h:[x,y].Sublist r):∃k:Nat,r[k]?=some y∧x∈r.take k:=by
 induction r with
 |nil=>cases h
 |cons a t ih=>
  cases h with
  |cons _ h=>obtain ⟨k,h1,h2⟩:=ih h;exact ⟨k+1,by simpa using h1,by simp [h2]⟩
  |cons_cons _ h=>
   have hy:y∈t:=h.subset (by simp)
   obtain ⟨k,hk,e⟩:=List.getElem_of_mem hy
   exact ⟨k+1,by simp [<-e,hk],by simp⟩
theorem rM (rows:List (List Int)):Bef rows=Bf rows:=by
 funext x y
 apply propext
 constructor
 ·rintro ⟨r,hr,k,h1,h2⟩;exact ⟨r,hr,nR h1 h2⟩
 rintro ⟨r,hr,h⟩;obtain ⟨k,h1,h2⟩:=nS h;exact ⟨r,hr,k,h1,h2⟩
structure Tab (hp:List O) (j:Nat) (rows:List (List Int)) (ep:Nat) (qs:QS):Prop where
 tab:QJ hp j ep qs
 nd:(qs.map (·.1)).Nodup
 key:∀x,x∈qs.map (·.1)↔∃row∈rows,x∈row
 small:∀q∈qs,PQ q.2.2
 mem:∀q∈qs,∀y,y∈q.2.2↔dy rows y q.1
 len:qs.length≤7
theorem Tab.up (x:hp<+:hp') (h:Tab hp j rows ep qs):Tab hp' j rows ep qs:={h with tab:=h.tab.up x}
inductive QB (hd:Bool) (vs:List V) (hp:List O) (Q:V->List O->Prop) (E:Nat->List O->Prop):Prop
 |mk (z1:hd=true) (node) (r) (ps:List (Nat×List Int)) (j) (ep) (qs:QS) (z2:vs=[.int node,.obj r,.obj j]) (z3:hp[r]?=some (.list (ps.map adr))) (z4:Ql hp ps) (z5:kR (rws ps)) (z6:(∀row∈rws ps,row.Nodup)) (z7:Tab hp j (rws ps) ep qs) (z8:(∀x,¬dy (rws ps) x x)) (z9:∀l hp' k,merge (rws ps)=some l->hp<+:hp'->hp'[k]?=some (.list ((node::l).map .int))->hp.length≤k->Q (.obj k) hp'):QB hd vs hp Q E
def dz (left:List Int) (rows:List (List Int)):List (List Int):=(cut left rows).map (·.take 1)
def eH (left:List Int) (rows:List (List Int)):List Int:=((cut left rows).filterMap Ij).filter (cZ (cut left rows))
theorem pK (left:List Int) (rows:List (List Int)):(eH left rows).head?=bO (cut left rows):=by unfold eH bO;exact List.head?_filter
def mi (left:List Int) (rows:List (List Int)) (h:List Int):Option Int:=match h with
 |[]=>none
 |x::_=>if cZ (cut left rows) x=true then some x else none
theorem rN (left:List Int) (rows:List (List Int)):(dz left rows).filterMap (mi left rows)=eH left rows:=by
 unfold dz eH
 generalize hg:cZ (cut left rows)=p
 have':mi left rows=λh=>match h with|[]=>none|x::_=>if p x=true then some x else none:=by
  funext h;unfold mi;rw [hg]
 rw [this]
 clear this hg
 generalize cut left rows=l
 rw [IH]
 induction l with
 |nil=>rfl
 |cons r l ih=>
  induction r using Lc with
  |nil=>rw [HL rfl,HL rfl];exact ih
  |cons x r=>
   rw [Hv (b:=x) (f:=Ij) rfl,Hw]
   by_cases hp:p x=true
   ·rw [RA hp,Hv (b:=x) (by simp [hp]),ih]
   rw [Rz hp,HL (by simp [hp]),ih]
theorem uJ (left:List Int) (g:Int):left.filterMap (λx=>if x=g then none else some (V.int x))=(left.filter λx=>decide (x≠g)).map V.int:=by
 induction left with
 |nil=>rfl
 |cons a l ih=>
  by_cases ha:a=g
  ·rw [HL (f:=λx=>if x=g then none else some (V.int x)) (RA ha),Hw,Rz (by simpa using ha),ih]
  rw [Hv (f:=λx=>if x=g then none else some (V.int x)) (Rz ha),Hw,RA (by simpa using ha),ih];rfl
theorem pL (h:f q=some g):(pre.filterMap f).map V.int++(some (V.int g)).toList=((pre++[q]).filterMap f).map V.int:=by
 rw [HH,Hp,Hv h];rfl
theorem jR (h:f q=none):(pre.filterMap f).map V.int++(none:Option V).toList=((pre++[q]).filterMap f).map V.int:=by
 rw [HH,Hp,HL h];rfl
inductive MI (hp:List O) (r j:Nat) (node:Int) (ps:List (Nat×List Int)) (n:Nat) (hp':List O) (m:bY):Prop
 |mk (z1:hp<+:hp') (z2:m "rows"=some (.obj r)) (z3:m "ahead"=some (.obj j)) (z4:m "order"=some (.obj hp.length)) (jl:Nat) (left:List Int) (done:List Int) (z5:m "left"=some (.obj jl)) (z6:jl≠hp.length) (z7:hp'[jl]?=some (.list (left.map .int))) (z8:hp'[hp.length]?=some (.list ((node::done).map .int))) (z9:n=left.length) (z10:left.length≤7) (z11:done.length+left.length≤7) (z12:Q7 (rws ps) left) (z13:∀l,merge (cut left (rws ps))=some l->merge (rws ps)=some (done++l)):MI hp r j node ps n hp' m
theorem pM (h:QB hd vs hp Q E):
  aq (gam fn) 30 (aF (KH P) 397) (an (KH P) 397) (aD ["node","rows","ahead"]) hd vs hp Q E:=by
 obtain ⟨rfl,node,r,ps,j,ep,qs,rfl,hi,hr,ok,hnd,T,ac,hQ⟩:=h
 have hpl:ps.length≤10:=by simpa using ok.1
 have' hae:dy (rws ps)=Relation.TransGen (Bf (rws ps)):=by unfold dy;rw [rM]
 have h7:=T.len
 refine aJ (uk fn true) rfl (by decide+kernel) ?_
 dsimp only [HT,Hi]
 intros
 refine aR (!2) ?_
 intros
 refine nG (af T.tab.1) (!2) ?_
 refine bK (f:=V.int) (xs:=qs.map (·.1)) (λx=>some (.int x)) (by simp [qv]) ⟨qs.map qv,af T.tab.1,rfl⟩ (λz hz W E' hW=>?_) ?_
 ·refine dl ?_
  intros
  exact hW
 have' hq7:(qs.map (·.1)).length≤7:=by simpa using h7
 generalize hL0:qs.map (·.1)=L0 at hq7
 have hkey:∀x,x∈L0↔∃row∈rws ps,x∈row:=λx=>hL0▸T.key x
 rw [show L0.filterMap (λx=>some (V.int x))=L0.map V.int from by rw [<-Ip];rfl]
 refine aR (!2) ?_
 intros
 refine ib (MI hp r j node ps) L0.length
  ⟨(GV _ _).trans (GV _ _),!1,!1,!1,_,L0,[],!1,by simp,ai,af ai,rfl,hq7,by simpa using hq7,⟨hnd,λx y hxy hx=>?_,λx hx=>(hkey x).mp hx⟩,λl hl=>?_⟩ ?_
 ·rw [<-hae] at hxy
  obtain ⟨q,hq,hqe⟩:∃row∈rws ps,y∈row:=by
   clear hx
   induction hxy with
   |single h=>obtain ⟨row,hrow,k,h1,_⟩:=h;exact ⟨row,hrow,HV h1⟩
   |tail _ h=>obtain ⟨row,hrow,k,h1,_⟩:=h;exact ⟨row,hrow,HV h1⟩
  exact (hkey y).mpr ⟨q,hq,hqe⟩
 ·rw [rD (λrow hrow x hx=>(hkey x).mpr ⟨row,hrow,hx⟩)] at hl
  exact hl
 rintro n hp1 m1 W ⟨h1,hmr,hma,hmo,jl,left,done,hml,hne,hjl,hjo,hn,hl7,hdl,L,hmg⟩ hW
 have T1:=T.up h1
 intros
 refine b7 (d9 hjl (!2) (qT ?_))
 by_cases hleft:left=[]
 ·subst hleft
  rw [Rz (by simp)]
  intros
  have:=hmg [] (bW uC)
  rw [HR] at this
  exact hQ done hp1 hp.length this h1 hjo (GW _)
 rw [RA (by simp [hleft])]
 intros
 refine bi (ae h1 hi) (!2) ?_
 refine eD (f:=adr) (xs:=ps) (RwI hp1 λpre=>dz left (rws pre)) rfl ⟨GX _,[],rfl,rfl,λ_ h=>nomatch h⟩
  (λpre acc hp2 h=>ae (h1.trans h.ext) hi) ?_ ?_
 ·rintro pre p post acc hp2 W' E' e ⟨x1,hs,rfl,hhs,hrs⟩ hW' hE'
  have hpm:p∈ps:=b0 e
  obtain ⟨hl,hx⟩:=ok.2 p.2 (G1.mpr ⟨p,hpm,rfl⟩)
  refine dl ?_
  intros
  refine bi (ae (h1.trans x1) (hr p hpm)) (!2) ?_
  refine bK (f:=V.int) (xs:=p.2) (λx=>if x∈left then some (.int x) else none) rfl (ae (h1.trans x1) (hr p hpm)) (λz hz W E' hW=>?_) ?_
  ·intros
   refine vm (ae x1 hjl) (!2) ?_
   intros
   refine bN (λhc=>?_) λhc=>?_
   ·refine dl ?_
    intros
    rw [RA (by simpa using hc)] at hW;exact hW
   refine iU ?_
   rw [Rz (by simpa using hc)] at hW;exact hW
  have hfe:p.2.filterMap (λx=>if x∈left then some (V.int x) else none)=(p.2.filter λx=>decide (x∈left)).map V.int:=by
   clear hx hl
   induction p.2 with
   |nil=>rfl
   |cons a l ih=>by_cases ha:a∈left<;>simp [ha,ih]
  rw [hfe]
  have' hfl:(p.2.filter λx=>decide (x∈left)).length≤100:=G2 (H1 _ _) hl
  refine aR (!2) ?_
  refine b7 (tC ai (!2) ?_)
  intros
  refine hW' (some _) _ ⟨(x1.trans (GV _ _)).trans (GV _ _),hs++[((hp2++[O.list ((p.2.filter λx=>decide (x∈left)).map V.int)]).length,(p.2.filter λx=>decide (x∈left)).take 1)],by simp [adr],?_,λq hq=>?_⟩
  ·show It _ _=_
   rw [Hp];show rws hs++_=_
   rw [hhs];simp [dz,cut]
  rcases G8.mp hq with hq|hq
  ·exact af (af (hrs q hq))
  rw [GY.mp hq];rw [map_take];exact ai
 rintro acc hp2 ⟨x1,hs,rfl,hhs,hrs⟩
 have hsl:hs.length≤10:=by
  have:=congrArg HW hhs
  simp [dz,cut] at this;exact w68 hpl this
 have h12:=h1.trans x1
 refine aR (!2) ?_
 intros
 refine bi ai (!2) ?_
 have T2:=T.up h12
 refine eD (f:=adr) (xs:=hs) (λpre acc hp3=>hp2++[.list (hs.map adr)]<+:hp3∧acc=(pre.filterMap λq=>mi left (rws ps) q.2).map V.int) rfl ⟨GX _,rfl⟩
  (λpre acc hp3 h=>ae h.1 ai) ?_ ?_
 ·rintro pre q post acc hp3 W' E' e ⟨x3,rfl⟩ hW' hE'
  have hqm:q∈hs:=b0 e
  have hq3:=ae x3 (af (hrs q hqm))
  have' hqh:q.2∈dz left (rws ps):=hhs▸G1.mpr ⟨q,hqm,rfl⟩
  have' hql:q.2.length≤1:=by
   unfold dz at hqh
   obtain ⟨z,_,hz⟩:=G1.mp hqh
   rw [<-hz,JM];exact Ew
  intros
  refine d9 hq3 (!2) ?_
  induction hq:q.2 using Lc with
  |nil=>
   refine nI ?_
   intros
   refine bN (λhc=>nomatch hc) λ_=>iU (hW' none _ ⟨x3,?_⟩)
   exact jR (by rw [hq];rfl)
  |cons g t=>
   refine rl ?_
   have' hgl:g∈left:=by
    unfold dz cut at hqh
    rw [Hx] at hqh
    obtain ⟨z,_,hz⟩:=G1.mp hqh
    have:g∈(z.filter λx=>decide (x∈left)).take 1:=by
     have:q.2=(z.filter λx=>decide (x∈left)).take 1:=hz.symm
     rw [<-this,hq];exact .head _
    have:=IA this
    rw [HD] at this
    simpa using this.2
   rw [hq] at hq3
   have' T3:=(T2.up (GV _ _)).up x3
   obtain ⟨pg,hpg⟩:=cx ((T.key g).mpr (L.sub g hgl))
   have hpgm:=bU hpg
   obtain ⟨es,e1,t1,hset⟩:=T3.tab.2 _ hpgm
   have hjl3:=ae x3 (af (ae x1 hjl))
   intros
   refine ed hq3 (by rw [hq] at hql;simp at hql⊢;rw [hql];simp [lim]) ?_
   refine cR T3.tab.1 (v:=.obj pg.1) (by rw [eY,hpg];rfl) ?_
   refine rc hset λws hws=>?_
   refine bK (f:=V.int) (xs:=ws) (λx=>if x∈left then some (.int x) else none) rfl hset (λz hz W E' hW=>?_) ?_
   ·intros
    refine vm hjl3 (!2) ?_
    intros
    refine bN (λhc=>?_) λhc=>?_
    ·refine dl ?_
     intros
     rw [RA (by simpa using hc)] at hW;exact hW
    refine iU ?_
    rw [Rz (by simpa using hc)] at hW;exact hW
   have' hwl:(ws.filterMap λx=>if x∈left then some (V.int x) else none).length≤lim:=by
    have' h1:=Ir (λx=>if x∈left then some (V.int x) else none) ws
    have h2:=hws.length_eq
    have h3:=fc (T.small _ hpgm)
    simp only [lim];exact w46 h1 h2 h3
   refine aR hwl ?_
   refine d9 ai hwl ?_
   have' hfree:(ws.filterMap λx=>if x∈left then some (V.int x) else none)=[]↔cZ (cut left (rws ps)) g=true:=by
    rw [L.good_iff hgl,<-hae,JC]
    constructor
    ·intro h z hz hl
     have':=h z (hws.mem_iff.mpr ((T.mem _ hpgm z).mpr hz))
     rw [RA hl] at this;exact nSN this
    intro h z hz
    exact Rz (h z ((T.mem _ hpgm z).mp (hws.mem_iff.mp hz)))
   have' x4:hp2++[.list (hs.map adr)]<+:hp3++[O.list (ws.filterMap λx=>if x∈left then some (V.int x) else none)]:=x3.trans (GV _ _)
   by_cases hg:cZ (cut left (rws ps)) g=true
   ·rw [hfree.mpr hg]
    rw [hfree.mpr hg] at x4
    refine b7 (rl ?_)
    intros
    refine bN (λ_=>?_) λhc=>nomatch hc
    refine dl ?_
    intros
    refine b7 (ed (af hq3) (by rw [hq] at hql;simp at hql⊢;rw [hql];simp [lim]) ?_)
    intros
    refine hW' (some _) _ ⟨x4,?_⟩
    exact pL (by rw [hq];exact RA hg)
   have hne:(ws.filterMap λx=>if x∈left then some (V.int x) else none)≠[]:=λz=>hg (hfree.mp z)
   rw [show (!(!(ws.filterMap λx=>if x∈left then some (V.int x) else none).isEmpty))=false from by
    induction e:(ws.filterMap λx=>if x∈left then some (V.int x) else none) using Lc with
    |nil=>exact absurd e hne
    |cons a l=>rfl]
   refine b7 (nI ?_)
   intros
   refine bN (λhc=>nomatch hc) λ_=>iU (hW' none _ ⟨x4,?_⟩)
   exact jR (by rw [hq];exact Rz hg)
 rintro acc hp3 ⟨x3,rfl⟩
 have' hfr:(hs.filterMap λq=>mi left (rws ps) q.2)=eH left (rws ps):=by
  rw [<-rN,<-hhs];simp [IH];rfl
 rw [hfr]
 obtain ⟨g,hg1,hg2,hg3⟩:=L.some (hae▸ac) hleft
 obtain ⟨fr,hfr2⟩:∃fr,eH left (rws ps)=g::fr:=by
  have:=pK left (rws ps)
  rw [hg1] at this
  induction e:eH left (rws ps) using Lc with
  |nil=>rw [e] at this;exact nNS this
  |cons a l=>rw [e] at this;(replace this:=ay this;subst this);exact ⟨l,rfl⟩
 have' hfl:(eH left (rws ps)).length≤10:=by
  rw [<-hfr];exact G2 (Ir _ _) hsl
 rw [hfr2] at hfl⊢
 have' hfl':fr.length≤9:=by simpa using hfl
 have' x13:hp1<+:hp3:=x1.trans ((GV _ _).trans x3)
 have hjl3:=ae x13 hjl
 have hjo3:=ae x13 hjo
 refine aR (!2) ?_
 intros
 refine ct (af hjo3) (!3) ?_
 intros
 refine ed ai (!2) ?_
 refine ck (af hjo3) (!2) ?_
 intros
 have' hjl4:((hp3++[O.list ((g::fr).map V.int)]).set hp.length (.list ((node::done).map V.int++[V.int g])))[jl]?=some (.list (left.map V.int)):=aO (Ne.symm hne) (af hjl3)
 have hfr4:((hp3++[O.list ((g::fr).map V.int)]).set hp.length (.list ((node::done).map V.int++[V.int g])))[hp3.length]?=some (.list ((g::fr).map V.int)):=aO (Hb (G5 (aE hjo3) (GW _))) ai
 refine bi hjl4 (!2) ?_
 refine bK (f:=V.int) (xs:=left) (λx=>if x=g then none else some (.int x)) rfl hjl4 (λz hz W E' hW=>?_) ?_
 ·intros
  refine ed hfr4 (!2) ?_
  refine wi ?_
  intros
  refine bN (λhc=>?_) λhc=>?_
  ·refine dl ?_
   intros
   rw [Rz (by simpa using hc)] at hW;exact hW
  refine iU ?_
  rw [RA (by simpa using hc)] at hW;exact hW
 have hfe:=uJ left g
 rw [hfe]
 have' hlt:(left.filter λx=>decide (x≠g)).length<left.length:=by rw [IN];exact ⟨g,hg2,by simp⟩
 obtain ⟨L',hcut⟩:=L.next hg3
 refine aR (lm (BD hdl hlt)) ?_
 intros
 refine hW (left.filter λx=>decide (x≠g)).length _ _ (w31 hn hlt) ⟨hY (cF (hY (h1.trans x13) _) (GW _)) _,!1,!1,!1,_,left.filter λx=>decide (x≠g),done++[g],!1,?_,ai,?_,rfl,by exact BE hdl hlt,by rw [G7,HO];exact BC hdl hlt,L',λl hl=>?_⟩
 ·have:=aE hjo3;simp;exact w65 this
 ·refine af ?_
  rw [bf (af hjo3)];simp
 rw [hcut] at hl
 have:=hmg (g::l) (by rw [be hg1,hl];rfl)
 simpa using this
theorem pN (ns:List Int):er ns=ao ns:=rfl
theorem mj (hn:∀r∈rows,r.Nodup) (h:∃x,dy rows x x):merge rows=none:=by
 refine l0 (P:=λx=>dy rows x x) rows hn (λy hy=>?_) h
 rw [<-rM]
 cases hy with
 |single h=>exact ⟨y,.single h,h⟩
 |tail h1 h2=>exact ⟨_,(Relation.TransGen.single h2).trans h1,h2⟩
theorem rO (g:Int->Bool) (l:List Int):decide ((l.filterMap λb=>if g b=true then none else some b)=[])=l.all g:=by
 induction l with
 |nil=>rfl
 |cons b l ih=>
  rw [IF,List.all_cons]
  by_cases hb:g b=true
  ·rw [RA hb,hb,Bool.true_and];exact ih
  rw [Rz hb]
  simp [hb]
inductive QD (hd:Bool) (vs:List V) (hp:List O) (Q:V->List O->Prop) (E:Nat->List O->Prop):Prop
 |mk (z1:hd=true) (w) (ps:List (Nat×List Int)) (z2:vs=[.obj w]) (z3:hp[w]?=some (.list (ps.map adr))) (z4:Ql hp ps) (z5:cf (rws ps)) (z6:∀hp' j o s qs,hp<+:hp'->hp'[j]?=some (.tup [.obj o,.obj s])->hp'[o]?=some (.list (qs.map adr))->Ql hp' qs->rws qs=(a0 (rws ps) ps.length).1->hp'[s]?=some (.list ((a0 (rws ps) ps.length).2.map .bool))->Q (.obj j) hp'):QD hd vs hp Q E
structure Qw (hp0 hp:List O) (world:List (List Int)) (k:Nat) (qs:List (Nat×List Int)):Prop where
 ext:hp0<+:hp
 o:hp[hp0.length]?=some (.list (qs.map adr))
 rows:Ql hp qs
 eq:rws qs=(a0 world k).1
 s:hp[hp0.length+1]?=some (.list ((a0 world k).2.map .bool))
 ne:∀q∈qs,q.1≠hp0.length∧q.1≠hp0.length+1
theorem Qw.up (x:hp<+:hp') (h:Qw hp0 hp world k qs):Qw hp0 hp' world k qs:=
 ⟨h.ext.trans x,ae x h.o,h.rows.up x,h.eq,ae x h.s,h.ne⟩
theorem Qw.get (h:Qw hp0 hp world k qs) (hb:b<k):∃q,P8 (qs[b]?=some q) (q∈qs) (((a0 world k).1[b]?).getD []=q.2):=by
 have hl:qs.length=k:=by rw [<-(bS world k).1,<-h.eq,G6]
 have':b<qs.length:=BS hb hl
 refine ⟨qs[b],G3 this,JL this,?_⟩
 rw [<-h.eq,Hg,G3 this];rfl
theorem Qw.len (h:Qw hp0 hp world k qs):qs.length=k:=by
 have:=congrArg HW h.eq
 rw [G6,(bS world k).1] at this
 exact this
theorem Qw.next (h:Qw hp0 hp world k qs) (ha:hp[a]?=some (.list (l.map .int))) (h0:a≠hp0.length) (h1:a≠hp0.length+1)
  (hw:world[k]?=some r) (e:cJ world k r (a0 world k)=((a0 world k).1++[l],(a0 world k).2++[b])) (hp1:List O) (x:hp.set hp0.length (.list (qs.map adr++[.obj a]))<+:hp1):
  Qw hp0 (hp1.set (hp0.length+1) (.list ((a0 world k).2.map .bool++[.bool b]))) world (k+1) (qs++[(a,l)]):=by
 have' e:a0 world (k+1)=((a0 world k).1++[l],(a0 world k).2++[b]):=by rw [<-e];show cJ world k ((world[k]?).getD []) _=_;rw [hw];rfl
 have' g:∀{i:Nat} {o:O},hp[i]?=some o->i≠hp0.length->i≠hp0.length+1->(hp1.set (hp0.length+1) (.list ((a0 world k).2.map .bool++[.bool b])))[i]?=some o:=λh n0 n1=>
  aO (Ne.symm n1) (ae x (aO (Ne.symm n0) h))
 refine ⟨cF ((cF h.ext (GW _)).trans x) (w2),?_,λq hq=>?_,?_,?_,λq hq=>?_⟩
 ·refine aO (w76) (ae x ?_)
  rw [bf h.o];simp [adr]
 ·rcases G8.mp hq with hq|hq
  ·exact g (h.rows q hq) (h.ne q hq).1 (h.ne q hq).2
  rw [GY.mp hq];exact g ha h0 h1
 ·rw [e];show It _ _=_;rw [Hp];show rws qs++_=_;rw [h.eq];rfl
 ·rw [bf (ae x (aO (w15) h.s)),e];simp
 rcases G8.mp hq with hq|hq
 ·exact h.ne q hq
 rw [GY.mp hq];exact ⟨h0,h1⟩
inductive OrI (hp:List O) (w:Nat) (ps:List (Nat×List Int)) (pre:List Nat) (hp':List O) (m:bY):Prop
 |mk (z1:m "world"=some (.obj w)) (z2:m "orders"=some (.obj hp.length)) (z3:m "stands"=some (.obj (hp.length+1))) (qs) (z4:Qw hp hp' (rws ps) pre.length qs):OrI hp w ps pre hp' m
theorem pO (f1:fn 373 []=some Rj) (f2:fn 378 []=some QP) (f3:fn 385 []=some (Qt 7)) (f4:fn 392 []=some Q0) (f5:fn 397 []=some QB)
  (h:QD hd vs hp Q E):aq (gam fn) 30 (aF (KH P) 402) (an (KH P) 402) (aD ["world"]) hd vs hp Q E:=by
 obtain ⟨rfl,w,ps,rfl,hi,hr,W,hQ⟩:=h
 have' hpl:ps.length≤7:=by simpa using W.1
 refine aJ (un fn true) rfl (by decide+kernel) ?_
 dsimp only [HT,Hi]
 intros
 refine aR (!2) ?_
 intros
 refine aR (!2) ?_
 intros
 refine gG (af (af hi)) (!2) ?_
 rw [G6]
 refine eW (!2) ?_
 refine bA (f:=λ(j:Nat)=>V.int j) (xs:=Hf ps.length) rfl (OrI hp w ps)
  ⟨!1,!1,by rw [show hp.length+1=(hp++[O.list []]).length by simp];walk_at "v",[],(GV _ _).trans (GV _ _),af ai,(λ_ h=>nomatch h),rfl,(by simp;rfl),(λ_ h=>nomatch h)⟩ (λ_ _ _ _=>trivial) ?_ ?_
 ·rintro pre k post hp1 m1 V1 e ⟨hmw,hmo,hms,qs,H⟩ hV
  have' hk:k=pre.length:=by
   have:=congrArg (·[pre.length]?) e
   have hlt:pre.length<ps.length:=by have:=congrArg HW e;simp at this;exact w42 this
   simp [hlt] at this;exact this.symm
  have' hlt:k<ps.length:=by rw [<-H9,e];simp
  rw [<-hk] at H
  have hpk:ps[k]?=some ps[k]:=G3 hlt
  generalize ps[k]=p at hpk
  have hpm:p∈ps:=HV hpk
  have' hwk:(rws ps)[k]?=some p.2:=by rw [Hg,hpk];rfl
  obtain ⟨hb3,hbb⟩:=W.2 k _ hwk
  intros
  refine bQ (ae H.ext hi) (!2) (v:=adr p) (by rw [Hg,hpk];rfl) ?_
  refine cY f1 ⟨rfl,p.1,p.2,rfl,ae H.ext (hr p hpm),by exact w79 hb3,λhp2 jr x2 hjr hle=>?_⟩
  rw [pN] at hjr
  have H2:=H.up x2
  have hls:=aE H.s
  have' hfb:∀b∈ao p.2,0≤b∧b<k:=λb hb=>hbb b (aN.mp hb)
  have hfl:(ao p.2).length≤3:=G2 (l9 _) hb3
  intros
  refine bi hjr (!2) ?_
  have' hget:∀b∈ao p.2,∃q,P8 (qs[b.toNat]?=some q) (q∈qs) (((a0 (rws ps) k).1[b.toNat]?).getD []=q.2):=λb hb=>H.get (by have:=hfb b hb;exact ED this)
  refine bK (f:=V.int) (xs:=ao p.2) (λb=>(qs[b.toNat]?).map adr) rfl hjr (λb hb Wq E' hW=>?_) ?_
  ·obtain ⟨q,hq1,hq2,_⟩:=hget b hb
   obtain ⟨b',rfl⟩:=Ii (hfb b hb).1
   refine dl ?_
   intros
   have' hql:qs.length≤7:=by rw [H.len];exact Dn hpl hlt
   refine b7 (bQ H2.o (!2) (v:=adr q) (by rw [Hg];rw [HB] at hq1;rw [hq1];rfl) ?_)
   intros
   rw [hq1] at hW;exact hW
  obtain ⟨rs,hrs1,hrs2,hrs3⟩:∃rs:List (Nat×List Int),((ao p.2).filterMap λb=>(qs[b.toNat]?).map adr)=rs.map adr∧rws rs=(ao p.2).map (λb=>((a0 (rws ps) k).1[b.toNat]?).getD [])∧∀q∈rs,q∈qs:=by
   revert hget
   generalize ao p.2=l
   intro hget
   clear hfb hfl
   induction l with
   |nil=>exact ⟨[],rfl,rfl,λ_ h=>nomatch h⟩
   |cons b l ih=>
    obtain ⟨rs,i1,i2,i3⟩:=ih λb hb=>hget b (.tail _ hb)
    obtain ⟨q,hq1,hq2,hq3⟩:=hget b (.head _)
    refine ⟨q::rs,?_,?_,λz hz=>?_⟩
    ·rw [Hv (b:=adr q) (by rw [hq1];rfl),i1];rfl
    ·show q.2::rws rs=_;rw [i2,Hc,hq3]
    rcases G0.mp hz with rfl|hz
    ·exact hq2
    exact i3 z hz
  rw [hrs1]
  have hrl:rs.length≤3:=by
   have:=congrArg HW hrs2
   rw [G6,G6] at this;exact w21 hfl this
  refine aR (!2) ?_
  intros
  refine aR (!2) ?_
  refine ou (af ai) ai (!2) ?_
  intros
  generalize hR:rs++[(jr,ao p.2)]=rows
  have hrows:rs.map adr++[.obj jr]=rows.map adr:=by rw [<-hR];simp [adr]
  rw [hrows]
  have' hrw:rws rows=cS (a0 (rws ps) k).1 p.2:=by rw [<-hR];show It _ _=_;rw [Hp];show rws rs++_=_;rw [hrs2];rfl
  generalize hH3:hp2++[O.list (rs.map adr)]++[O.list [V.obj jr]]++[O.list (rows.map adr)]=hp3
  have' x23:hp2<+:hp3:=by rw [<-hH3];simp only [IB];exact GV _ _
  have' h3r:hp3[(hp2++[O.list (rs.map adr)]++[O.list [V.obj jr]]).length]?=some (.list (rows.map adr)):=by rw [<-hH3];exact ai
  generalize (hp2++[O.list (rs.map adr)]++[O.list [V.obj jr]]).length=ar at h3r
  have' hRL:Ql hp3 rows:=by
   intro q hq
   rw [<-hR] at hq
   rcases G8.mp hq with hq|hq
   ·exact ae x23 (H2.rows q (hrs3 q hq))
   rw [GY.mp hq];exact ae x23 hjr
  have' hrow:∀row∈rws rows,row.Nodup∧∀x∈row,0≤x∧x<k:=λrow hrow=>by
   rw [hrw] at hrow
   rcases gS hrow with ⟨b,hb,rfl⟩|rfl
   ·have hb':=hbb b hb
    induction e:(a0 (rws ps) k).1[b.toNat]? with
    |none=>exact ⟨by simp,λx hx=>by simp at hx⟩
    |some r=>have:=yN W k _ _ e;exact ⟨this.1,λx hx=>by have:=this.2 x hx;exact w86 hb' this⟩
   exact ⟨ft _,hfb⟩
  have' hok:kR (rws rows):=⟨by rw [G6,<-hR];simp;exact Ee hrl,λrow hr=>⟨G2 (eF (hrow row hr).1 λx hx=>by have:=(hrow row hr).2 x hx;exact w54 hpl hlt this) !3,λx hx=>by have:=(hrow row hr).2 x hx;exact w54 hpl hlt this⟩⟩
  have H3:=H2.up x23
  refine cY f2 ⟨rfl,ar,rows,rfl,h3r,hRL,hok,λhp4 j4 ep q4 C4 hmem hq7=>?_⟩
  have' T4:Tab hp4 j4 (rws rows) ep q4:=⟨C4.tab,C4.nd,C4.key,C4.small,hmem,hq7⟩
  have H4:=H3.up C4.ext
  intros
  refine nG T4.tab.1 (!2) ?_
  refine bK (f:=V.int) (xs:=q4.map (·.1)) (λx=>match aj q4 x with|some p=>if x∈p.2 then some (.int x) else none|none=>none) (by simp [qv]) ⟨q4.map qv,T4.tab.1,rfl⟩ (λx hx Wq E' hW=>?_) ?_
  ·obtain ⟨pp,hpp⟩:=cx hx
   obtain ⟨es,e1,t1,hset⟩:=T4.tab.2 _ (bU hpp)
   rw [hpp] at hW
   intros
   refine cR T4.tab.1 (v:=.obj pp.1) (by rw [eY,hpp];rfl) ?_
   refine zL hset ?_
   intros
   refine bN (λhc=>?_) λhc=>?_
   ·refine dl ?_
    intros
    dsimp only at hW
    rw [RA (by simpa using hc)] at hW;exact hW
   refine iU ?_
   dsimp only at hW
   rw [Rz (by simpa using hc)] at hW;exact hW
  generalize hcy:(q4.map (·.1)).filterMap (λx=>match aj q4 x with|some p=>if x∈p.2 then some (V.int x) else none|none=>none)=cyc
  have' hcl:cyc.length≤lim:=by
   rw [<-hcy];refine G2 (Ir _ _) ?_;simp [lim];exact w4 hq7
  have' hround:cyc≠[]↔∃x,dy (rws rows) x x:=by
   rw [<-hcy]
   constructor
   ·intro hne
    obtain ⟨v,hv⟩:=List.exists_mem_of_ne_nil _ hne
    obtain ⟨x,hx,_⟩:=HM.mp hv;clear hv;rename_i hv
    obtain ⟨pp,hpp⟩:=cx hx
    rw [hpp] at hv
    dsimp only at hv
    split at hv
    ·rename_i hm;exact ⟨x,(hmem _ (bU hpp) x).mp hm⟩
    exact nNS hv
   rintro ⟨x,hx⟩ hn
   have hxk:=(C4.key x).mpr (jQ hx)
   obtain ⟨pp,hpp⟩:=cx hxk
   rw [JC] at hn
   have:=hn x hxk
   rw [hpp] at this
   dsimp only at this
   rw [RA ((hmem _ (bU hpp) x).mpr hx)] at this
   exact nSN this
  refine aR hcl ?_
  refine d9 ai hcl ?_
  have' H5:=H4.up (GV hp4 [O.list cyc])
  have' T5:=T4.up (GV hp4 [O.list cyc])
  have' x35:hp3<+:hp4++[O.list cyc]:=C4.ext.trans (GV _ _)
  generalize hp4++[O.list cyc]=hp5 at H5 T5 x35
  refine bN (λhc=>?_) λhc=>?_
  ·have hcn:cyc≠[]:=by rintro rfl;exact nFT hc
   have' hmg:merge (cS (a0 (rws ps) k).1 p.2)=none:=by rw [<-hrw];exact mj (λr hr=>(hrow r hr).1) (hround.mp hcn)
   intros
   refine ct H5.o (!3) ?_
   intros
   refine cY f3 ⟨rfl,w,ps,k,p.2,rfl,ae H5.ext hi,hr.up H5.ext,W,by exact Dl hpl hlt,hwk,λhp6 j6 x6 g6 l6=>?_⟩
   have H6:=H5.up x6
   refine cY f4 ⟨rfl,j6,_,rfl,g6,G2 (iV W 7 k) !3,λhp7 j7 x7 g7 l7=>?_⟩
   have H7:=H6.up x7
   have h7:=aE H6.s
   refine ck H7.o (by rw [G6,H7.len];simp only [lim];exact w13 hpl hlt) ?_
   intros
   have x8:=GX (hp7.set hp.length (O.list (qs.map adr++[V.obj j7])))
   refine ct (aO (w15) H7.s) (!3) ?_
   intros
   refine ck (aO (w15) H7.s) (by rw [G6,(bS _ _).2];simp only [lim];exact w13 hpl hlt) ?_
   intros
   have hl6:=aE H5.s
   refine hV _ _ ⟨!1,!1,!1,qs++[(j7,aP (bp (rws ps) 7 k))],?_⟩
   rw [G7,HO,<-hk]
   refine H7.next g7 ?_ ?_ hwk (by unfold cJ;rw [hmg]) _ x8
   ·exact w48 l7 h7
   exact w49 l7 h7
  have hcn:cyc=[]:=by induction cyc using Lc with|nil=>rfl|cons a l=>exact nTF hc
  have hac:∀x,¬dy (rws rows) x x:=λx hx=>hround.mpr ⟨x,hx⟩ hcn
  intros
  refine ct H5.o (!3) ?_
  intros
  refine cY f5 ⟨rfl,(k:Int),ar,rows,j4,ep,q4,rfl,ae x35 h3r,hRL.up x35,hok,λr hr=>(hrow r hr).1,T5,hac,λl hp6 j6 hmg x6 g6 l6=>?_⟩
  rw [hrw] at hmg
  have H6:=H5.up x6
  have hl6:=aE H5.s
  refine ck H6.o (by rw [G6,H6.len];simp only [lim];exact w13 hpl hlt) ?_
  intros
  have' hs7:=aO (i:=hp.length) (o:=O.list (qs.map adr++[V.obj j6])) (w15) H6.s
  refine ct hs7 (!3) ?_
  intros
  have' hj7:=aO (i:=hp.length) (o:=O.list (qs.map adr++[V.obj j6])) (by have:=aE hjr;have:=bH H.ext;exact Cp hle hls) (ae x6 (ae x35 (ae x23 hjr)))
  refine bi hj7 (!2) ?_
  refine bK (f:=V.int) (xs:=ao p.2) (λb=>if ((a0 (rws ps) k).2[b.toNat]?).getD false=true then none else some (.int b)) rfl hj7 (λb hb Wq E' hW=>?_) ?_
  ·obtain ⟨b',rfl⟩:=Ii (hfb b hb).1
   have hbk:b'<k:=by have:=(hfb _ hb).2;exact CC this
   obtain ⟨bv,hbv⟩:∃bv,(a0 (rws ps) k).2[b']?=some bv:=⟨_,G3 (by rw [(bS _ _).2];exact hbk)⟩
   rw [HB,hbv] at hW
   intros
   refine bQ hs7 (by rw [G6,(bS _ _).2];simp only [lim];exact Dm hpl hlt) (v:=.bool bv) (by rw [Hg,hbv];rfl) ?_
   intros
   induction bv with
   |true=>
    refine bN (λhc=>nomatch hc) λ_=>iU ?_
    exact hW
   |false=>
    refine bN (λ_=>dl ?_) λhc=>nomatch hc
    intros
    exact hW
  generalize hnb:(ao p.2).filterMap (λb=>if ((a0 (rws ps) k).2[b.toNat]?).getD false=true then none else some b)=nb
  have hnb2:(ao p.2).filterMap (λb=>if ((a0 (rws ps) k).2[b.toNat]?).getD false=true then none else some (V.int b))=nb.map V.int:=by
   rw [<-hnb,List.map_filterMap]
   congr 1
   funext b
   split<;>rfl
  rw [hnb2]
  have' hnl:nb.length≤3:=by rw [<-hnb];exact G2 (Ir _ _) hfl
  refine aR (!2) ?_
  refine aR (!2) ?_
  refine we (cP (ns:=nb) 2 (af ai)) (cP (ns:=[]) 2 ai) ?_
  rw [f0]
  have hs9:=af (l:=[O.list []]) (af (l:=[O.list (nb.map V.int)]) hs7)
  refine ck hs9 (by rw [G6,(bS _ _).2];simp only [lim];exact w13 hpl hlt) ?_
  intros
  have hall:decide (nb=[])=(ao p.2).all λb=>((a0 (rws ps) k).2[b.toNat]?).getD false:=by
   rw [<-hnb];exact rO (λb=>((a0 (rws ps) k).2[b.toNat]?).getD false) _
  refine hV _ _ ⟨!1,!1,!1,qs++[(j6,(k:Int)::l)],?_⟩
  rw [G7,HO,<-hk,hall]
  refine H6.next g6 (w48 l6 hl6) (w49 l6 hl6) hwk (by unfold cJ;rw [hmg]) _ ?_
  exact (GV _ _).trans (GV _ _)
 rintro hp1 m1 ⟨hmw,hmo,hms,qs,H⟩
 rw [HA] at H
 intros
 refine jD (!2) ?_
 intros
 exact hQ _ _ _ _ qs (H.ext.trans (GV _ _)) ai (af H.o) (H.rows.up (GV _ _)) H.eq (af H.s)
abbrev PS:=List (Nat×List Nat)
abbrev adn (p:Nat×List Nat):V:=.obj p.1
abbrev rwn (ps:PS):List (List Nat):=ps.map (·.2)
def so (sa:Nat->Nat) (k:Nat):V:=.obj (sa k)
def Qe (hp:List O) (sa:Nat->Nat) (ps:PS):Prop:=∀p∈ps,hp[p.1]?=some (.list (p.2.map (so sa)))
theorem Qe.up (x:hp<+:hp') (h:Qe hp sa ps):Qe hp' sa ps:=λp hp=>ae x (h p hp)
def Q5 (hp:List O) (sa:Nat->Nat) (k:Nat) (bs:List Nat):Prop:=
 Ex2 λfs t=>QK (hp[sa k]?=some (.inst 336 fs)) (aj fs "key"=some (.int k)) (aj fs "bases"=some (.obj t)) (hp[t]?=some (.tup (bs.map (so sa))))
structure PL (hp:List O) (sa:Nat->Nat) (N:Nat) (bs:Nat->List Nat):Prop where
 at_:∀k<N,Q5 hp sa k (bs k)
 inj:∀i<N,∀j<N,sa i=sa j->i=j
 few:∀k<N,(bs k).length≤3∧∀b∈bs k,b<N
 N7:N≤7
theorem Q5.up (x:hp<+:hp') (h:Q5 hp sa k bs):Q5 hp' sa k bs:=
 let ⟨fs,t,h1,h2,h3,h4⟩:=h;⟨fs,t,ae x h1,h2,h3,ae x h4⟩
theorem PL.up (x:hp<+:hp') (h:PL hp sa N bs):PL hp' sa N bs:={h with at_:=λk hk=>(h.at_ k hk).up x}
theorem PL.isI (h:PL hp sa N bs) (hk:k<N):dW hp (.obj (sa k))=true:=by
 obtain ⟨fs,t,h1,_⟩:=h.at_ k hk
 unfold dW;simp [h1]
theorem PL.is (h:PL hp sa N bs) (hi:i<N) (hj:j<N):decide (sa i=sa j)=decide (i=j):=by
 by_cases e:i=j
 ·simp [e]
 have:sa i≠sa j:=λz=>e (h.inj i hi j hj z)
 simp [e,this]
def fJ (N:Nat) (ps:PS):Prop:=ps.length≤10∧∀p∈ps,p.2.length≤1000∧∀x∈p.2,x<N
inductive Re (hd:Bool) (vs:List V) (hp:List O) (Q:V->List O->Prop) (E:Nat->List O->Prop):Prop
 |mk (z1:hd=true) (sa:Nat->Nat) (N) (bs:Nat->List Nat) (b) (rt) (ps:PS) (z2:vs=[so sa b,.obj rt]) (z3:PL hp sa N bs) (z4:b<N) (z5:hp[rt]?=some (.list (ps.map adn))) (z6:Qe hp sa ps) (z7:fJ N ps) (z8:Q (.bool (cZ (rwn ps) b)) hp):Re hd vs hp Q E
theorem yQ (h:Re hd vs hp Q E):
  aq (gam fn) 30 (aF (KH P) 155) (an (KH P) 155) (aD ["base","base_tree_remaining"]) hd vs hp Q E:=by
 obtain ⟨rfl,sa,N,bs,b,rt,ps,rfl,S,hb,hrt,hR,sm,hQ⟩:=h
 have hpl:=sm.1
 refine aJ (tL fn true) rfl (by decide+kernel) ?_
 dsimp only [HT,Hi,so]
 intros
 refine bi hrt (!2) ?_
 refine bA (f:=adn) (xs:=ps) rfl (λpre hp' m=>P8 (hp'=hp) (m "base"=some (.obj (sa b))) (∀p∈pre,p.2.head?=some b∨b∉p.2)) ⟨rfl,!1,(λ_ h=>nomatch h)⟩ ?_ ?_ ?_
 ·rintro pre hp' m ⟨rfl,_⟩;exact hrt
 ·rintro pre p post hp' m W e ⟨rfl,hm,hpre⟩ hW
  have hpm:p∈ps:=b0 e
  have hp1:=hR p hpm
  obtain ⟨hl,hx⟩:=sm.2 p hpm
  have' go:∀c:Bool,(c=true->p.2.head?=some b∨b∉p.2)->(c=false->p.2≠[]∧p.2.head?≠some b)->
    ∀K1 K2,pA (do pure (.ret (.bool true))) (mW Q) (iz E) K1->pA (rA (gam fn) true) (gL W K1) (iz E) K2->
    (if c=true then (do pure .cont) else (do pure .next):PT Fl) ⟨hp',upd m "bases" (adn p)⟩ K2 (iz E):=by
   intro c hc1 hc2 K1 K2 hK1 hK2
   refine bN (λhc=>?_) λhc=>?_
   ·intros
    refine hW _ _ ⟨rfl,!1,λq hq=>?_⟩
    rcases G8.mp hq with hq|hq
    ·exact hpre q hq
    rw [GY.mp hq];exact hc1 hc
   obtain ⟨hn,hh⟩:=hc2 hc
   intros
   refine bi hp1 (!2) ?_
   refine bA (f:=so sa) (xs:=p.2) rfl (λpre2 hp2 m2=>P8 (hp2=hp') (m2 "base"=some (.obj (sa b))) (b∉pre2)) ⟨rfl,!1,by simp⟩ ?_ ?_ ?_
   ·rintro pre2 hp2 m2 ⟨rfl,_⟩;exact hp1
   ·rintro pre2 x post2 hp2 m2 W2 e2 ⟨rfl,hm2,hb2⟩ hW2
    have hxm:x∈p.2:=b0 e2
    intros
    refine wd (S.isI (hx x hxm)) (S.isI hb) ?_
    rw [S.is (hx x hxm) hb]
    intros
    refine bN (λhc=>?_) λhc=>?_
    ·have hxb:x=b:=by simpa using hc
     intros
     have:cZ (rwn ps) b=false:=by
      rw [ID]
      intro hg
      rcases good_iff.mp hg p.2 (G1.mpr ⟨p,hpm,rfl⟩) with h|h
      ·exact hh h
      exact h (hxb▸hxm)
     rw [this] at hQ
     exact hQ
    intros
    refine hW2 _ _ ⟨rfl,!1,?_⟩
    rw [G8,not_or]
    refine ⟨hb2,λh=>?_⟩
    rw [GY] at h
    simp [h] at hc
   rintro hp2 m2 ⟨rfl,hm2,hb2⟩
   intros
   refine hW _ _ ⟨rfl,hm2,λq hq=>?_⟩
   rcases G8.mp hq with hq|hq
   ·exact hpre q hq
   rw [GY.mp hq];exact .inr hb2
  intros
  refine d9 hp1 (!2) ?_
  induction hq:p.2 using Lc with
  |nil=>
   refine vp ?_
   exact go true (λ_=>.inr (by rw [hq];simp)) (λh=>nomatch h) _ _ (by assumption) (by assumption)
  |cons g t=>
   have hgN:g<N:=hx g (by rw [hq];exact .head _)
   refine vq ?_
   intros
   refine ed (by rw [hq] at hp1;exact hp1) (by rw [hq] at hl;simp at hl;simp [lim];exact w84 hl) ?_
   intros
   refine wd (S.isI hgN) (S.isI hb) ?_
   rw [S.is hgN hb]
   intros
   by_cases hgb:g=b
   ·rw [show decide (g=b)=true by simpa using hgb]
    refine vp ?_
    exact go true (λ_=>.inl (by rw [hq,hgb];rfl)) (λh=>nomatch h) _ _ (by assumption) (by assumption)
   rw [show decide (g=b)=false by simpa using hgb]
   refine vq ?_
   intros
   exact go false (λh=>nomatch h) (λ_=>⟨by rw [hq];simp,by rw [hq];simpa using hgb⟩) _ _ (by assumption) (by assumption)
 rintro hp' m ⟨rfl,hm,hall⟩
 intros
 have:cZ (rwn ps) b=true:=good_iff.mpr λr hr=>let ⟨p,hp,e⟩:=G1.mp hr;e▸hall p hp
 rw [this] at hQ
 exact hQ
theorem jS:∀(hs:PS) (R:List V->AS->Prop),Qe hp sa hs->(∀p∈hs,p.2.length≤1000)->R ((hs.filter λp=>!p.2.isEmpty).map adn) ⟨hp,m⟩->jz (hs.map adn) ⟨hp,m⟩ R E
 |[],R,_,_,h=>h
 |p::hs,R,hr,hl,h=>by
  show (do let b <-ag (adn p);let l <-jz (hs.map adn);pure (if b=true then adn p::l else l):PT (List V)) ⟨hp,m⟩ R E
  have hpl:=hl p (.head _)
  refine d9 (hr p (.head _)) (!2) ?_
  refine jS hs _ (λq hq=>hr q (.tail _ hq)) (λq hq=>hl q (.tail _ hq)) ?_
  rw [Hw] at h
  show R _ _
  induction hp2:p.2 using Lc with
  |nil=>rw [hp2] at h;exact h
  |cons a l=>rw [hp2] at h;exact h
theorem rP (h:hp[i]?=some (.list (hs.map adn))) (hr:Qe hp sa hs) (h1:hs.length≤1000) (h2:∀p∈hs,p.2.length≤1000)
  (h':k (.obj hp.length) ⟨hp++[.list ((hs.filter λp=>!p.2.isEmpty).map adn)],m⟩ Q E):(dY true (.obj i)>>=k) ⟨hp,m⟩ Q E:=by
 show (dY true (.obj i)) _ _ _
 unfold dY
 refine ⟨rfl,au h ⟨by simp [lim];exact w7 h1,?_⟩⟩
 refine jS hs _ hr h2 ?_
 refine ⟨?_,h'⟩
 have:=H1 (λp:Nat×List Nat=>!p.2.isEmpty) hs
 simp only [G6,lim];exact C2 h1 this
def dS:Option Nat->Nat->Bool
 |none,_=>true
 |some b,x=>decide (x≠b)
def yR (sa:Nat->Nat):Option Nat->V
 |none=>.none
 |some b=>so sa b
def eI (ig:Option Nat) (rows:List (List Nat)):List (List Nat):=(rows.map λr=>r.filter (dS ig)).filter λr=>!r.isEmpty
inductive Qk (hd:Bool) (vs:List V) (hp:List O) (Q:V->List O->Prop) (E:Nat->List O->Prop):Prop
 |mk (z1:hd=true) (sa:Nat->Nat) (N) (bs:Nat->List Nat) (ig) (rt) (ps:PS) (z2:vs=[.obj rt,yR sa ig]) (z3:PL hp sa N bs) (z4:(∀b,ig=some b->b<N)) (z5:hp[rt]?=some (.list (ps.map adn))) (z6:Qe hp sa ps) (z7:fJ N ps) (z8:∀hp' j hs,hp<+:hp'->hp'[j]?=some (.list (hs.map adn))->Qe hp' sa hs->rwn hs=eI ig (rwn ps)->fJ N hs->(∀p∈hs,hp.length≤p.1)->hp.length≤j->Q (.obj j) hp'):Qk hd vs hp Q E
theorem ml (h:Qk hd vs hp Q E):
  aq (gam fn) 30 (aF (KH P) 163) (an (KH P) 163) (aD ["base_tree","ignoring"]) hd vs hp Q E:=by
 obtain ⟨rfl,sa,N,bs,ig,rt,ps,rfl,S,hig,hrt,hR,sm,hQ⟩:=h
 have hpl:=sm.1
 refine aJ (tM fn true) rfl (by decide+kernel) ?_
 dsimp only [HT,Hi]
 intros
 refine bi hrt (!2) ?_
 refine eD (f:=adn) (xs:=ps) (λpre acc hp'=>hp<+:hp'∧∃hs:PS,QK (acc=hs.map adn) (rwn hs=(rwn pre).map (λr=>r.filter (dS ig))) (Qe hp' sa hs) (∀p∈hs,hp.length≤p.1)) rfl ⟨GX _,[],rfl,rfl,(λ_ h=>nomatch h),(λ_ h=>nomatch h)⟩ (λpre acc hp' h=>ae h.1 hrt) ?_ ?_
 ·rintro pre p post acc hp1 W E' e ⟨x1,hs,rfl,hhs,hrs,hnw⟩ hW hE
  have hpm:p∈ps:=b0 e
  obtain ⟨hl,hx⟩:=sm.2 p hpm
  have hpp:=ae x1 (hR p hpm)
  refine dl ?_
  intros
  refine bi hpp (!2) ?_
  refine bK (f:=so sa) (xs:=p.2) (λx=>if dS ig x=true then some (so sa x) else none) rfl hpp (λx hxm Wq E' hW=>?_) ?_
  ·intros
   induction ig with
   |none=>
    refine lS ?_
    intros
    refine bN (λ_=>dl ?_) (λh=>nomatch h)
    intros
    exact hW
   |some b=>
    refine tq ((S.up x1).isI (hx x hxm)) ((S.up x1).isI (hig b rfl)) ?_
    rw [S.is (hx x hxm) (hig b rfl)]
    have hk:dS (some b) x=!decide (x=b):=by simp [dS]
    rw [hk] at hW
    intros
    refine bN (λhc=>dl ?_) λhc=>iU ?_
    ·intros
     rw [RA hc] at hW;exact hW
    rw [Rz (by rw [hc];decide)] at hW;exact hW
  have hfe:p.2.filterMap (λx=>if dS ig x=true then some (so sa x) else none)=(p.2.filter (dS ig)).map (so sa):=by
   generalize p.2=l
   induction l with
   |nil=>rfl
   |cons a l ih=>rw [IF,Hw];by_cases ha:dS ig a=true<;>simp [ha,ih]
  rw [hfe]
  have hfl:(p.2.filter (dS ig)).length≤1000:=G2 (H1 _ _) hl
  refine b7 (aR (vs:=(p.2.filter (dS ig)).map (so sa)) (lm (w7 hfl)) ?_)
  intros
  refine hW (some _) _ ⟨x1.trans (GV _ _),hs++[(hp1.length,p.2.filter (dS ig))],by simp [adn],?_,λq hq=>?_,λq hq=>?_⟩
  ·show It _ _=_
   rw [Hp];show rwn hs++_=_
   rw [hhs];simp
  ·rcases G8.mp hq with hq|hq
   ·exact af (hrs q hq)
   rw [GY.mp hq];exact ai
  rcases G8.mp hq with hq|hq
  ·exact hnw q hq
  rw [GY.mp hq];exact bH x1
 rintro acc hp1 ⟨x1,hs,rfl,hhs,hrs,hnw⟩
 have' hsl:hs.length=ps.length:=by simpa using congrArg HW hhs
 have' hsm:∀p∈hs,p.2.length≤1000∧∀x∈p.2,x<N:=λp hp=>by
  have:p.2∈rwn hs:=G1.mpr ⟨p,hp,rfl⟩
  rw [hhs] at this
  obtain ⟨r,hr,e⟩:=G1.mp this
  obtain ⟨q,hq,rfl⟩:=G1.mp hr
  rw [<-e]
  exact ⟨G2 (H1 _ _) (sm.2 q hq).1,λx hx=>(sm.2 q hq).2 x (HD.mp hx).1⟩
 refine aR (lm (C8 hpl hsl)) ?_
 refine rP (hs:=hs) (sa:=sa) ai (hrs.up (GV _ _)) (C7 hpl hsl) (λp hp=>(hsm p hp).1) ?_
 intros
 refine hQ _ _ (hs.filter λp=>!p.2.isEmpty) ((x1.trans (GV _ _)).trans (GV _ _)) ai ?_ ?_ ⟨?_,λp hp=>hsm p (HD.mp hp).1⟩ (λp hp=>hnw p (HD.mp hp).1) ?_
 ·exact λp hp=>af (af (hrs p (HD.mp hp).1))
 ·unfold eI
  rw [<-hhs]
  show _=((hs.map (·.2)).filter _)
  rw [List.filter_map];rfl
 ·exact G2 (H1 _ _) (w68 hpl hsl)
 have:=bH x1;simp;exact w3 this
def P2 (C:Nat):Prop:=C=204∨C=232
@[elab_as_elim] theorem P2.el {motive:Nat->Prop} {C:Nat} (h:P2 C) (a:motive 204) (b:motive 232):motive C:=h.elim (λe=>e▸a) λe=>e▸b
def P5 (fs:List (Str×V)):Prop:=∀x∈(["_can_choose_base","_nonempty_bases_ignoring","_choose_next_base","_find_next_C3_base","_guess_next_base","_merge","mro","_same_kind"]:List Str),aj fs x=none
inductive QY (hd:Bool) (vs:List V) (hp:List O) (Q:V->List O->Prop) (E:Nat->List O->Prop):Prop
 |mk (z1:hd=true) (sa:Nat->Nat) (N) (bs:Nat->List Nat) (r) (C) (fs:List (Str×V)) (rt) (ps:PS) (z2:vs=[.obj r,.obj rt]) (z3:hp[r]?=some (.inst C fs)) (z4:P2 C) (z5:P5 fs) (z6:PL hp sa N bs) (z7:hp[rt]?=some (.list (ps.map adn))) (z8:Qe hp sa ps) (z9:fJ N ps) (z10:(∀p∈ps,p.2≠[])) (z11:Q (yR sa (bO (rwn ps))) hp):QY hd vs hp Q E
theorem uK {P:Ko} {fn:FnT} {hd:Bool} {vs:List V} {hp:List O} {Q:V->List O->Prop} {E:Nat->List O->Prop} (f1:fn 155 []=some Re) (h:QY hd vs hp Q E):
  aq (gam fn) 30 (aF (KH P) 180) (an (KH P) 180) (aD ["self","base_tree_remaining"]) hd vs hp Q E:=by
 obtain ⟨rfl,sa,N,bs,r,C,fs,rt,ps,rfl,hr,hC,hM,S,hrt,hR,sm,hne,hQ⟩:=h
 have hpl:=sm.1
 refine aJ (tO fn true) rfl (by decide+kernel) ?_
 dsimp only [HT,Hi]
 intros
 refine bi hrt (!2) ?_
 refine bA (f:=adn) (xs:=ps) rfl (λpre hp' m=>QK (hp'=hp) (m "self"=some (.obj r)) (m "base_tree_remaining"=some (.obj rt)) (((rwn pre).filterMap Ij).find? (cZ (rwn ps))=none)) ⟨rfl,!1,!1,rfl⟩ ?_ ?_ ?_
 ·rintro pre hp' m ⟨rfl,_⟩;exact hrt
 ·rintro pre p post hp' m W e ⟨rfl,hm1,hm2,hpre⟩ hW
  have hpm:p∈ps:=b0 e
  obtain ⟨hl,hx⟩:=sm.2 p hpm
  have hp1:=hR p hpm
  induction hq:p.2 using Lc with
  |nil=>exact absurd hq (hne p hpm)
  |cons g t=>
  rw [hq] at hp1 hl
  have hgN:g<N:=hx g (by rw [hq];exact .head _)
  intros
  refine ed hp1 (by simp at hl;simp [lim];exact w84 hl) ?_
  intros
  refine oA (f:=155) hr (hC.el (!0) !0) (hM _ (by simp)) ?_
  intros
  refine rh f1 ⟨rfl,sa,N,bs,g,rt,ps,rfl,S,hgN,hrt,hR,sm,?_⟩
  intros
  refine bN (λhc=>?_) λhc=>?_
  ·intros
   have:bO (rwn ps)=some g:=by
    have e2:rwn ps=rwn pre++p.2::rwn post:=by rw [e];simp
    unfold bO
    generalize hgd:cZ (rwn ps)=gd at hpre hc
    rw [e2,HH,IC,hpre,hq]
    simp [hc]
   rw [this] at hQ
   exact hQ
  intros
  refine hW _ _ ⟨rfl,!1,!1,?_⟩
  rw [show rwn (pre++[p])=rwn pre++[p.2] from by simp,HH,IC,hpre,hq]
  simp [hc]
 rintro hp' m ⟨rfl,hm1,hm2,hpre⟩
 intros
 have:bO (rwn ps)=none:=hpre
 rw [this] at hQ
 exact hQ
inductive QE (hd:Bool) (vs:List V) (hp:List O) (Q:V->List O->Prop) (E:Nat->List O->Prop):Prop
 |mk (z1:hd=true) (sa:Nat->Nat) (N) (bs:Nat->List Nat) (r) (C) (fs:List (Str×V)) (rt) (ps:PS) (z2:vs=[.obj r,.obj rt]) (z3:hp[r]?=some (.inst C fs)) (z4:P2 C) (z5:P5 fs) (z6:(aj fs "leaf").isSome=true) (z7:fs.length≤100) (z8:PL hp sa N bs) (z9:hp[rt]?=some (.list (ps.map adn))) (z10:Qe hp sa ps) (z11:fJ N ps) (z12:(∀p∈ps,p.2≠[])) (z13:match bO (rwn ps) with|some h=>Q (so sa h) hp|none=>if C=204 then E 100 ((hp++[O.exc 59]).set r (.inst C (aV fs "direct_inconsistency" (.obj hp.length)))) else E 59 hp):QE hd vs hp Q E
inductive QU (hd:Bool) (vs:List V) (hp:List O) (Q:V->List O->Prop) (E:Nat->List O->Prop):Prop
 |mk (z1:hd=true) (r) (fs:List (Str×V)) (v) (z2:vs=[.obj r,v]) (z3:hp[r]?=some (.inst 204 fs)) (z4:(aj fs "leaf").isSome=true) (z5:fs.length≤100) (z6:E 100 ((hp++[O.exc 59]).set r (.inst 204 (aV fs "direct_inconsistency" (.obj hp.length))))):QU hd vs hp Q E
inductive QF (hd:Bool) (vs:List V) (hp:List O) (Q:V->List O->Prop) (E:Nat->List O->Prop):Prop
 |mk (z1:hd=true) (r) (fs:List (Str×V)) (v) (z2:vs=[.obj r,v]) (z3:hp[r]?=some (.inst 232 fs)) (z4:(aj fs "leaf").isSome=true) (z5:E 59 hp):QF hd vs hp Q E
theorem rQ (n:fn 59 []=none) (h:QU hd vs hp Q E):
  aq (gam fn) 30 (aF (KH P) 187) (an (KH P) 187) (aD ["self","base_tree_remaining"]) hd vs hp Q E:=by
 obtain ⟨rfl,r,fs,v,rfl,hr,hl,hfs,hE⟩:=h
 refine aJ (tP fn true) rfl (by decide+kernel) ?_
 dsimp only [HT,Hi]
 intros
 refine zP n rfl (.inr ⟨rfl,r,v,fs,204,rfl,hr,.inl rfl,hl⟩) ?_
 intros
 refine c7 (af hr) (.inr ⟨.bool false,!0⟩) hfs ?_
 intros
 exact ⟨⟨rfl,rfl⟩,.inl ⟨rfl,rfl⟩,hE⟩
theorem pP (h:QF hd vs hp Q E):
  aq (gam fn) 30 (aF (KH P) 229) (an (KH P) 229) (aD ["self","base_tree_remaining"]) hd vs hp Q E:=by
 obtain ⟨rfl,r,fs,v,rfl,hr,hl,hE⟩:=h
 refine aJ (tV fn true) rfl (by decide+kernel) ?_
 dsimp only [HT,Hi]
 intros
 exact ⟨⟨rfl,rfl⟩,.inr ⟨rfl,r,v,fs,232,rfl,hr,.inr rfl,hl⟩,hE⟩
theorem pQ {P:Ko} {fn:FnT} {hd:Bool} {vs:List V} {hp:List O} {Q:V->List O->Prop} {E:Nat->List O->Prop} (f1:fn 180 []=some QY) (f2:fn 187 []=some QU) (f3:fn 229 []=some QF) (h:QE hd vs hp Q E):
  aq (gam fn) 30 (aF (KH P) 173) (an (KH P) 173) (aD ["self","base_tree_remaining"]) hd vs hp Q E:=by
 obtain ⟨rfl,sa,N,bs,r,C,fs,rt,ps,rfl,hr,hC,hM,hlf,hfs,S,hrt,hR,sm,hne,hQ⟩:=h
 refine aJ (tN fn true) rfl (by decide+kernel) ?_
 dsimp only [HT,Hi]
 intros
 refine b4 (f:=180) hr (hC.el (!0) !0) (hM _ (by simp)) ?_
 intros
 refine cG f1 ⟨rfl,sa,N,bs,r,C,fs,rt,ps,rfl,hr,hC,hM,S,hrt,hR,sm,hne,?_⟩
 intros
 induction hp:bO (rwn ps) with
 |some g=>
  rw [hp] at hQ
  refine lS ?_
  intros
  refine bN (λ_=>?_) (λh=>nomatch h)
  intros
  exact hQ
 |none=>
  rw [hp] at hQ
  refine eV ?_
  intros
  refine bN (λh=>nomatch h) λ_=>?_
  intros
  rcases hC with rfl|rfl
  ·rw [RA rfl] at hQ
   refine b4 (f:=187) hr (!0) (hM _ (by simp)) ?_
   intros
   exact cG f2 ⟨rfl,r,fs,_,rfl,hr,hlf,hfs,hQ⟩
  rw [Rz !3] at hQ
  refine b4 (f:=229) hr (!0) (hM _ (by simp)) ?_
  intros
  exact cG f3 ⟨rfl,r,fs,_,rfl,hr,hlf,hQ⟩
theorem PL.get (S:PL hp sa N bs) (hk:k<N):Ex2 λfs t=>QK (hp[sa k]?=some (.inst 336 fs)) (aj fs "key"=some (.int k)) (aj fs "bases"=some (.obj t)) (hp[t]?=some (.tup ((bs k).map (so sa)))):=S.at_ k hk
theorem yS:HQ ("key":Str) (b5 336)=some AK.field:=!0
theorem rR:HQ ("bases":Str) (b5 336)=some AK.field:=!0
theorem gi (S:PL hp sa N bs) (hx:x<N) (h':k (.int x) ⟨hp,m⟩ Q E):
  (am (gam fn) hd (so sa x) "key">>=k) ⟨hp,m⟩ Q E:=by
 obtain ⟨fs,t,h1,h2,h3,h4⟩:=S.get hx
 exact bR h1 yS h2 h'
theorem c5 (S:PL hp sa N bs) (hx:x<N) (h':∀t,hp[t]?=some (.tup ((bs x).map (so sa)))->k (.obj t) ⟨hp,m⟩ Q E):
  (am (gam fn) hd (so sa x) "bases">>=k) ⟨hp,m⟩ Q E:=by
 obtain ⟨fs,t,h1,h2,h3,h4⟩:=S.get hx
 exact bR h1 rR h3 (h' t h4)
inductive Q3 (hd:Bool) (vs:List V) (hp:List O) (Q:V->List O->Prop) (E:Nat->List O->Prop):Prop
 |mk (sa:Nat->Nat) (N) (bs:Nat->List Nat) (k) (z1:vs=[so sa k]) (z2:PL hp sa N bs) (z3:aX bs N) (z4:k<N) (z5:∀hp' j,hp<+:hp'->hp'[j]?=some (.list ((bC bs 7 k).map (so sa)))->hp.length≤j->Q (.obj j) hp'):Q3 hd vs hp Q E
inductive FI (hp:List O) (sa:Nat->Nat) (bs:Nat->List Nat) (k N:Nat) (n:Nat) (hp':List O) (m:bY):Prop
 |mk (z1:hp<+:hp') (z2:m "result"=some (.obj hp.length)) (done:List Nat) (todo:List Nat) (z3:m "i"=some (.int (done.length:Nat))) (z4:hp'[hp.length]?=some (.list ((done++todo).map (so sa)))) (z5:done++todo.flatMap (bC bs 7)=bC bs 7 k) (z6:n=(todo.flatMap (bC bs 7)).length) (z7:∀x∈todo,x<N):FI hp sa bs k N n hp' m
theorem uL (h:Q3 hd vs hp Q E):
  aq (gam fn) 30 (aF (KH P) 35) (an (KH P) 35) (aD ["begin"]) hd vs hp Q E:=by
 obtain ⟨sa,N,bs,k,rfl,S,W,hk,hQ⟩:=h
 refine aJ (wo fn hd) rfl (by decide+kernel) ?_
 dsimp only [HT,Hi]
 intros
 refine aR (!2) ?_
 intros
 have hwl:(bC bs 7 k).length≤16384:=jM W 7 k hk
 refine ib (FI hp sa bs k N)
  (bC bs 7 k).length ⟨GV _ _,!1,[],[k],by rw [show ((([]:List Nat).length:Nat):Int)=0 from rfl];walk_at "v",ai,by simp,by simp,by simpa using hk⟩ ?_
 rintro n hp1 m1 V1 ⟨x1,hm1,done,todo,hmi,hl,hw,hn,ht⟩ hV
 have' hlen:done.length+todo.length≤16384:=by
  have h1:=congrArg HW hw
  have h2:=uD (bC bs 7) (rE bs 7) todo
  rw [G7] at h1;exact Bk hwl h1 h2
 intros
 refine gG hl (!2) ?_
 intros
 refine rn ?_
 induction htd:todo using Lc with
 |nil=>
  subst htd
  rw [Rz (by simp)]
  intros
  refine hQ _ _ x1 ?_ (GW _)
  rw [hl]
  have':done=bC bs 7 k:=by simpa using hw
  rw [<-this,HR]
 |cons x rest=>
  subst htd
  have hx:x<N:=ht x (.head _)
  rw [RA (by simp only [decide_eq_true_eq,G6,G7,Ht];exact CB)]
  intros
  refine bQ hl (by simp at hlen;simp [lim];exact CE hlen) (v:=so sa x) (by rw [Hg,Hh (GW _),Nat.sub_self];rfl) ?_
  intros
  intros
  refine zS ?_
  intros
  refine c5 (S.up x1) hx λt htt=>?_
  intros
  have h3:=(W.2 x hx).1
  rw [show ((done.length:Nat):Int)+1=((done.length+1:Nat):Int) by exact w73]
  simp only [Ht] at hlen
  refine zR hl htt (by simp) (!2) ?_
  intros
  have hwx:=ma W hx
  refine hV (((bs x)++rest).flatMap (bC bs 7)).length _ _ ?_ ⟨cF x1 (GW _),!1,done++[x],bs x++rest,?_,?_,?_,rfl,λy hy=>?_⟩
  ·rw [hn,Ia,hwx,List.flatMap_append];simp
  ·rw [G7,HO];walk_at "v"
  ·rw [bf hl]
   congr 2
   have e1:(done++x::rest).map (so sa)=(done++[x]).map (so sa)++rest.map (so sa):=by simp
   rw [e1,List.take_left' (by simp),List.drop_left' (by simp)]
   simp
  ·rw [<-hw,Ia,hwx,List.flatMap_append];simp
  rcases G8.mp hy with hy|hy
  ·have:=(W.2 x hx).2 y hy;exact w1 hx this
  exact ht y (.tail _ hy)
inductive Qi (hd:Bool) (vs:List V) (hp:List O) (Q:V->List O->Prop) (E:Nat->List O->Prop):Prop
 |mk (sa:Nat->Nat) (N) (bs:Nat->List Nat) (a) (j) (l) (z1:vs=[.obj a]) (z2:hp[a]?=some (.list [.obj j])) (z3:hp[j]?=some (.list (l.map (so sa)))) (z4:PL hp sa N bs) (z5:(∀x∈l,x<N)) (z6:l.length≤50000) (z7:∀hp' i,hp<+:hp'->hp'[i]?=some (.list ((aP l).map (so sa)))->hp.length≤i->Q (.obj i) hp'):Qi hd vs hp Q E
theorem mq (h:Qi hd vs hp Q E):
  aq (gam fn) 30 (aF (KH P) 28) (an (KH P) 28) (aD ["orderings"]) hd vs hp Q E:=by
 obtain ⟨sa,N,bs,a,j,l,rfl,ha,hj,S,hlN,hl5,hQ⟩:=h
 have N7:=S.N7
 refine aJ (wn fn hd) rfl (by decide+kernel) ?_
 dsimp only [HT,Hi]
 intros
 refine re λes0 ep0 t0=>?_
 intros
 refine aR (!2) ?_
 intros
 have' hlen1:(hp++[O.set [] es0 ep0 t0]).length=hp.length+1:=by simp
 rw [hlen1]
 refine vn (af (af ha)) (!2) ?_
 let I:List Nat->List O->bY->Prop:=λpre hp' m=>hp<+:hp'∧m "seen"=some (.obj hp.length)∧m "result"=some (.obj (hp.length+1))∧hp'[hp.length+1]?=some (.list ((aP pre.reverse).map (so sa)))∧Ex4 λns es ep t=>hp'[hp.length]?=some (.set ns es ep t)∧∀x<N,((x:Int)∈ns↔x∈pre)
 refine bA (f:=λ(q:Nat)=>V.obj q) (xs:=[j]) rfl (λpre hp' m=>(pre=[]∧I [] hp' m)∨(pre=[j]∧I l.reverse hp' m))
  (.inl ⟨rfl,(GV _ _).trans (GV _ _),!1,!1,by rw [<-hlen1];exact ai,[],es0,ep0,t0,af ai,λx _=>by simp⟩) ?_ ?_ ?_
 ·rintro pre hp' m (⟨_,h1,_⟩|⟨_,h1,_⟩)<;>exact ae h1 ha
 ·rintro pre q post hp1 m1 W1 e hI hW1
  have hpre:pre=[]∧q=j:=by
   induction pre using Lc with
   |nil=>exact ⟨rfl,by injection e with h1 h2;exact h1.symm⟩
   |cons b t=>have:=congrArg HW e;simp at this
  obtain ⟨rfl,rfl⟩:=hpre
  replace hI:I [] hp1 m1:=hI.elim (·.2) (λh=>nomatch h.1)
  obtain ⟨x1,hs1,hr1,hrl,ns,es,ep,t,hset,hns⟩:=hI
  intros
  refine vn (ae x1 hj) (!2) ?_
  refine bA (f:=so sa) (xs:=l.reverse) (by simp) I ⟨x1,!1,!1,hrl,ns,es,ep,t,hset,hns⟩ ?_ ?_ ?_
  ·rintro pre hp' m ⟨h1,_⟩;exact ae h1 hj
  ·rintro pre x post hp2 m2 W2 e2 ⟨x2,hs2,hr2,hrl2,ns2,es2,ep2,t2,hset2,hns2⟩ hW2
   have' hx:x<N:=hlN x (by rw [<-List.mem_reverse,e2];simp)
   have hkl:(aP pre.reverse).length<50000:=by
    have h1:=lX pre.reverse
    have h2:=congrArg HW e2
    simp at h1 h2;exact Bm hl5 h1 h2
   intros
   refine gi (S.up x2) hx ?_
   intros
   refine lU hset2 ?_
   intros
   refine bN (λhc=>?_) λhc=>?_
   ·have hn:x∉pre:=λh=>by simp [(hns2 x hx).mpr h] at hc
    intros
    refine pB hset2 (!3) ?_
    intros
    refine gi (S.up x2) hx ?_
    refine rj hset2 (w5) (Dj N7 hx) λes3 ep3 t3=>?_
    intros
    have' hrl3:=aO (i:=hp.length) (o:=O.set (cI (x:Int) ns2) es3 ep3 t3) (w15) hrl2
    refine ct hrl3 (!3) ?_
    intros
    refine ri hrl3 (lmt (D4 hkl)) ?_
    intros
    refine hW2 _ _ ⟨cF (cF x2 (GW _)) (w2),!1,!1,?_,cI (x:Int) ns2,es3,ep3,t3,aO (w76) (bf hset2),λy hy=>?_⟩
    ·rw [bf hrl3,List.reverse_append]
     have:x∉aP pre.reverse:=λh=>hn (by simpa using dQ.mp h)
     show _=some (O.list ((aP (x::pre.reverse)).map (so sa)))
     rw [cV this];rfl
    rw [et,hns2 y hy,G8,GY]
    constructor
    ·rintro (h|h)
     ·exact .inr (CD h)
     exact .inl h
    rintro (h|h)
    ·exact .inr h
    exact .inl (CX h)
   have' hn:x∈pre:=(hns2 x hx).mp (by simpa using hc)
   intros
   refine hW2 _ _ ⟨x2,!1,!1,?_,ns2,es2,ep2,t2,hset2,λy hy=>?_⟩
   ·rw [hrl2,List.reverse_append]
    show _=some (O.list ((aP (x::pre.reverse)).map (so sa)))
    rw [ee (dQ.mpr (by simpa using hn))]
   rw [hns2 y hy,G8,GY]
   exact ⟨.inl,λh=>h.elim id λe=>e▸hn⟩
  rintro hp2 m2 hI2
  intros
  exact hW1 _ _ (.inr ⟨rfl,hI2⟩)
 rintro hp1 m1 (⟨h,_⟩|⟨_,x1,hs1,hr1,hrl,ns,es,ep,t,hset,hns⟩)
 ·cases h
 intros
 rw [List.reverse_reverse] at hrl
 exact hQ _ _ x1 hrl (w2)
def fK (bs:Nat->List Nat) (k:Nat):List Nat:=aP (bC bs 7 k)
theorem oH (W:aX bs N) (hk:k<N):(fK bs k).length≤1000∧∀x∈fK bs k,x<N:=by
 have' hb:∀x∈fK bs k,x≤k:=λx hx=>ge W 7 k hk x (dQ.mp hx)
 refine ⟨?_,λx hx=>by have:=hb x hx;exact w17 hk this⟩
 have:(fK bs k).length≤(Hf (k+1)).length:=Jq.length_le_of_subset (fG _) λx hx=>by rw [H9];have:=hb x hx;exact w70 this
 have h7:=W.1
 rw [HA] at this;exact BT hk this h7
inductive QR (hd:Bool) (vs:List V) (hp:List O) (Q:V->List O->Prop) (E:Nat->List O->Prop):Prop
 |mk (sa:Nat->Nat) (N) (bs:Nat->List Nat) (k) (z1:vs=[so sa k]) (z2:PL hp sa N bs) (z3:aX bs N) (z4:k<N) (z5:∀hp' j,hp<+:hp'->hp'[j]?=some (.list ((fK bs k).map (so sa)))->hp.length≤j->Q (.obj j) hp'):QR hd vs hp Q E
theorem rS (f1:fn 35 []=some Q3) (f2:fn 28 []=some Qi) (h:QR hd vs hp Q E):
  aq (gam fn) 30 (aF (KH P) 42) (an (KH P) 42) (aD ["ob"]) hd vs hp Q E:=by
 obtain ⟨sa,N,bs,k,rfl,S,W,hk,hQ⟩:=h
 refine aJ (wp fn hd) rfl (by decide+kernel) ?_
 dsimp only [HT,Hi]
 intros
 refine cY f1 ⟨sa,N,bs,k,rfl,S,W,hk,λhp1 j1 x1 h1 l1=>?_⟩
 refine aR (!2) ?_
 have hwl:=jM W 7 k hk
 refine cY f2 ⟨sa,N,bs,_,j1,bC bs 7 k,rfl,ai,af h1,(S.up x1).up (GV _ _),λx hx=>HX (ge W 7 k hk x hx) hk,G2 hwl !3,λhp2 j2 x2 h2 l2=>?_⟩
 intros
 refine hQ _ _ ((x1.trans (GV _ _)).trans x2) h2 ?_
 have:=bH x1;simp at l2;exact Cj this l2
theorem ah {x y:Str} {v:V} {fs:List (Str×V)} (n:(y==x)=false):aj (aV fs x v) y=aj fs y:=(bx fs x y v).trans (Rz λe=>by rw [e,beq_self_eq_true] at n;exact nomatch n)
theorem P5.put (h:P5 fs) (n:(["_can_choose_base","_nonempty_bases_ignoring","_choose_next_base","_find_next_C3_base","_guess_next_base","_merge","mro","_same_kind"]:List Str).contains x=false):P5 (aV fs x v):=by
 intro y hy
 rw [ah]
 ·exact h y hy
 rw [ID]
 intro e
 have:y=x:=by simpa using e
 subst this
 have:=List.contains_iff_mem.mpr hy
 rw [this] at n;exact nTF n
def PD (hp hp':List O) (X:Nat->Prop):Prop:=∀i o,hp[i]?=some o->¬X i->hp'[i]?=some o
theorem PD.refl (hp:List O) (X:Nat->Prop):PD hp hp X:=λ_ _ h _=>h
theorem PD.trans (h:PD hp hp' X) (h':PD hp' hp'' X):PD hp hp'' X:=λi o e n=>h' i o (h i o e n) n
theorem PD.of_ext (x:hp<+:hp'):PD hp hp' X:=λ_ _ e _=>ae x e
theorem PD.set (h:PD hp hp' X) (hi:X i∨hp.length≤i):PD hp (hp'.set i o) X:=λj o' e n=>by
 refine aO ?_ (h j o' e n)
 rintro rfl
 rcases hi with hi|hi
 ·exact n hi
 have:=aE e;exact w14 hi this
theorem PD.app (h:PD hp hp' X) (l:List O):PD hp (hp'++l) X:=λj o e n=>af (h j o e n)
theorem PD.sub (h:PD hp hp' X) (s:∀i,X i->i<hp.length->Y i):PD hp hp' Y:=λi o e n=>h i o e λz=>n (s i z (aE e))
theorem PD.pre (h:PD hp hp' X) (x:L<+:hp) (hX:∀i,X i->L.length≤i):L<+:hp':=by
 rw [List.prefix_iff_getElem?]
 intro i hi
 have':=ae x (G3 hi)
 exact h i _ this λz=>by have:=hX i z;exact w9 hi this
theorem PD.len (h:PD hp hp' (·=r)) (hr:hp'[r]?=some o):hp.length≤hp'.length:=by
 refine Classical.byContradiction λhn=>?_
 have hl:hp'.length<hp.length:=DD hn
 by_cases e:hp'.length=r
 ·have:=aE hr;exact CZ e this
 have':=h hp'.length _ (G3 hl) e
 have:=aE this;exact w6 this
theorem PL.keep (S:PL hp sa N bs) (h:PD hp hp' X) (hX:∀i,X i->∀o,hp[i]?=some o->(∀fs,o≠.inst 336 fs)∧∀vs,o≠.tup vs):PL hp' sa N bs:=
 ⟨λk hk=>by
   obtain ⟨fs,t,h1,h2,h3,h4⟩:=S.at_ k hk
   exact ⟨fs,t,h _ _ h1 (λz=>(hX _ z _ h1).1 fs rfl),h2,h3,h _ _ h4 (λz=>(hX _ z _ h4).2 _ rfl)⟩,S.inj,S.few,S.N7⟩
theorem PL.keep1 (S:PL hp sa N bs) (h:PD hp hp' (·=r)) (hr:hp[r]?=some (.inst C fs)) (hC:P2 C):PL hp' sa N bs:=
 S.keep h λi hi o ho=>by
  subst hi
  rw [hr] at ho;(replace ho:=ay ho;subst ho)
  exact ⟨λfs' e=>(by injection e with e1 _;rcases hC with rfl|rfl<;>exact nNe e1 rfl),λ_ e=>nomatch e⟩
inductive QC (hd:Bool) (vs:List V) (hp:List O) (Q:V->List O->Prop) (E:Nat->List O->Prop):Prop
 |mk (sa:Nat->Nat) (N) (bs:Nat->List Nat) (k) (r) (C) (fs:List (Str×V)) (z1:vs=[.obj r]) (z2:hp[r]?=some (.inst C fs)) (z3:P2 C) (z4:aj fs "leaf"=some (so sa k)) (z5:fs.length≤90) (z6:PL hp sa N bs) (z7:aX bs N) (z8:k<N) (z9:(aj fs "_own_legacy"=none∨∃t,aj fs "_own_legacy"=some (.obj t)∧hp[t]?=some (.tup ((fK bs k).map (so sa))))) (z10:∀hp' j fs' t,PD hp hp' (·=r)->hp'[r]?=some (.inst C fs')->(∀x,(x==("_own_legacy":Str))=false->aj fs' x=aj fs x)->aj fs' "_own_legacy"=some (.obj t)->hp'[t]?=some (.tup ((fK bs k).map (so sa)))->fs'.length≤fs.length+1->hp'[j]?=some (.list ((fK bs k).map (so sa)))->hp.length≤j->Q (.obj j) hp'):QC hd vs hp Q E
theorem i4 (h:P2 C):HQ ("_own_legacy":Str) (b5 C)=some (AK.val .none):=h.el (!0) !0
theorem uM (h:P2 C):HQ ("leaf":Str) (b5 C)=some AK.field:=h.el (!0) !0
theorem eJ (h:P2 C):HQ ("_mro":Str) (b5 C)=some (AK.val .none):=h.el (!0) !0
theorem oJ (h:P2 C):HQ ("base_tree":Str) (b5 C)=some AK.field:=h.el (!0) !0
theorem rT (h:P2 C):HQ ("legacy_ro":Str) (b5 C)=some (AK.prop 147):=h.el (!0) !0
theorem pR (f1:fn 42 []=some QR) (h:QC hd vs hp Q E):
  aq (gam fn) 30 (aF (KH P) 147) (an (KH P) 147) (aD ["self"]) hd vs hp Q E:=by
 obtain ⟨sa,N,bs,k,r,C,fs,rfl,hr,hC,hlf,hfl,S,W,hk,hown,hQ⟩:=h
 have hll:=oH W hk
 refine aJ (tK fn hd) rfl (by decide+kernel) ?_
 dsimp only [HT,Hi]
 intros
 rcases hown with hown|⟨t,hown,ht⟩
 ·refine du hr (i4 hC) (v:=.none) (by rw [hown];rfl) ?_
  intros
  refine qV ?_
  intros
  refine bN (λ_=>?_) (λh=>nomatch h)
  intros
  refine bR hr (uM hC) hlf ?_
  refine cY f1 ⟨sa,N,bs,k,rfl,S,W,hk,λhp1 j1 x1 h1 l1=>?_⟩
  refine iT h1 (!2) ?_
  intros
  have' hr1:=af (l:=[O.tup ((fK bs k).map (so sa))]) (ae x1 hr)
  refine c7 hr1 (.inr ⟨_,i4 hC⟩) (Es hfl) ?_
  intros
  have' hr2:=bf (o:=O.inst C (aV fs "_own_legacy" (V.obj hp1.length))) hr1
  have hrl:=aE (ae x1 hr)
  have' ht2:=aO (i:=r) (o:=O.inst C (aV fs "_own_legacy" (V.obj hp1.length))) (w8 hrl) (ai (hp:=hp1) (o:=O.tup ((fK bs k).map (so sa))))
  refine du hr2 (i4 hC) (v:=.obj hp1.length) (by rw [br];rfl) ?_
  refine eX ht2 (!2) ?_
  intros
  refine hQ _ _ _ _ (PD.app (PD.set (X:=λx=>x=r) (PD.app (PD.of_ext x1) _) (.inl rfl)) _) (af hr2) (λx hx=>ah hx) (br ..) (af ht2) (bB ..) ai ?_
  have:=bH x1;simp;exact w3 this
 refine du hr (i4 hC) (v:=.obj t) (by rw [hown];rfl) ?_
 intros
 refine vl ?_
 intros
 refine bN (λh=>nomatch h) λ_=>?_
 intros
 refine du hr (i4 hC) (v:=.obj t) (by rw [hown];rfl) ?_
 refine eX ht (!2) ?_
 intros
 exact hQ _ _ fs t ((PD.refl _ _).app _) (af hr) (λ_ _=>rfl) hown (af ht) (w2) ai (GW _)
theorem jT (h:n≤a) (ha:Kb a 100=true:=by rfl):n≤100:=G2 h (Il ha)
theorem fsl {fs:List (Str×V)} {x:Str} {v:V} (h:fs.length≤k):(aV fs x v).length≤k+1:=G2 (bB ..) (w22 h)
section
variable {β:Type} {fn:FnT} {hp:List O} {m:bY} {Q:β->AS->Prop} {E:Nat->AS->Prop}
theorem ba (h:hp[i]?=some (.inst C fs)) (ha:(b5 C).lookup x=some .field∨∃y,(b5 C).lookup x=some (.val y)) (hl:fs.length≤100)
  (h':∀hp' fs',fs'=aV fs x y->hp'.length=hp.length->PD hp hp' (λj=>j=i)->hp'[i]?=some (.inst C fs')->k () ⟨hp',m⟩ Q E):(aC (gam fn) (.obj i) x y>>=k) ⟨hp,m⟩ Q E:=
 c7 h ha hl (h' _ _ rfl JY (PD.set (PD.refl _ _) (.inl rfl)) (bf h))
theorem c0 (hl:vs.length≤lim) (h':∀hp' j,hp<+:hp'->j=hp.length->hp'.length=hp.length+1->hp'[j]?=some (.list vs)->k (.obj j) ⟨hp',m⟩ Q E):(newList vs>>=k) ⟨hp,m⟩ Q E:=
 aR hl (h' _ _ (GV _ _) rfl G7 ai)
theorem oK (h':∀hp' j,hp<+:hp'->j=hp.length->hp'.length=hp.length+1->hp'[j]?=some o->k (.obj j) ⟨hp',m⟩ Q E):(dg o>>=k) ⟨hp,m⟩ Q E:=
 fZ (h' _ _ (GV _ _) rfl G7 ai)
theorem rU (hl:vs.length≤lim) (h':∀hp' j,hp<+:hp'->j=hp.length->hp'.length=hp.length+1->hp'[j]?=some (.tup vs)->k (.obj j) ⟨hp',m⟩ Q E):(cu vs>>=k) ⟨hp,m⟩ Q E:=
 jD hl (h' _ _ (GV _ _) rfl G7 ai)
theorem i6 (h:hp[i]?=some (.list vs)) (hl:vs.length≤lim) (h':∀hp' j,hp<+:hp'->j=hp.length->hp'.length=hp.length+1->hp'[j]?=some (.tup vs)->k (.obj j) ⟨hp',m⟩ Q E):(az (gam fn) hd (.type "tuple") [.obj i]>>=k) ⟨hp,m⟩ Q E:=
 iT h hl (h' _ _ (GV _ _) rfl G7 ai)
theorem uN (h:hp[i]?=some (.dict ep kv)) (hl:kv.length≤lim) (h':∀hp' ep,hp'.length=hp.length->PD hp hp' (λj=>j=i)->hp'[i]?=some (.dict ep [])->k .none ⟨hp',m⟩ Q E):(ax (gam fn) hd (.obj i) "clear" .dct []>>=k) ⟨hp,m⟩ Q E:=
 tz h hl λep=>h' _ ep JY (PD.set (PD.refl _ _) (.inl rfl)) (bf h)
theorem mr (h:hp[i]?=some (.list vs)) (hl:vs.length<lim) (h':∀hp',hp'.length=hp.length->PD hp hp' (λj=>j=i)->hp'[i]?=some (.list (vs++[y]))->k .none ⟨hp',m⟩ Q E):(ax (gam fn) hd (.obj i) "append" .lst [y]>>=k) ⟨hp,m⟩ Q E:=
 ck h hl (h' _ JY (PD.set (PD.refl _ _) (.inl rfl)) (bf h))
theorem rV (h1:hp[i]?=some (.list vs)) (h2:hp[j]?=some (.list ws)) (hl:(vs++ws).length≤lim) (h':∀hp' j,hp<+:hp'->j=hp.length->hp'[j]?=some (.list (vs++ws))->k (.obj j) ⟨hp',m⟩ Q E):(bD .Add (.obj i) (.obj j)>>=k) ⟨hp,m⟩ Q E:=
 ou h1 h2 hl (h' _ _ (GV _ _) rfl ai)
theorem uO (h:hp[i]?=some (.tup vs)) (hl:vs.length≤lim) (h':∀hp' j,hp<+:hp'->j=hp.length->hp'[j]?=some (.list vs)->k (.obj j) ⟨hp',m⟩ Q E):(az (gam fn) hd (.type "list") [.obj i]>>=k) ⟨hp,m⟩ Q E:=
 eX h hl (h' _ _ (GV _ _) rfl ai)
end
theorem vt (hx:Γ.exc C=true) (hb:b ⟨hp,m⟩ Q (λC' st'=>Γ.exc C'=true∧if Γ.sub C' C=true then h st' Q E else E C' st')):vJ Γ C b h ⟨hp,m⟩ Q E:=⟨hx,hb⟩
def fj (C:Nat) (bs:Nat->List Nat) (k:Nat) (rows:List (List Nat)):Option (List Nat):=match merge rows with
 |some l=>some l
 |none=>if C=204 then some (fK bs k) else none
def QW (hp:List O) (fs:List (Str×V)):Prop:=((∃b,aj fs "bases_had_inconsistency"=some (.bool b))∧aj fs "direct_inconsistency"=none)∨∃e,aj fs "direct_inconsistency"=some (.obj e)∧hp[e]?=some (.exc 59)
def gj:List Str:=["_mro","direct_inconsistency","_own_legacy"]
def SameBut (fs fs':List (Str×V)):Prop:=∀x,gj.contains x=false->aj fs' x=aj fs x
theorem SameBut.put (h:SameBut fs fs') (hx:gj.contains x=true):SameBut fs (aV fs' x v):=λy hy=>by
 rw [ah,h y hy]
 rw [ID];intro e
 have:y=x:=by simpa using e
 rw [this,hx] at hy;exact nTF hy
theorem SameBut.refl (fs:List (Str×V)):SameBut fs fs:=λ_ _=>rfl
theorem SameBut.noMeth (h:SameBut fs fs') (n:P5 fs):P5 fs':=λx hx=>by
 rw [h x ?_] at⊢
 ·exact n x hx
 simp only [G0,H8,or_false] at hx
 rcases hx with rfl|rfl|rfl|rfl|rfl|rfl|rfl|rfl<;>decide+kernel
structure Q8 (hp:List O) (sa:Nat->Nat) (N:Nat) (r C k:Nat) (fs:List (Str×V)) (ps:PS):Prop where
 at_:hp[r]?=some (.inst C fs)
 cls:P2 C
 noM:P5 fs
 len:fs.length≤20
 leaf:aj fs "leaf"=some (so sa k)
 kN:k<N
 mro:aj fs "_mro"=none
 own:aj fs "_own_legacy"=none
 dir:aj fs "direct_inconsistency"=none
 had:∃b,aj fs "bases_had_inconsistency"=some (.bool b)
 tree:∃bt,aj fs "base_tree"=some (.obj bt)∧hp[bt]?=some (.list (ps.map adn))
 rows:Qe hp sa ps
 small:fJ N ps
theorem i7 (rows:List (List Nat)):eI none rows=neR rows:=by
 unfold eI neR
 have:rows.map (λr=>r.filter (dS none))=rows:=by
  have':∀r:List Nat,r.filter (dS none)=r:=λr=>Iw.mpr λ_ _=>rfl
  simp [this]
 rw [this]
theorem nT (h:Nat) (rows:List (List Nat)):eI (some h) rows=neR (bj h rows):=rfl
theorem gT (rows:List (List α)):(rows.filter λr=>!r.isEmpty).flatten.length≤rows.flatten.length:=by
 induction rows with
 |nil=>exact GW _
 |cons r rs ih=>
  rw [Hw]
  split
  ·rw [Jl,Jl,G7,G7];exact Cq ih
  rw [Jl,G7];exact Ch ih
theorem uP {rows:List (List Nat)} (n:Nat) (h:∀r∈rows,r.length≤n):rows.flatten.length≤rows.length*n:=by
 induction rows with
 |nil=>simp
 |cons r rs ih=>
  rw [Jl,G7,Ht,JV]
  have:=h r (.head _);have:=ih λr hr=>h r (.tail _ hr);exact w40 ‹_› this
inductive QM (hd:Bool) (vs:List V) (hp:List O) (Q:V->List O->Prop) (E:Nat->List O->Prop):Prop
 |mk (z1:hd=true) (sa:Nat->Nat) (N) (bs:Nat->List Nat) (r) (C) (k) (fs:List (Str×V)) (ps:PS) (z2:vs=[.obj r]) (z3:PL hp sa N bs) (z4:aX bs N) (z5:Q8 hp sa N r C k fs ps) (z6:(∀hp' fs',PD hp hp' (λi=>i=r)->hp'[r]?=some (.inst C fs')->SameBut fs fs'->QW hp' fs'->fs'.length≤fs.length+5->(∀l j,fj C bs k (rwn ps)=some l->hp'[j]?=some (.list (l.map (so sa)))->hp.length≤j->l.length≤20000->Q (.obj j) hp'))) (z7:∀hp',PD hp hp' (λi=>i=r)->fj C bs k (rwn ps)=none->E 59 hp'):QM hd vs hp Q E
inductive GI (hp:List O) (r C:Nat) (fs1:List (Str×V)) (sa:Nat->Nat) (N:Nat) (ps:PS) (n:Nat) (hp':List O) (m:bY):Prop
 |mk (z1:PD hp hp' (λi=>i=r)) (z2:hp'[r]?=some (.inst C fs1)) (z3:m "self"=some (.obj r)) (z4:m "result"=some (.obj hp.length)) (ig:Option Nat) (bt:Nat) (ps':PS) (done:List Nat) (z5:m "base"=some (yR sa ig)) (z6:m "base_tree_remaining"=some (.obj bt)) (z7:hp'[bt]?=some (.list (ps'.map adn))) (z8:Qe hp' sa ps') (z9:fJ N ps') (z10:(∀b,ig=some b->b<N)) (z11:hp'[hp.length]?=some (.list (done.map (so sa)))) (z12:(∀p∈ps',p.1≠hp.length)) (z13:bt≠hp.length) (z14:n=(eI ig (rwn ps')).flatten.length) (z15:done.length+n≤10000) (z16:merge (rwn ps)=(merge (eI ig (rwn ps'))).map (done++·)):GI hp r C fs1 sa N ps n hp' m
theorem rW {P:Ko} {fn:FnT} {hd:Bool} {vs:List V} {hp:List O} {Q:V->List O->Prop} {E:Nat->List O->Prop} (f1:fn 163 []=some Qk) (f2:fn 173 []=some QE) (f3:fn 147 []=some QC) (h:QM hd vs hp Q E):
  aq (gam fn) 30 (aF (KH P) 194) (an (KH P) 194) (aD ["self"]) hd vs hp Q E:=by
 obtain ⟨rfl,sa,N,bs,r,C,k,fs,ps,rfl,S,W,F,hQ,hE⟩:=h
 have' hC:=F.cls
 have' hr:=F.at_
 have' hk:=F.kN
 have' hrl:=aE hr
 have' hfl:=F.len
 refine aJ (tS fn true) rfl (by decide+kernel) ?_
 dsimp only [HT,Hi]
 refine c0 (!2) λhp0 jr x0 e0 _ res1=>?_
 subst e0
 intros
 refine ba (ae x0 hr) (.inr ⟨_,eJ hC⟩) (Ea hfl) λhp1 fs1 hfs1 _ K1 hr1=>?_
 replace res1:=K1 _ _ res1 (aw res1 (ae x0 hr) rfl)
 replace K1:=(PD.of_ext x0).trans K1
 obtain ⟨bt,hbt,hbl⟩:=F.tree
 have' hf1l:fs1.length≤fs.length+1:=by rw [hfs1];exact bB ..
 have' sb1:SameBut fs fs1:=by rw [hfs1];exact (SameBut.refl fs).put (by decide+kernel)
 have' hbt1:aj fs1 "base_tree"=some (.obj bt):=by rw [sb1 _ (by decide+kernel)];exact hbt
 have' hlf1:aj fs1 "leaf"=some (so sa k):=by rw [sb1 _ (by decide+kernel)];exact F.leaf
 have' hdir1:aj fs1 "direct_inconsistency"=none:=by rw [hfs1,ah (by decide+kernel)];exact F.dir
 have' hown1:aj fs1 "_own_legacy"=none:=by rw [hfs1,ah (by decide+kernel)];exact F.own
 have' hhad1:∃b,aj fs1 "bases_had_inconsistency"=some (.bool b):=by obtain ⟨b,hb⟩:=F.had;exact ⟨b,by rw [sb1 _ (by decide+kernel)];exact hb⟩
 have' noM1:P5 fs1:=sb1.noMeth F.noM
 intros
 refine bR hr1 (oJ hC) hbt1 ?_
 intros
 have' ne_r:∀{i:Nat} {o:O},hp[i]?=some o->(∀fs,o≠.inst C fs)->i≠r:=λh n=>nQ h hr (n fs)
 have' K1g:∀{i:Nat} {o:O},hp[i]?=some o->(∀fs,o≠.inst C fs)->hp1[i]?=some o:=λh n=>K1 _ _ h (ne_r h n)
 have' hflat:(rwn ps).flatten.length≤10000:=by
  have':=uP (rows:=rwn ps) 1000 λr hr=>let ⟨p,hp,e⟩:=G1.mp hr;e▸(F.small.2 p hp).1
  have' h10:=F.small.1
  rw [G6] at this
  have':ps.length*1000≤10*1000:=Iz _ h10
  exact Dq ‹_› this
 refine ib (GI hp r C fs1 sa N ps)
  (eI none (rwn ps)).flatten.length
  ⟨K1,hr1,!1,!1,none,bt,ps,[],by show _=some V.none;walk_at "v",!1,K1g hbl (λ_ e=>nomatch e),λp hp=>K1g (F.rows p hp) (λ_ e=>nomatch e),F.small,(λ_ h=>nomatch h),res1,λp hp=>Hb (aE (F.rows p hp)),Hb (aE hbl),rfl,?_,?_⟩ ?_
 ·rw [i7]
  have':(neR (rwn ps)).flatten.length≤(rwn ps).flatten.length:=gT (rwn ps)
  show 0+_≤_;exact C1 hflat this
 ·rw [i7,jN];cases merge (rwn ps)<;>rfl
 rintro n hp2 m2 V2 ⟨K2,hr2,hms,hmr,ig,bt2,ps2,done,hmb,hmt,hbt2,R2,sm2,hig,hres,hpne,hbne,hn,hdn,hmg⟩ hV
 have' S2:=S.keep1 K2 hr hC
 intros
 refine b7 (wb (qT ?_))
 rw [RA !3]
 intros
 refine oA (f:=163) hr2 (hC.el (!0) !0) (noM1 _ (by simp)) ?_
 intros
 refine rh f1 ⟨rfl,sa,N,bs,ig,bt2,ps2,rfl,S2,hig,hbt2,R2,sm2,λhp3 j3 hs x3 h3 R3 hw3 sm3 hnw l3=>?_⟩
 have' K3:PD hp hp3 (λi=>i=r):=K2.trans (PD.of_ext x3)
 have' hr3:=ae x3 hr2
 have' S3:=S2.up x3
 have' hres3:=ae x3 hres
 have' hs10:=sm3.1
 intros
 refine d9 h3 (!2) ?_
 refine bN (λhc=>?_) λhc=>?_
 ·--the end
  have' hse:hs=[]:=by induction hs using Lc with|nil=>rfl|cons a l=>exact nFT hc
  subst hse
  intros
  have' hmg':merge (rwn ps)=some done:=by
   rw [hmg,<-hw3,bW (by simp)];simp
  have' hans:fj C bs k (rwn ps)=some done:=by unfold fj;rw [hmg']
  exact hQ _ fs1 K3 hr3 sb1 (.inl ⟨hhad1,hdir1⟩) (Ds hf1l) done hp.length hans hres3 (GW _) (CP hdn)
 have' hsn:hs≠[]:=by rintro rfl;exact nTF hc
 have' hne3:∀p∈hs,p.2≠[]:=λp hp=>by
  have':p.2∈rwn hs:=G1.mpr ⟨p,hp,rfl⟩
  rw [hw3] at this
  unfold eI at this
  have':=(HD.mp this).2
  intro e;rw [e] at this;exact nFT this
 intros
 refine vt rfl ?_
 intros
 refine b4 (f:=173) hr3 (hC.el (!0) !0) (noM1 _ (by simp)) ?_
 intros
 refine cG f2 ⟨rfl,sa,N,bs,r,C,fs1,j3,hs,rfl,hr3,hC,noM1,by rw [hlf1];rfl,by exact C9 hfl hf1l,S3,h3,R3,sm3,hne3,?_⟩
 induction hpk:bO (rwn hs) with
 |some g=>
  dsimp only
  obtain ⟨rg,hrg,hgh⟩:=c9 hpk
  obtain ⟨pg,hpg,rfl⟩:=G1.mp hrg
  have' hgN:g<N:=(sm3.2 pg hpg).2 g (Ig hgh)
  intros
  refine ct hres3 (!3) ?_
  intros
  refine ck hres3 (lmt (CO hdn)) ?_
  intros
  have' hlt:(eI (some g) (rwn hs)).flatten.length<n:=by
   have' h1:(bj g (rwn hs)).flatten.length<(rwn hs).flatten.length:=kO ⟨pg.2,hrg,Ig hgh⟩
   have' h2:(eI (some g) (rwn hs)).flatten.length≤(bj g (rwn hs)).flatten.length:=gT _
   rw [hn,<-hw3];exact w17 h1 h2
  have' hln:=aE hres
  have' hx3:=bH x3
  have' gs:∀{i:Nat} {o:O},hp3[i]?=some o->i≠hp.length->(hp3.set hp.length (.list (done.map (so sa)++[so sa g])))[i]?=some o:=λh n=>aO (Ne.symm n) h
  refine hV _ _ _ hlt ⟨K3.set (.inr (GW _)),gs hr3 (w8 hrl),!1,!1,some g,j3,hs,done++[g],by show _=some (so sa g);walk_at "v",!1,gs h3 (w52 l3 hln),λp hp=>gs (R3 p hp) ?_,sm3,λb hb=>(by (replace hb:=ay hb;subst hb);exact hgN),?_,λp hp=>?_,by exact w52 l3 hln,rfl,by rw [G7,HO];exact BB hdn hlt,?_⟩
  ·have':=hnw p hp;exact w29 hln this
  ·rw [bf hres3];simp
  ·have':=hnw p hp;exact w29 hln this
  rw [hmg,<-hw3,be hpk,nT,jN]
  cases merge (bj g (rwn hs))<;>simp
 |none=>
  dsimp only
  have' hst:merge (rwn ps)=none:=by
   rw [hmg,<-hw3,bI ?_ hpk] at⊢;·rfl
   intro hz
   induction hs using Lc with
   |nil=>exact hsn rfl
   |cons p l=>exact hne3 p (.head _) (hz p.2 (by simp))
  rcases hC with rfl|rfl
  ·rw [RA rfl]
   refine ⟨rfl,?_⟩
   rw [RA (show (gam fn).sub 100 100=true from rfl)]
   have' hans:fj 204 bs k (rwn ps)=some (fK bs k):=by unfold fj;rw [hst];rfl
   have' hll:=oH W hk
   have' hr3l:=aE hr3
   have' hr4:=bf (o:=O.inst 204 (aV fs1 "direct_inconsistency" (V.obj hp3.length))) (af (l:=[O.exc 59]) hr3)
   have' K4:PD hp ((hp3++[O.exc 59]).set r (O.inst 204 (aV fs1 "direct_inconsistency" (V.obj hp3.length)))) (λi=>i=r):=PD.set (K3.app _) (.inl rfl)
   have' he4:((hp3++[O.exc 59]).set r (O.inst 204 (aV fs1 "direct_inconsistency" (V.obj hp3.length))))[hp3.length]?=some (.exc 59):=aO (w8 hr3l) ai
   have' hlen4:hp.length≤((hp3++[O.exc 59]).set r (O.inst 204 (aV fs1 "direct_inconsistency" (V.obj hp3.length)))).length:=K4.len hr4
   generalize (hp3++[O.exc 59]).set r (O.inst 204 (aV fs1 "direct_inconsistency" (V.obj hp3.length)))=hp4 at hr4 K4 he4 hlen4
   generalize hfs2:aV fs1 "direct_inconsistency" (V.obj hp3.length)=fs2 at hr4
   have' hf2l:fs2.length≤fs.length+2:=by rw [<-hfs2];exact G2 (bB ..) (Dr hf1l)
   have' sb2:SameBut fs fs2:=by rw [<-hfs2];exact sb1.put (by decide+kernel)
   have' hdir2:aj fs2 "direct_inconsistency"=some (.obj hp3.length):=by rw [<-hfs2];exact br ..
   have' hown2:aj fs2 "_own_legacy"=none:=by rw [<-hfs2,ah (by decide+kernel)];exact hown1
   have' hlf2:aj fs2 "leaf"=some (so sa k):=by rw [sb2 _ (by decide+kernel)];exact F.leaf
   have' S4:=S.keep1 K4 hr (.inl rfl)
   intros
   refine kL hr4 (rT (.inl rfl)) f3 ⟨sa,N,bs,k,r,204,fs2,rfl,hr4,.inl rfl,hlf2,by exact Db hfl hf2l,S4,W,hk,.inl hown2,λhp5 j5 fs5 t5 K5 hr5 same5 own5 ht5 len5 hj5 l5=>?_⟩
   intros
   refine ba hr5 (.inr ⟨_,eJ (.inl rfl)⟩) (B8 hfl hf2l len5) λhp6 fs6 hfs6 hl56 K6 hr6=>?_
   have' hl45:=K5.len hr5
   have' ht6:=K6 _ _ ht5 (aw ht5 hr5 rfl)
   have' he6:=K6 _ _ (K5 _ _ he4 (w66 hr3l)) (w66 hr3l)
   replace K6:=(K4.trans K5).trans K6
   have' S6:=S.keep1 K6 hr (.inl rfl)
   have' hf6l:fs6.length≤fs5.length+1:=by rw [hfs6];exact bB ..
   have' hown6:aj fs6 "_own_legacy"=some (.obj t5):=by rw [hfs6,ah (by decide+kernel)];exact own5
   have' hlf6:aj fs6 "leaf"=some (so sa k):=by rw [hfs6,ah (by decide+kernel),same5 _ (by decide+kernel)];exact hlf2
   intros
   refine kL hr6 (rT (.inl rfl)) f3 ⟨sa,N,bs,k,r,204,fs6,rfl,hr6,.inl rfl,hlf6,by exact Bl hfl hf2l len5 hf6l,S6,W,hk,.inr ⟨t5,hown6,ht6⟩,λhp7 j7 fs7 t7 K7 hr7 same7 own7 ht7 len7 hj7 l7=>?_⟩
   intros
   have' noown:∀x,gj.contains x=false->(x==("_own_legacy":Str))=false:=λx hx=>by
    rw [ID];intro e
    have':x="_own_legacy":=by simpa using e
    rw [this] at hx
    exact absurd hx (by decide+kernel)
   have' nomro:∀x,gj.contains x=false->(x==("_mro":Str))=false:=λx hx=>by
    rw [ID];intro e
    have':x="_mro":=by simpa using e
    rw [this] at hx
    exact absurd hx (by decide+kernel)
   have' sb7:SameBut fs fs7:=λx hx=>by
    rw [same7 x (noown x hx),hfs6,ah (nomro x hx),same5 x (noown x hx)]
    exact sb2 x hx
   have' hdir7:aj fs7 "direct_inconsistency"=some (.obj hp3.length):=by
    rw [same7 _ (by decide+kernel),hfs6,ah (by decide+kernel),same5 _ (by decide+kernel)]
    exact hdir2
   exact hQ _ fs7 (K6.trans K7) hr7 sb7 (.inr ⟨hp3.length,hdir7,K7 _ _ he6 (w66 hr3l)⟩) (w96 hf2l len5 hf6l len7) _ j7 hans hj7 (w98 hlen4 hl45 hl56 l7) (by omega)
  rw [Rz !3]
  refine ⟨rfl,?_⟩
  rw [Rz (by rw [show (gam fn).sub 59 100=false from rfl];decide)]
  exact hE _ K3 (by unfold fj;rw [hst];rfl)
def dn (N:Nat) (l:List Nat):Prop:=l.length≤1000∧∀x∈l,x<N
inductive Rd (hp:List O) (sa:Nat->Nat) (r:Nat) (l:List Nat):Prop
 |mk (fs:List (Str×V)) (t) (z1:hp[r]?=some (.inst 86 fs)) (z2:aj fs "mro"=none) (z3:aj fs "_mro"=some (.obj t)) (z4:hp[t]?=some (.tup (l.map (so sa)))) (z5:aj fs "had_inconsistency"=none):Rd hp sa r l
inductive Rv (hp:List O) (sa:Nat->Nat) (r:Nat) (l:List Nat) (Z:Nat->Prop):Prop
 |mk (C) (fs:List (Str×V)) (t) (z1:hp[r]?=some (.inst C fs)) (z2:P2 C) (z3:P5 fs) (z4:fs.length≤60) (z5:aj fs "_mro"=some (.obj t)) (z6:(hp[t]?=some (.tup (l.map (so sa)))∨(hp[t]?=some (.list (l.map (so sa)))∧¬Z t))) (z7:QW hp fs):Rv hp sa r l Z
inductive Rs (hp:List O) (sa:Nat->Nat) (N:Nat) (bs:Nat->List Nat) (r:Nat) (o:Option (List Nat)) (Z:Nat->Prop):Prop
 |mk (C) (k) (fs:List (Str×V)) (ps:PS) (z1:Q8 hp sa N r C k fs ps) (z2:fj C bs k (rwn ps)=o) (z3:(∀p∈ps,¬Z p.1)) (z4:∀bt,aj fs "base_tree"=some (.obj bt)->¬Z bt):Rs hp sa N bs r o Z
def PV (hp:List O) (sa:Nat->Nat) (N:Nat) (bs:Nat->List Nat) (Z:Nat->Prop) (r:Nat) (o:Option (List Nat)):Prop:=
 (∀l,o=some l->dn N l)∧((∃l,o=some l∧Rd hp sa r l)∨(∃l,o=some l∧Rv hp sa r l Z)∨Rs hp sa N bs r o Z)
theorem QW.keep (h:QW hp fs) (k:∀i:Nat,hp[i]?=some (O.exc 59)->hp'[i]?=some (O.exc 59)):QW hp' fs:=by
 rcases h with h|⟨e,h1,h2⟩
 ·exact .inl h
 exact .inr ⟨e,h1,k e h2⟩
def PY (hp:List O) (X Z:Nat->Prop):Prop:=∀i,X i->∀o,hp[i]?=some o->(Ex2 λC fs=>o=.inst C fs∧C≠336)∨(Ex2 λep kv=>o=.dict ep kv)∨(Z i∧∃vs,o=.list vs)
theorem P2.ne (h:P2 C):C≠336:=by rcases h with rfl|rfl<;>decide
section
variable {hp hp':List O} {X Z:Nat->Prop}
theorem PY.list (L:PY hp X Z) (k:PD hp hp' X) (h:hp[i]?=some (.list vs)) (n:¬Z i):hp'[i]?=some (.list vs):=k _ _ h λz=>by
 rcases L i z _ h with ⟨_,_,e,_⟩|⟨_,_,e⟩|⟨e,_⟩
 ·exact oNe e rfl
 ·exact oNe e rfl
 exact n e
theorem PY.tup (L:PY hp X Z) (k:PD hp hp' X) {i:Nat} {vs:List V} (h:hp[i]?=some (.tup vs)):hp'[i]?=some (.tup vs):=k _ _ h λz=>by
 rcases L i z _ h with ⟨_,_,e,_⟩|⟨_,_,e⟩|⟨_,_,e⟩<;>exact oNe e rfl
theorem PY.exc (L:PY hp X Z) (k:PD hp hp' X) {i C:Nat} (h:hp[i]?=some (.exc C)):hp'[i]?=some (.exc C):=k _ _ h λz=>by
 rcases L i z _ h with ⟨_,_,e,_⟩|⟨_,_,e⟩|⟨_,_,e⟩<;>exact oNe e rfl
theorem PY.specs (L:PY hp X Z) (k:PD hp hp' X) (S:PL hp sa N bs):PL hp' sa N bs:=S.keep k λi hi o ho=>by
 rcases L i hi o ho with ⟨C,fs,rfl,hC⟩|⟨ep,kv,rfl⟩|⟨_,vs,rfl⟩
 ·exact ⟨λfs' e=>(by injection e with e1 _;exact hC e1),λ_ e=>nomatch e⟩
 ·exact ⟨(λ_ e=>nomatch e),(λ_ e=>nomatch e)⟩
 exact ⟨(λ_ e=>nomatch e),(λ_ e=>nomatch e)⟩
theorem Q8.keep (F:Q8 hp sa N r C k fs ps) (L:PY hp X Z) (K:PD hp hp' X) (hr:¬X r) (n1:∀p∈ps,¬Z p.1) (n2:∀bt,aj fs "base_tree"=some (.obj bt)->¬Z bt):Q8 hp' sa N r C k fs ps:=
 {F with at_:=K _ _ F.at_ hr,tree:=let ⟨bt,h1,h2⟩:=F.tree;⟨bt,h1,L.list K h2 (n2 bt h1)⟩,rows:=λp hp=>L.list K (F.rows p hp) (n1 p hp)}
theorem PV.keep {sa:Nat->Nat} {N:Nat} {bs:Nat->List Nat} {r:Nat} {o:Option (List Nat)} (R:PV hp sa N bs Z r o) (L:PY hp X Z) (K:PD hp hp' X) (hr:¬X r):PV hp' sa N bs Z r o:=by
 refine ⟨R.1,?_⟩
 rcases R.2 with ⟨l,h,fs,t,h1,h2,h3,h4,h5⟩|⟨l,h,C,fs,t,h1,h2,h3,h4,h5,h6,h7⟩|⟨C,k,fs,ps,F,h,n1,n2⟩
 ·exact .inl ⟨l,h,fs,t,K _ _ h1 hr,h2,h3,L.tup K h4,h5⟩
 ·exact .inr (.inl ⟨l,h,C,fs,t,K _ _ h1 hr,h2,h3,h4,h5,h6.imp (L.tup K) (λz=>⟨L.list K z.1 z.2,z.2⟩),QW.keep h7 λi=>L.exc K⟩)
 exact .inr (.inr ⟨C,k,fs,ps,F.keep L K hr n1 n2,h,n1,n2⟩)
theorem cQ (h:hp[r]?=some (.inst C fs)) (hC:C≠336):PY hp (λi=>i=r) Z:=λi e o ho=>by
 subst e;rw [h] at ho;(replace ho:=ay ho;subst ho);exact .inl ⟨C,fs,rfl,hC⟩
theorem PV.up (R:PV hp sa N bs Z r o) (x:hp<+:hp'):PV hp' sa N bs Z r o:=
 R.keep (X:=λ_=>False) (λ_ h=>h.elim) (PD.of_ext x) id
theorem PV.more (R:PV hp sa N bs Z r o) (h:∀a,Z' a->Z a∨hp.length≤a):PV hp sa N bs Z' r o:=by
 have' g:∀{a:Nat} {o:O},hp[a]?=some o->¬Z a->¬Z' a:=λe n z=>(h _ z).elim n λq=>by have:=aE e;exact w14 q this
 refine ⟨R.1,?_⟩
 rcases R.2 with ⟨l,h,hS⟩|⟨l,h,C,fs,t,h1,h2,h3,h4,h5,h6,h7⟩|⟨C,k,fs,ps,F,h,n1,n2⟩
 ·exact .inl ⟨l,h,hS⟩
 ·exact .inr (.inl ⟨l,h,C,fs,t,h1,h2,h3,h4,h5,h6.imp id (λz=>⟨z.1,g z.1 z.2⟩),h7⟩)
 refine .inr (.inr ⟨C,k,fs,ps,F,h,λp hp=>g (F.rows p hp) (n1 p hp),λbt hbt=>?_⟩)
 obtain ⟨bt',h1,h2⟩:=F.tree
 rw [hbt] at h1;(replace h1:=lu h1;subst h1)
 exact g h2 (n2 bt hbt)
theorem PV.inst (R:PV hp sa N bs Z r o):Ex2 λC fs=>hp[r]?=some (.inst C fs)∧(C=86∨P2 C):=by
 rcases R.2 with ⟨l,h,fs,t,h1,_⟩|⟨l,h,C,fs,t,h1,h2,_⟩|⟨C,k,fs,ps,F,h⟩
 ·exact ⟨_,_,h1,.inl rfl⟩
 ·exact ⟨_,_,h1,.inr h2⟩
 exact ⟨_,_,F.at_,.inr F.cls⟩
theorem PV.ne (R:PV hp sa N bs Z r o):Ex2 λC fs=>hp[r]?=some (.inst C fs)∧C≠336:=by
 obtain ⟨C,fs,h,hC⟩:=R.inst
 exact ⟨C,fs,h,by rcases hC with rfl|hC;decide;exact hC.ne⟩
end
theorem PV.pure (R:PV hp sa N bs Z r o):∃b,fT "had_inconsistency" (.obj r) hp b:=by
 rcases R.2 with ⟨l,h,fs,t,h1,h2,h3,h4,h5⟩|⟨l,h,C,fs,t,h1,h2,h3,h4,h5,h6,h7⟩|⟨C,k,fs,ps,F,h⟩
 ·exact ⟨false,rfl,r,86,fs,rfl,h1,.inl ⟨rfl,h5,rfl⟩⟩
 ·rcases h7 with ⟨⟨b,hb⟩,hd⟩|⟨e,he1,he2⟩
  ·exact ⟨b,rfl,r,C,fs,rfl,h1,.inr ⟨h2,.inl ⟨hd,hb⟩⟩⟩
  exact ⟨true,rfl,r,C,fs,rfl,h1,.inr ⟨h2,.inr ⟨e,59,he1,he2,rfl⟩⟩⟩
 obtain ⟨b,hb⟩:=F.had
 exact ⟨b,rfl,r,C,fs,rfl,F.at_,.inr ⟨F.cls,.inl ⟨F.dir,hb⟩⟩⟩
inductive QH (hd:Bool) (vs:List V) (hp:List O) (Q:V->List O->Prop) (E:Nat->List O->Prop):Prop
 |mk (sa:Nat->Nat) (r) (l) (z1:vs=[.obj r]) (z2:l.length≤1000) (z3:Rd hp sa r l) (z4:Q (.obj hp.length) (hp++[.list (l.map (so sa))])):QH hd vs hp Q E
theorem uQ (h:QH hd vs hp Q E):
  aq (gam fn) 30 (aF (KH P) 83) (an (KH P) 83) (aD ["self"]) hd vs hp Q E:=by
 obtain ⟨sa,r,l,rfl,hl,⟨fs,t,h1,h2,h3,h4,h5⟩,hQ⟩:=h
 refine aJ (wt fn hd) rfl (by decide+kernel) ?_
 dsimp only [HT,Hi]
 intros
 refine bR h1 (!0) h3 ?_
 refine eX h4 (!2) ?_
 intros
 exact hQ
inductive QA (hd:Bool) (vs:List V) (hp:List O) (Q:V->List O->Prop) (E:Nat->List O->Prop):Prop
 |mk (sa:Nat->Nat) (self) (x) (t) (l) (z1:vs=[.obj self,x,.obj t]) (z2:hp[self]?=some (.inst 86 [])) (z3:hp[t]?=some (.tup (l.map (so sa)))) (z4:∀hp',PD hp hp' (λi=>i=self)->hp'.length=hp.length->Rd hp' sa self l->Q .none hp'):QA hd vs hp Q E
theorem pS (h:QA hd vs hp Q E):
  aq (gam fn) 30 (aF (KH P) 76) (an (KH P) 76) (aD ["self","C","mro"]) hd vs hp Q E:=by
 obtain ⟨sa,self,x,t,l,rfl,h1,h2,hQ⟩:=h
 refine aJ (wq fn hd) rfl (by decide+kernel) ?_
 dsimp only [HT,Hi]
 intros
 refine c7 h1 (.inl !0) (by simp) ?_
 have' h3:=bf (o:=O.inst 86 (aV [] "leaf" x)) h1
 have' t3:=aO (i:=self) (o:=O.inst 86 (aV [] "leaf" x)) (aw h1 h2 rfl) h2
 intros
 refine lV t3 ?_
 intros
 refine c7 h3 (.inl !0) (G2 (bB ..) !3) ?_
 intros
 refine hQ _ (PD.set (X:=λi=>i=self) (PD.set (X:=λi=>i=self) (PD.refl _ _) (.inl rfl)) (.inl rfl)) (by simp) ⟨_,t,bf h3,?_,br ..,?_,?_⟩
 ·rw [ah (by decide+kernel),ah (by decide+kernel)];rfl
 ·exact aO (aw h3 t3 rfl) t3
 rw [ah (by decide+kernel),ah (by decide+kernel)];rfl
inductive QG (hd:Bool) (vs:List V) (hp:List O) (Q:V->List O->Prop) (E:Nat->List O->Prop):Prop
 |mk (z1:hd=true) (sa:Nat->Nat) (N) (bs:Nat->List Nat) (Z:Nat->Prop) (r) (o) (z2:vs=[.obj r]) (z3:PL hp sa N bs) (z4:aX bs N) (z5:PV hp sa N bs Z r o) (z6:(Ex2 λC fs=>hp[r]?=some (.inst C fs)∧P2 C)) (z7:(∀l hp' j,o=some l->PD hp hp' (λi=>i=r)->PV hp' sa N bs Z r o->(Ex2 λC fs=>hp'[r]?=some (.inst C fs)∧P2 C)->hp'[j]?=some (.list (l.map (so sa)))->hp.length≤j->Q (.obj j) hp')) (z8:∀hp',o=none->PD hp hp' (λi=>i=r)->E 59 hp'):QG hd vs hp Q E
theorem yT (f1:fn 194 []=some QM) (h:QG hd vs hp Q E):
  aq (gam fn) 30 (aF (KH P) 201) (an (KH P) 201) (aD ["self"]) hd vs hp Q E:=by
 obtain ⟨rfl,sa,N,bs,Z,r,o,rfl,S,W,R,⟨C0,fs0,hr0,hC0⟩,hQ,hE⟩:=h
 refine aJ (tT fn true) rfl (by decide+kernel) ?_
 dsimp only [HT,Hi]
 intros
 rcases R.2 with ⟨l,h,fs,t,h1,_⟩|⟨l,rfl,C,fs,t,h1,h2,h3,h4,h5,h6,h7⟩|⟨C,k,fs,ps,F,ho,_,_⟩
 ·rw [h1] at hr0;(replace hr0:=fQ hr0;obtain ⟨e1,e2⟩:=hr0;subst e1;subst e2);rcases hC0 with h|h<;>exact nNe h rfl
 ·have hl:=(R.1 l rfl).1
  refine du h1 (eJ h2) (v:=.obj t) (by rw [h5];rfl) ?_
  intros
  refine vl ?_
  intros
  refine bN (λh=>nomatch h) λ_=>?_
  intros
  refine du h1 (eJ h2) (v:=.obj t) (by rw [h5];rfl) ?_
  rcases h6 with h6|⟨h6,_⟩
  ·refine eX h6 (!2) ?_
   intros
   exact hQ l _ _ rfl ((PD.refl _ _).app _) (R.up (GV _ _)) ⟨C,fs,af h1,h2⟩ ai (GW _)
  refine tx h6 (!2) ?_
  intros
  exact hQ l _ _ rfl ((PD.refl _ _).app _) (R.up (GV _ _)) ⟨C,fs,af h1,h2⟩ ai (GW _)
 have hC:=F.cls
 refine du F.at_ (eJ hC) (v:=.none) (by rw [F.mro];rfl) ?_
 intros
 refine qV ?_
 intros
 refine bN (λ_=>?_) λh=>nomatch h
 intros
 refine b4 (f:=194) F.at_ (hC.el (!0) !0) (F.noM _ (by simp)) ?_
 intros
 refine cG f1 ⟨rfl,sa,N,bs,r,C,k,fs,ps,rfl,S,W,F,λhp1 fs1 K1 hr1 sb1 had1 len1 l j hl hj hlj hl2=>?_,λhp1 K1 hn=>hE _ (ho.symm.trans hn) K1⟩
 rw [ho] at hl
 subst hl
 have hfl:=F.len
 have hl3:=(R.1 l rfl).1
 refine iT hj (!2) ?_
 intros
 have hr1l:=aE hr1
 refine c7 (af hr1) (.inr ⟨_,eJ hC⟩) (Dt len1 hfl) ?_
 have' hr2:=bf (o:=O.inst C (aV fs1 "_mro" (V.obj hp1.length))) (af (l:=[O.tup (l.map (so sa))]) hr1)
 have' ht2:=aO (i:=r) (o:=O.inst C (aV fs1 "_mro" (V.obj hp1.length))) (w8 hr1l) (ai (hp:=hp1) (o:=O.tup (l.map (so sa))))
 intros
 refine du hr2 (eJ hC) (v:=.obj hp1.length) (by rw [br];rfl) ?_
 refine eX ht2 (!2) ?_
 intros
 have K2:PD hp ((hp1++[O.tup (l.map (so sa))]).set r (O.inst C (aV fs1 "_mro" (V.obj hp1.length)))++[.list (l.map (so sa))]) (λi=>i=r):=PD.app (PD.set (K1.app _) (.inl rfl)) _
 have hlen:=K1.len hr1
 refine hQ l _ _ rfl K2 ⟨R.1,.inr (.inl ⟨l,rfl,C,_,hp1.length,af hr2,hC,?_,?_,br ..,.inl (af ht2),?_⟩)⟩ ⟨C,_,af hr2,hC⟩ ai (by simp;exact w3 hlen)
 ·exact (sb1.put (by decide+kernel)).noMeth F.noM
 ·have:=bB fs1 "_mro" (V.obj hp1.length);exact Ce len1 hfl this
 have hh:QW hp1 (aV fs1 "_mro" (V.obj hp1.length)):=by
  rcases had1 with ⟨h1,h2⟩|⟨e,h1,h2⟩
  ·exact .inl ⟨by obtain ⟨b,hb⟩:=h1;exact ⟨b,by rw [ah (by decide+kernel)];exact hb⟩,by rw [ah (by decide+kernel)];exact h2⟩
  exact .inr ⟨e,by rw [ah (by decide+kernel)];exact h1,h2⟩
 exact QW.keep hh λi hi=>af (aO (aw hr1 hi rfl) (af hi))
theorem jU {kv:List (Int×V)} {k:Int} {v:V} (h:(kv.map (·.1)).Nodup):((aV kv k v).map (·.1)).Nodup:=by
 rw [cw]
 split
 ·exact h
 rename_i n
 rw [JI]
 refine ⟨h,by simp,λu hu w hw=>?_⟩
 rw [GY.mp hw];rintro rfl;exact n hu
def i8 (Z:Nat->Prop) (n a:Nat):Prop:=Z a∨a=n
structure P1 (hp:List O) (mm ep:Nat) (kv:List (Int×V)) (sa:Nat->Nat) (N:Nat) (bs:Nat->List Nat) (ans:Nat->Option (List Nat)) (Z:Nat->Prop):Prop where
 at_:hp[mm]?=some (.dict ep kv)
 nd:(kv.map (·.1)).Nodup
 ok:∀k v,aj kv k=some v->Ex2 λ(kn r:Nat)=>QK (k=kn) (kn<N) (v=.obj r) (PV hp sa N bs Z r (ans kn))
 inj:∀k1 k2 v,aj kv k1=some v->aj kv k2=some v->k1=k2
theorem P1.len (M:P1 hp mm ep kv sa N bs ans Z) (hN:N≤7):kv.length≤7:=by
 have:=eF M.nd λx hx=>by
  obtain ⟨v,hv⟩:=cx hx
  obtain ⟨kn,r,h1,h2,_⟩:=M.ok x v hv
  exact DF hN h1 h2
 simpa using this
theorem P1.up (M:P1 hp mm ep kv sa N bs ans Z) (x:hp<+:hp'):P1 hp' mm ep kv sa N bs ans Z:=
 ⟨ae x M.at_,M.nd,λk v h=>let ⟨kn,r,h1,h2,h3,h4⟩:=M.ok k v h;⟨kn,r,h1,h2,h3,h4.up x⟩,M.inj⟩
theorem P1.keep (M:P1 hp mm ep kv sa N bs ans Z) (L:PY hp X Z) (K:PD hp hp' X) (h1:¬X mm) (h2:∀k i,aj kv k=some (.obj i)->¬X i):P1 hp' mm ep kv sa N bs ans Z:=
 ⟨K _ _ M.at_ h1,M.nd,λk v h=>let ⟨kn,r,g1,g2,g3,g4⟩:=M.ok k v h;⟨kn,r,g1,g2,g3,g4.keep L K (h2 k r (g3▸h))⟩,M.inj⟩
theorem P1.turn (M:P1 hp mm ep kv sa N bs ans Z) (hk:aj kv (kn:Nat)=some (.obj r)) (hr:hp[r]?=some (.inst C fs)) (hC:C≠336)
  (K:PD hp hp' (λi=>i=r)) (R:PV hp' sa N bs Z r (ans kn)):P1 hp' mm ep kv sa N bs ans Z:=by
 refine ⟨K _ _ M.at_ (aw M.at_ hr rfl),M.nd,λk v h=>?_,M.inj⟩
 obtain ⟨kn2,r2,g1,g2,g3,g4⟩:=M.ok k v h
 refine ⟨kn2,r2,g1,g2,g3,?_⟩
 by_cases e:r2=r
 ·subst e
  subst g3
  have:=M.inj _ _ _ h hk
  have:kn2=kn:=Ez g1 this
  rw [this];exact R
 exact g4.keep (cQ hr hC) K e
theorem P1.put (M:P1 hp mm ep kv sa N bs ans Z) (hN:kn<N) (R:PV hp sa N bs Z r (ans kn)) (hr:∀k,aj kv k≠some (.obj r)):
  P1 (hp.set mm (.dict ep' (aV kv (kn:Nat) (.obj r)))) mm ep' (aV kv (kn:Nat) (.obj r)) sa N bs ans Z:=by
 have L:PY hp (λi=>i=mm) Z:=λi e o ho=>by subst e;rw [M.at_] at ho;(replace ho:=ay ho;subst ho);exact .inr (.inl ⟨_,_,rfl⟩)
 have' K:PD hp (hp.set mm (.dict ep' (aV kv (kn:Nat) (.obj r)))) (λi=>i=mm):=PD.set (PD.refl _ _) (.inl rfl)
 have' nr:∀{i:Nat} {o:Option (List Nat)},PV hp sa N bs Z i o->i≠mm:=λR=>by
  obtain ⟨C,fs,h,_⟩:=R.inst
  exact aw h M.at_ rfl
 refine ⟨bf M.at_,jU M.nd,λk v h=>?_,λk1 k2 v h1 h2=>?_⟩
 ·rw [bx] at h
  split at h
  ·rename_i e
   (replace h:=ay h;subst h)
   exact ⟨kn,r,e.symm,hN,rfl,R.keep L K (nr R)⟩
  obtain ⟨kn2,r2,g1,g2,g3,g4⟩:=M.ok k v h
  exact ⟨kn2,r2,g1,g2,g3,g4.keep L K (nr g4)⟩
 rw [bx] at h1 h2
 split at h1
 ·rename_i e1
  split at h2
  ·rename_i e2;rw [<-e1,<-e2]
  (replace h1:=ay h1;subst h1);exact absurd h2 (hr k2)
 split at h2
 ·(replace h2:=ay h2;subst h2);exact absurd h1 (hr k1)
 exact M.inj _ _ _ h1 h2
def bT (C:Nat) (ans:Nat->Option (List Nat)) (bs:Nat->List Nat) (k:Nat):Option (List Nat):=match (bs k).mapM ans with
 |none=>none
 |some ls=>if (bs k).length=1 then some (k::ls.flatten) else fj C bs k ([k]::ls++[bs k])
def XI (self mm:Nat) (kv:List (Int×V)) (i:Nat):Prop:=i=self∨i=mm∨∃k,aj kv k=some (.obj i)
def eK (hp:List O) (kv kv':List (Int×V)):Prop:=(∀k v,aj kv k=some v->aj kv' k=some v)∧∀k i,aj kv' k=some (.obj i)->aj kv k=some (.obj i)∨hp.length≤i
inductive Qq (n:Nat) (hd:Bool) (vs:List V) (hp:List O) (Q:V->List O->Prop) (E:Nat->List O->Prop):Prop
 |mk (z1:hd=true) (sa:Nat->Nat) (N) (bs:Nat->List Nat) (ans:Nat->Option (List Nat)) (Z:Nat->Prop) (C) (k) (self) (mm) (ep) (kv:List (Int×V)) (z2:vs=[.obj self,so sa k,.obj mm]) (z3:hp[self]?=some (.inst C [])) (z4:P2 C) (z5:PL hp sa N bs) (z6:aX bs N) (z7:k<N) (z8:P1 hp mm ep kv sa N bs ans Z) (z9:(∀a,Z a->a<hp.length)) (z10:(∀j,aj kv j≠some (.obj self))) (z11:(∀b∈bs k,(aj kv (b:Nat)).isSome=true∨b<n)) (z12:(∀j<n,j<N->ans j=bT C ans bs j∧∀l,ans j=some l->dn N l)) (z13:(∀l,bT C ans bs k=some l->dn N l)) (z14:(∀hp' ep' kv',((bs k).mapM ans).isSome=true->PD hp hp' (XI self mm kv)->P1 hp' mm ep' kv' sa N bs ans Z->eK hp kv kv'->(∀j,aj kv' j≠some (.obj self))->PV hp' sa N bs Z self (bT C ans bs k)->(∃fs,hp'[self]?=some (.inst C fs))->Q .none hp')) (z15:∀hp',(bs k).mapM ans=none->PD hp hp' (XI self mm kv)->E 59 hp'):Qq n hd vs hp Q E
inductive Qr (C n:Nat) (hd:Bool) (vs:List V) (hp:List O) (Q:V->List O->Prop) (E:Nat->List O->Prop):Prop
 |mk (z1:hd=true) (sa:Nat->Nat) (N) (bs:Nat->List Nat) (ans:Nat->Option (List Nat)) (Z:Nat->Prop) (k) (s) (mm) (ep) (kv:List (Int×V)) (z2:vs=[s,so sa k,.obj mm]) (z3:PL hp sa N bs) (z4:aX bs N) (z5:k<N) (z6:P1 hp mm ep kv sa N bs ans Z) (z7:(∀a,Z a->a<hp.length)) (z8:(∀b∈bs k,(aj kv (b:Nat)).isSome=true∨b<n)) (z9:(∀j<n,j<N->ans j=bT C ans bs j∧∀l,ans j=some l->dn N l)) (z10:(∀l,bT C ans bs k=some l->dn N l)) (z11:(∀hp' ep' kv' r,((bs k).mapM ans).isSome=true->PD hp hp' (λi=>i=mm∨∃k,aj kv k=some (.obj i))->P1 hp' mm ep' kv' sa N bs ans Z->eK hp kv kv'->(∀j,aj kv' j≠some (.obj r))->PV hp' sa N bs Z r (bT C ans bs k)->hp.length≤r->Q (.obj r) hp')) (z12:∀hp',(bs k).mapM ans=none->PD hp hp' (λi=>i=mm∨∃k,aj kv k=some (.obj i))->E 59 hp'):Qr C n hd vs hp Q E
theorem fe (hC:P2 C) (n0:fn C []=none) (f1:fn 125 []=some F1) (hF:∀hd vs hp Q E,Qq n hd vs hp Q E->F1 hd vs hp Q E) (S:PL hp sa N bs) (W:aX bs N) (hk:k<N) (M:P1 hp mm ep kv sa N bs ans Z) (hZ:∀a,Z a->a<hp.length)
  (hb:∀b∈bs k,(aj kv (b:Nat)).isSome=true∨b<n) (hrec:∀j<n,j<N->ans j=bT C ans bs j∧∀l,ans j=some l->dn N l) (hok:∀l,bT C ans bs k=some l->dn N l)
  (hQ:∀hp' ep' kv' r,((bs k).mapM ans).isSome=true->PD hp hp' (λi=>i=mm∨∃k,aj kv k=some (.obj i))->P1 hp' mm ep' kv' sa N bs ans Z->eK hp kv kv'->(∀j,aj kv' j≠some (.obj r))->PV hp' sa N bs Z r (bT C ans bs k)->(∃fs,hp'[r]?=some (.inst C fs))->hp.length≤r->kk (.obj r) ⟨hp',m⟩ Q E)
  (hE:∀hp',(bs k).mapM ans=none->PD hp hp' (λi=>i=mm∨∃k,aj kv k=some (.obj i))->E 59 ⟨hp',m⟩):(az (gam fn) true (.ref C) [so sa k,.obj mm]>>=kk) ⟨hp,m⟩ Q E:=by
 have x:hp<+:hp++[O.inst C []]:=GV _ _
 have noself:∀j,aj kv j≠some (.obj hp.length):=λj h=>by
  obtain ⟨kn,r,_,_,h3,h4⟩:=M.ok _ _ h
  obtain ⟨C',fs,h5,_⟩:=h4.inst
  (replace h3:=iq h3;subst h3)
  have:=aE h5;exact w6 this
 refine nH n0 (hC.el rfl rfl) (f:=125) (hC.el rfl rfl) f1 (hF _ _ _ _ _ ⟨rfl,sa,N,bs,ans,Z,C,k,hp.length,mm,ep,kv,rfl,ai,hC,S.up x,W,hk,M.up x,(λa z=>G5 (hZ a z) (bH x)),noself,hb,hrec,hok,λhp' ep' kv' h1 K M' mo ns R hI=>?_,λhp' h1 K=>?_⟩)
 ·refine ⟨rfl,hQ hp' ep' kv' hp.length h1 (λi o ho hn=>K i o (af ho) λz=>?_) M' ⟨mo.1,λk i h=>(mo.2 k i h).imp id λz=>?_⟩ ns R hI (GW _)⟩
  ·rcases z with rfl|z
   ·have:=aE ho;exact w6 this
   exact hn z
  rw [G7] at z;exact BF z
 refine hE hp' h1 λi o ho hn=>K i o (af ho) λz=>?_
 rcases z with rfl|z
 ·have:=aE ho;exact w6 this
 exact hn z
theorem rX (n0:fn 204 []=none) (f1:fn 125 []=some (Qq n)) (h:Qr 204 n hd vs hp Q E):
  aq (gam fn) 30 (aF (KH P) 132) (an (KH P) 132) (aD ["self","base","memo"]) hd vs hp Q E:=by
 obtain ⟨rfl,sa,N,bs,ans,Z,k,s,mm,ep,kv,rfl,S,W,hk,M,hZ,hb,hrec,hok,hQ,hE⟩:=h
 refine aJ (tJ fn true) rfl (by decide+kernel) ?_
 dsimp only [HT,Hi]
 intros
 refine fe (.inl rfl) n0 f1 (λ_ _ _ _ _ h=>h) S W hk M hZ hb hrec hok (λhp' ep' kv' r h1 K M' mo ns R hI hr=>?_) hE
 intros
 exact hQ hp' ep' kv' r h1 K M' mo ns R hr
theorem rY (n0:fn 232 []=none) (f1:fn 125 []=some (Qq n)) (h:Qr 232 n hd vs hp Q E):
  aq (gam fn) 30 (aF (KH P) 222) (an (KH P) 222) (aD ["self","base","memo"]) hd vs hp Q E:=by
 obtain ⟨rfl,sa,N,bs,ans,Z,k,s,mm,ep,kv,rfl,S,W,hk,M,hZ,hb,hrec,hok,hQ,hE⟩:=h
 refine aJ (tU fn true) rfl (by decide+kernel) ?_
 dsimp only [HT,Hi]
 intros
 refine fe (.inr rfl) n0 f1 (λ_ _ _ _ _ h=>h) S W hk M hZ hb hrec hok (λhp' ep' kv' r h1 K M' mo ns R hI hr=>?_) hE
 intros
 exact hQ hp' ep' kv' r h1 K M' mo ns R hr
theorem PD.then (h:PD hp hp' X) (h':PD hp' hp'' Y) (s:∀i,Y i->X i∨hp.length≤i):PD hp hp'' X:=λi o e n=>h' i o (h i o e n) λz=>by
 rcases s i z with q|q
 ·exact n q
 have:=aE e;exact w14 q this
theorem Am (h:hp[i]?=some (.list vs)) (hl:vs.length≤lim) (hv:∀v∈vs,∃b,fT "had_inconsistency" v hp b) (h':∀b,k (.bool b) ⟨hp,m⟩ Q E):
  (mV (gam fn) true "had_inconsistency" (.obj i)>>=k) ⟨hp,m⟩ Q E:=by
 obtain ⟨bl,h1,h2⟩:∃bl:List Bool,bl.length=vs.length∧∀(i:Nat) w b,vs[i]?=some w->bl[i]?=some b->fT "had_inconsistency" w hp b:=by
  clear h hl h'
  induction vs with
  |nil=>exact ⟨[],rfl,λi w b e=>by simp at e⟩
  |cons v vs ih=>
   obtain ⟨bl,i1,i2⟩:=ih λv hv'=>hv v (.tail _ hv')
   obtain ⟨b,hb⟩:=hv v (.head _)
   refine ⟨b::bl,by simp [i1],λi w b' e1 e2=>?_⟩
   induction i using Hn with
   |zero=>simp at e1 e2;subst e1;subst e2;exact hb
   |succ i=>simp at e1 e2;exact i2 i w b' e1 e2
 show (mV (gam fn) true "had_inconsistency" (.obj i)) _ _ _
 unfold mV
 refine ⟨rfl,au h ⟨hl,?_⟩⟩
 exact ⟨bl,h1,h2,h' _⟩
theorem mw (f1:fn 83 []=some QH) (f2:fn 201 []=some QG) (S:PL hp sa N bs) (W:aX bs N) (R:PV hp sa N bs Z r o)
  (hQ:∀l hp' j,o=some l->PD hp hp' (λi=>i=r)->PV hp' sa N bs Z r o->hp'[j]?=some (.list (l.map (so sa)))->hp.length≤j->kk (.obj j) ⟨hp',m⟩ Q E) (hE:∀hp',o=none->PD hp hp' (λi=>i=r)->E 59 ⟨hp',m⟩):
  (aA (gam fn) (.obj r) "mro">>=λmt=>ax (gam fn) true (.obj r) "mro" mt []>>=kk) ⟨hp,m⟩ Q E:=by
 obtain ⟨C,fs,hr,hC⟩:=R.inst
 rcases hC with rfl|hC
 ·rcases R.2 with ⟨l,rfl,fs',t,h1,h2,h3,h4,h5⟩|⟨l,h,C,fs',t,h1,h2,_⟩|⟨C,k,fs',ps,F,h⟩
  ·refine b4 (f:=83) h1 (!0) h2 ?_
   refine cG f1 ⟨sa,r,l,rfl,(R.1 l rfl).1,⟨fs',t,h1,h2,h3,h4,h5⟩,?_⟩
   exact hQ l _ _ rfl ((PD.refl _ _).app _) (R.up (GV _ _)) ai (GW _)
  ·rw [hr] at h1;(replace h1:=fQ h1;obtain ⟨e1,e2⟩:=h1;subst e1;subst e2);rcases h2 with h|h<;>exact nNe h rfl
  have:=F.at_;rw [hr] at this;(replace this:=fQ this;obtain ⟨e1,e2⟩:=this;subst e1;subst e2);rcases F.cls with h|h<;>exact nNe h rfl
 have nm:aj fs "mro"=none:=by
  rcases R.2 with ⟨l,h,fs',t,h1,_⟩|⟨l,h,C',fs',t,h1,h2,h3,_⟩|⟨C',k,fs',ps,F,h⟩
  ·rw [hr] at h1;(replace h1:=fQ h1;obtain ⟨e1,e2⟩:=h1;subst e1;subst e2);rcases hC with h|h<;>exact nNe h rfl
  ·rw [hr] at h1;(replace h1:=fQ h1;obtain ⟨e1,e2⟩:=h1;subst e1;subst e2);exact h3 _ (by simp)
  have:=F.at_;rw [hr] at this;(replace this:=fQ this;obtain ⟨e1,e2⟩:=this;subst e1;subst e2);exact F.noM _ (by simp)
 refine b4 (f:=201) hr (hC.el (!0) !0) nm ?_
 exact cG f2 ⟨rfl,sa,N,bs,Z,r,o,rfl,S,W,R,⟨C,fs,hr,hC⟩,λl hp' j ho K R' _ hj hl=>hQ l hp' j ho K R' hj hl,λhp' ho K=>hE hp' ho K⟩
theorem jV (h:pre.mapM f=some ls) (hb:f b=some l):(pre++[b]).mapM f=some (ls++[l]):=by
 rw [List.mapM_append,h]
 simp [Ie,hb]
theorem ff {f:Nat->Option (List Nat)} {l:List Nat} {b:Nat} (hm:b∈l) (hb:f b=none):l.mapM f=none:=by
 induction l with
 |nil=>cases hm
 |cons a l ih=>
  rw [Ie]
  rcases G0.mp hm with rfl|hm
  ·rw [hb];rfl
  rw [ih hm];cases f a<;>rfl
theorem P1.more (M:P1 hp mm ep kv sa N bs ans Z) (h:∀a,Z' a->Z a∨hp.length≤a):P1 hp mm ep kv sa N bs ans Z':=
 ⟨M.at_,M.nd,λk v h'=>let ⟨kn,r,h1,h2,h3,h4⟩:=M.ok k v h';⟨kn,r,h1,h2,h3,h4.more h⟩,M.inj⟩
def XM (mm:Nat) (kv:List (Int×V)) (i:Nat):Prop:=i=mm∨∃k,aj kv k=some (.obj i)
theorem P1.loose (M:P1 hp mm ep kv sa N bs ans Z):PY hp (XM mm kv) Z:=λi hi o ho=>by
 rcases hi with rfl|⟨k,hk⟩
 ·rw [M.at_] at ho;(replace ho:=ay ho;subst ho);exact .inr (.inl ⟨_,_,rfl⟩)
 obtain ⟨kn,r,_,_,h3,h4⟩:=M.ok k _ hk
 (replace h3:=iq h3;subst h3)
 obtain ⟨C,fs,h,hC⟩:=h4.ne
 rw [h] at ho;(replace ho:=ay ho;subst ho)
 exact .inl ⟨C,fs,rfl,hC⟩
theorem P1.notin (M:P1 hp mm ep kv sa N bs ans Z) (h:hp[i]?=some (.list vs)):¬XM mm kv i:=by
 rintro (rfl|⟨k,hk⟩)
 ·rw [M.at_] at h;exact gr h rfl
 obtain ⟨kn,r,_,_,h3,h4⟩:=M.ok k _ hk
 (replace h3:=iq h3;subst h3)
 obtain ⟨C,fs,h5,_⟩:=h4.ne
 rw [h] at h5;exact gr h5 rfl
inductive II (hp:List O) (self mm:Nat) (kv:List (Int×V)) (C:Nat) (fs2:List (Str×V)) (sa:Nat->Nat) (N:Nat) (bs:Nat->List Nat) (t k:Nat) (ans:Nat->Option (List Nat)) (Z:Nat->Prop) (pre:List Nat) (hp':List O) (m:bY):Prop
 |mk (z1:PD hp hp' (XI self mm kv)) (z2:hp'[self]?=some (.inst C fs2)) (z3:PL hp' sa N bs) (z4:hp'[t]?=some (.tup ((bs k).map (so sa)))) (z5:m "self"=some (.obj self)) (z6:m "C"=some (so sa k)) (z7:m "memo"=some (.obj mm)) (z8:m "base_resolvers"=some (.obj hp.length)) (ep') (kv') (brs:List V) (z9:P1 hp' mm ep' kv' sa N bs ans (i8 Z hp.length)) (z10:eK hp kv kv') (z11:(∀j,aj kv' j≠some (.obj self))) (z12:hp'[hp.length]?=some (.list brs)) (z13:brs.length=pre.length) (z14:(∀v∈brs,∃j,aj kv' j=some v)) (z15:∀b∈pre,(aj kv' (b:Nat)).isSome=true):II hp self mm kv C fs2 sa N bs t k ans Z pre hp' m
inductive RI (hp hp4:List O) (kv3:List (Int×V)) (t4 k:Nat) (bs:Nat->List Nat) (sa:Nat->Nat) (N mm ep3:Nat) (ans:Nat->Option (List Nat)) (Z:Nat->Prop) (pre:List Nat) (acc:List V) (hp':List O):Prop
 |mk (z1:PD hp4 hp' (λi=>∃j,aj kv3 j=some (.obj i))) (z2:hp'[t4]?=some (.tup ((bs k).map (so sa)))) (z3:PL hp' sa N bs) (z4:P1 hp' mm ep3 kv3 sa N bs ans (i8 Z hp.length)) (z5:hp4.length≤hp'.length) (ps:PS) (z6:acc=ps.map adn) (z7:Qe hp' sa ps) (z8:pre.mapM ans=some (rwn ps)) (z9:∀p∈ps,dn N p.2∧hp4.length≤p.1):RI hp hp4 kv3 t4 k bs sa N mm ep3 ans Z pre acc hp'
theorem uR {P:Ko} {fn:FnT} {hd:Bool} {vs:List V} {hp:List O} {Q:V->List O->Prop} {E:Nat->List O->Prop} {n:Nat} (f1:fn 83 []=some QH) (f2:fn 201 []=some QG) (f3:∀n',n=n'+1->fn 132 []=some (Qr 204 n')) (f4:∀n',n=n'+1->fn 222 []=some (Qr 232 n'))
  (h:Qq n hd vs hp Q E):aq (gam fn) 30 (aF (KH P) 125) (an (KH P) 125) (aD ["self","C","memo"]) hd vs hp Q E:=by
 obtain ⟨rfl,sa,N,bs,ans,Z,C,k,self,mm,ep,kv,rfl,hself,hC,S,W,hk,M,hZ,hns,hbb,hrec,hok,hQ,hE⟩:=h
 have' N7:=S.N7
 have' hb3:=(S.few k hk).1
 have' hbN:=(S.few k hk).2
 refine aJ (tI fn true) rfl (by decide+kernel) ?_
 dsimp only [HT,Hi]
 intros
 refine ba hself (.inl (hC.el (!0) !0)) (by simp) λhp1 fs1 hfs1 l1 K1 hs1=>?_
 intros
 refine ba hs1 (.inl (hC.el (!0) !0)) (by rw [hfs1];exact G2 (bB ..) !3) λhp2 fs2 hfs2 l2 K2 hs2=>?_
 replace K2:=K1.trans K2
 have' hl2:=l2.trans l1
 have' L2:PY hp (λi=>i=self) Z:=cQ hself hC.ne
 have' S2:=L2.specs K2 S
 have' hmmself:mm≠self:=aw M.at_ hself rfl
 have' M2:P1 hp2 mm ep kv sa N bs ans Z:=M.keep L2 K2 hmmself λj i h e=>hns j (e▸h)
 have' M2:P1 hp2 mm ep kv sa N bs ans (i8 Z hp.length):=M2.more λa h=>h.imp id λe=>by rw [hl2];exact w67 e
 intros
 refine c0 (!2) λhpb jb xb ejb _ hjb=>?_
 obtain rfl:jb=hp.length:=ejb.trans hl2
 intros
 refine c5 (S2.up xb) hk λt ht=>?_
 refine fF ht (!2) ?_
 have' hselfl:=aE hself
 refine bA (f:=so sa) (xs:=bs k) rfl (II hp self mm kv C fs2 sa N bs t k ans Z)
  ⟨(PD.sub K2 λi h _=>.inl h).trans (PD.of_ext xb),ae xb hs2,S2.up xb,ht,!1,!1,!1,!1,ep,kv,[],M2.up xb,⟨λ_ _ h=>h,λ_ _ h=>.inl h⟩,hns,hjb,rfl,(λ_ h=>nomatch h),(λ_ h=>nomatch h)⟩ ?_ ?_ ?_
 ·rintro pre hp' m ⟨_,_,_,h,_⟩;exact h
 ·rintro pre b post hp3 m3 V3 e ⟨K3,hs3,S3,ht3,hm1,hm2,hm3,hm4,ep3,kv3,brs,M3,mo3,ns3,hbr,hbl,hbv,hbp⟩ hV
  have' hbm:b∈bs k:=b0 e
  have' hb:b<N:=hbN b hbm
  have' hprel:pre.length≤2:=by have':=congrArg HW e;simp at this;exact w44 hb3 this
  refine lR ?_
  refine q0 λKK hK=>?_
  have' fin:∀hp4 m4 ep4 kv4,PD hp hp4 (XI self mm kv)->hp4[self]?=some (.inst C fs2)->PL hp4 sa N bs->hp4[t]?=some (.tup ((bs k).map (so sa)))->m4 "self"=some (.obj self)->m4 "C"=some (so sa k)->m4 "memo"=some (.obj mm)->m4 "base_resolvers"=some (.obj hp.length)->m4 "base"=some (so sa b)->
    P1 hp4 mm ep4 kv4 sa N bs ans (i8 Z hp.length)->eK hp kv kv4->(∀j,aj kv4 j≠some (.obj self))->hp4[hp.length]?=some (.list brs)->(∀v∈brs,∃j,aj kv4 j=some v)->(∀b∈pre,(aj kv4 (b:Nat)).isSome=true)->(aj kv4 (b:Nat)).isSome=true->KK .next ⟨hp4,m4⟩:=by
   intro hp4 m4 ep4 kv4 K4 hs4 S4 ht4 g1 g2 g3 g4 g5 M4 mo4 ns4 hbr4 hbv4 hbp4 hbi
   obtain ⟨v,hv⟩:=HY.mp hbi
   intros
   refine ct hbr4 (!3) ?_
   intros
   refine gi S4 hb ?_
   refine cR M4.at_ hv ?_
   refine ck hbr4 (!2) ?_
   intros
   have' L5:PY hp4 (λi=>i=hp.length) (i8 Z hp.length):=λi hi o ho=>by
    subst hi;rw [hbr4] at ho;(replace ho:=ay ho;subst ho);exact .inr (.inr ⟨.inr rfl,_,rfl⟩)
   have' K5:PD hp4 (hp4.set hp.length (.list (brs++[v]))) (λi=>i=hp.length):=PD.set (X:=λi=>i=hp.length) (PD.refl _ _) (.inl rfl)
   refine hV _ _ ⟨K4.set (.inr (GW _)),K5 _ _ hs4 (aw hs4 hbr4 rfl),L5.specs K5 S4,L5.tup K5 ht4,!1,!1,!1,!1,ep4,kv4,brs++[v],
    M4.keep L5 K5 (aw M4.at_ hbr4 rfl) (λj i hj e=>?_),mo4,ns4,bf hbr4,by simp [hbl],λw hw=>?_,λc hc=>?_⟩
   ·exact M4.notin hbr4 (e▸.inr ⟨j,hj⟩)
   ·rcases G8.mp hw with hw|hw
    ·exact hbv4 w hw
    rw [GY.mp hw];exact ⟨_,hv⟩
   rcases G8.mp hc with hc|hc
   ·exact hbp4 c hc
   rw [GY.mp hc];exact hbi
  clear hK
  intros
  refine gi S3 hb ?_
  intros
  refine qX M3.at_ ?_
  intros
  refine bN (λhc=>?_) λhc=>?_
  ·have' hnone:aj kv3 (b:Nat)=none:=by
    induction e:aj kv3 (b:Nat) with
    |none=>rfl
    |some v=>rw [e] at hc;exact nFT hc
   have' hbn:b<n:=by
    rcases hbb b hbm with h|h
    ·obtain ⟨v,hv⟩:=HY.mp h
     rw [mo3.1 _ _ hv] at hnone;exact nSN hnone
    exact h
   obtain ⟨n',rfl⟩:∃n',n=n'+1:=⟨n-1,by exact CS hbn⟩
   obtain ⟨hans,hansok⟩:=hrec b hbn hb
   have' hsub:∀i,XM mm kv3 i->XI self mm kv i∨hp.length≤i:=λi hi=>by
    rcases hi with e0|⟨j,hj⟩
    ·subst i;exact .inl (.inr (.inl rfl))
    exact (mo3.2 j i hj).imp (λh=>.inr (.inr ⟨j,h⟩)) id
   have' hno:aj fs2 "_same_kind"=none:=by rw [hfs2,ah (by decide+kernel),hfs1,ah (by decide+kernel)];rfl
   have' hF:Qr C n' true [.obj self,so sa b,.obj mm] hp3 (λv hp'=>(al "resolver" v>>=λ_=>rz (gam fn) true) ⟨hp',upd m3 "base" (so sa b)⟩ KK (λC st'=>E C st'.hp)) (λC hp'=>E C hp'):=by
    refine ⟨rfl,sa,N,bs,ans,_,b,.obj self,mm,ep3,kv3,rfl,S3,W,hb,M3,λa ha=>?_,λb' hb'=>.inr ?_,λj hj hjN=>hrec j (w20 hj) hjN,λl hl=>hansok l (hans.trans hl),λhp5 ep5 kv5 r5 h5 K5 M5 mo5 ns5 R5 hr5=>?_,λhp5 h5 K5=>?_⟩
    ·rcases ha with ha|rfl
     ·have':=hZ a ha;have':=aE hbr;exact BM ‹_› this
     exact aE hbr
    ·have':=(W.2 b hb).2 b' hb';exact BH hbn this
    ·have' L5:=M3.loose
     have' hs5:=K5 _ _ hs3 (by
      rintro (e|⟨j,hj⟩)
      ·exact hmmself e.symm
      exact ns3 j hj)
     have' hbr5:=K5 _ _ hbr (M3.notin hbr)
     have' S5:=L5.specs K5 S3
     have' ht5:=L5.tup K5 ht3
     intros
     refine gi S5 hb ?_
     refine c8 M5.at_ (by have':=M5.len N7;simp only [lim];exact w4 this) λep6 _=>?_
     intros
     have' L6:PY hp5 (λi=>i=mm) (i8 Z hp.length):=λi e o ho=>by subst e;rw [M5.at_] at ho;(replace ho:=ay ho;subst ho);exact .inr (.inl ⟨_,_,rfl⟩)
     have' K6:PD hp5 (hp5.set mm (.dict ep6 (aV kv5 (b:Nat) (.obj r5)))) (λi=>i=mm):=PD.set (X:=λi=>i=mm) (PD.refl _ _) (.inl rfl)
     have' M6:=M5.put (ep':=ep6) hb (by rw [hans];exact R5) ns5
     have' more:∀j v,aj kv3 j=some v->aj (aV kv5 (b:Nat) (.obj r5)) j=some v:=λj v h=>by
      rw [bx,Rz]
      ·exact mo5.1 j v h
      intro e;rw [<-e,hnone] at h;exact nNS h
     have' hr5l:hp.length≤r5:=by have':=aE hbr;exact w53 hr5 this
     refine fin _ _ ep6 (aV kv5 (b:Nat) (.obj r5)) ?_ (K6 _ _ hs5 (aw hs5 M5.at_ rfl)) (L6.specs K6 S5) (L6.tup K6 ht5) (!1) (!1) (!1) (!1) (!1) M6
      ⟨λj v h=>more j v (mo3.1 j v h),λj i h=>?_⟩ (λj h=>?_) (K6 _ _ hbr5 (aw hbr5 M5.at_ rfl)) (λv hv=>let ⟨j,hj⟩:=hbv v hv;⟨j,more j v hj⟩) (λc hc=>?_) ?_
     ·exact (K3.then K5 hsub).then K6 λi e=>.inl (.inr (.inl e))
     ·rw [bx] at h
      split at h
      ·(replace h:=lu h;subst h);exact .inr hr5l
      rcases mo5.2 j i h with h|h
      ·exact mo3.2 j i h
      exact .inr (by have':=aE hbr;exact w53 h this)
     ·rw [bx] at h
      split at h
      ·(replace h:=lu h;subst h);exact w9 hselfl hr5l
      rcases mo5.2 j self h with h|h
      ·exact ns3 j h
      have':=aE hbr;exact BU hselfl h this
     ·obtain ⟨v,hv⟩:=HY.mp (hbp c hc)
      rw [more _ v hv];rfl
     rw [bx,RA rfl];rfl
    refine hE hp5 (ff hbm ?_) (K3.then K5 hsub)
    rw [hans];unfold bT;rw [h5]
   intros
   rcases hC with rfl|rfl
   ·refine b4 (f:=132) hs3 (!0) hno ?_
    intros
    exact cG (f3 n' rfl) hF
   refine b4 (f:=222) hs3 (!0) hno ?_
   intros
   exact cG (f4 n' rfl) hF
  intros
  refine fin _ _ ep3 kv3 K3 hs3 S3 ht3 (!1) (!1) (!1) (!1) (!1) M3 mo3 ns3 hbr hbv hbp ?_
  induction e:aj kv3 (b:Nat) with
  |none=>rw [e] at hc;exact nTF hc
  |some v=>rfl
 rintro hp3 m3 ⟨K3,hs3,S3,ht3,hm1,hm2,hm3,hm4,ep3,kv3,brs,M3,mo3,ns3,hbr,hbl,hbv,hbp⟩
 have' hsub:∀i,(∃j,aj kv3 j=some (.obj i))->XI self mm kv i∨hp.length≤i:=λi ⟨j,hj⟩=>(mo3.2 j i hj).imp (λh=>.inr (.inr ⟨j,h⟩)) id
 intros
 refine c0 (!2) λhpa j1 xa ea la ha=>?_
 subst ea
 refine c0 (!2) λhp4 j2 xb eb lb hj2=>?_
 intros
 have' x4:=xa.trans xb
 have' hj1:=ae xb ha
 have' hl4:hp4.length=hp3.length+2:=by rw [lb,la]
 have' K4:PD hp hp4 (XI self mm kv):=K3.trans (PD.of_ext x4)
 have' hs4:=ae x4 hs3
 have' S4:=S3.up x4
 have' M4:=M3.up x4
 have' hbr4:=ae x4 hbr
 have' h3l:=aE hbr
 refine c5 S4 hk λt4 ht4=>?_
 refine fF ht4 (!2) ?_
 have' notin:∀{i:Nat} {vs:List V},hp4[i]?=some (.list vs)->¬∃j,aj kv3 j=some (.obj i):=λh z=>M4.notin h (.inr z)
 refine eD (f:=so sa) (xs:=bs k) (RI hp hp4 kv3 t4 k bs sa N mm ep3 ans Z) rfl
  ⟨PD.refl _ _,ht4,S4,M4,GW _,[],rfl,(λ_ h=>nomatch h),rfl,(λ_ h=>nomatch h)⟩ (λpre acc hp' ⟨_,h,_,_,_,_,_,_,_,_⟩=>h) ?_ ?_
 ·rintro pre b post acc hp5 W' E' e ⟨K5,ht5,S5,M5,hl5,ps,rfl,R5,hmp,hps⟩ hW hE'
  have' hbm:b∈bs k:=b0 e
  have' hb:b<N:=hbN b hbm
  obtain ⟨v,hv⟩:=HY.mp (hbp b hbm)
  obtain ⟨kn,r,q1,q2,rfl,Rr⟩:=M5.ok _ _ hv
  have' hkn:kn=b:=w55 q1
  subst hkn
  obtain ⟨C',fs',hr,hC'⟩:=Rr.ne
  refine dl ?_
  intros
  refine gi S5 hb ?_
  refine cR M5.at_ hv ?_
  refine b7 (mw f1 f2 S5 W Rr (λl hp6 j ho K6 R6 hj hlj=>?_) λhp6 ho K6=>?_)
  ·have' L6:PY hp5 (λi=>i=r) (i8 Z hp.length):=cQ hr hC'
   intros
   refine hW (some _) _ ⟨K5.then K6 λi e=>.inl ⟨_,e▸hv⟩,L6.tup K6 ht5,L6.specs K6 S5,M5.turn hv hr hC' K6 R6,?_,ps++[(j,l)],by simp [adn],λp hp=>?_,?_,λp hp=>?_⟩
   ·obtain ⟨C6,fs6,hr6,_⟩:=R6.inst
    exact G2 hl5 (K6.len hr6)
   ·rcases G8.mp hp with hp|hp
    ·exact K6 _ _ (R5 p hp) (aw (R5 p hp) hr rfl)
    rw [GY.mp hp];exact hj
   ·rw [jV hmp ho];simp
   rcases G8.mp hp with hp|hp
   ·exact hps p hp
   rw [GY.mp hp];exact ⟨Rr.1 l ho,by show hp4.length≤j;exact Cn hl5 hlj⟩
  refine hE' 59 hp6 _ ?_
  refine hE hp6 (ff hbm ho) ?_
  exact (K4.then K5 hsub).then K6 λi e=>hsub i ⟨_,e▸hv⟩
 rintro acc hp5 ⟨K5,ht5,S5,M5,hl5,ps,rfl,R5,hmp,hps⟩
 have' K5':PD hp hp5 (XI self mm kv):=K4.then K5 hsub
 have' hs5:=K5 _ _ hs4 (λ⟨j,hj⟩=>ns3 j hj)
 have' hj15:=K5 _ _ hj1 (notin hj1)
 have' hj25:=K5 _ _ hj2 (notin hj2)
 have' hbr5:=K5 _ _ hbr4 (notin hbr4)
 have' hpsl:ps.length=(bs k).length:=by
  have':=congrArg (JZ HW) hmp
  have' h2:∀l:List Nat,∀ls,l.mapM ans=some ls->ls.length=l.length:=by
   intro l
   induction l with
   |nil=>intro ls h;simp at h;subst h;rfl
   |cons a l ih=>
    intro ls h
    rw [Ie] at h
    induction ha:ans a with
    |none=>rw [ha] at h;exact nNS h
    |some x=>
     rw [ha] at h
     induction hl:l.mapM ans with
     |none=>rw [hl] at h;exact nNS h
     |some xs=>rw [hl] at h;(replace h:=ay h;subst h);simp [ih xs hl]
  have':=h2 _ _ hmp
  simpa using this
 refine c0 (!2) λhq1 jq1 y1 _ _ g1=>?_
 refine rV (ae y1 hj25) g1 (!2) λhq2 jq2 y2 _ g2=>?_
 intros
 refine c5 ((S5.up y1).up y2) hk λt6 ht6=>?_
 refine uO ht6 (!2) λhq3 jl y3 ejl hjl=>?_
 refine c0 (!2) λhq4 jq4 y4 _ _ g4=>?_
 refine rV (ae y4 (ae y3 g2)) g4 (!2) λhp6 jt y5 ejt hjt=>?_
 intros
 replace hjl:=ae y5 (ae y4 hjl)
 replace y2:=y1.trans y2
 have' hlj:hp5.length≤jl:=by rw [ejl];exact y2.length_le
 replace y4:=y2.trans (y3.trans y4)
 have' hlt':hp5.length≤jt:=by rw [ejt];exact y4.length_le
 have' x56:=y4.trans y5
 have' hs6:=ae x56 hs5
 have' S6:=S5.up x56
 have' M6:=M5.up x56
 have' hbr6:=ae x56 hbr5
 have' hfs2l:fs2.length≤2:=by rw [hfs2,hfs1];exact G2 (bB ..) (JN (bB ..))
 refine ba hs6 (.inl (oJ hC)) (Eb hfs2l) λhp7 fs3 hfs3 _ K67 hs7=>?_
 have' L6:PY hp6 (λi=>i=self) (i8 Z hp.length):=cQ hs6 hC.ne
 have' M7:=M6.keep L6 K67 hmmself (λj i h e=>ns3 j (e▸h))
 have' S7:=L6.specs K67 S6
 have' l7:∀{i:Nat} {vs:List V},hp6[i]?=some (.list vs)->hp7[i]?=some (.list vs):=λh=>K67 _ _ h (aw h hs6 rfl)
 have' K7:PD hp hp7 (XI self mm kv):=(K5'.trans (PD.of_ext x56)).then K67 λi e=>.inl (.inl e)
 have' hjl7:=l7 hjl
 have' hjt7:=l7 hjt
 have' hbr7:=l7 hbr6
 have' hk7:=l7 (ae x56 hj15)
 have' R7:Qe hp7 sa ps:=λp hp=>l7 (ae x56 (R5 p hp))
 clear l7
 intros
 refine qU rfl ?_
 intros
 refine Am hbr7 (!2) (λv hv=>?_) λbh=>?_
 ·obtain ⟨j,hj⟩:=hbv v hv
  obtain ⟨kn,r,_,_,rfl,Rr⟩:=M7.ok _ _ hj
  exact Rr.pure
 intros
 refine ba hs7 (.inl (hC.el (!0) !0)) (by have':=bB fs2 "base_tree" (V.obj jt);rw [<-hfs3] at this;exact Dd hfs2l this) λhp8 fs4 hfs4 _ K78 hs8=>?_
 have' L7:PY hp7 (λi=>i=self) (i8 Z hp.length):=cQ hs7 hC.ne
 have' M8:=M7.keep L7 K78 hmmself (λj i h e=>ns3 j (e▸h))
 have' S8:=L7.specs K78 S7
 have' l8:∀{i:Nat} {vs:List V},hp7[i]?=some (.list vs)->hp8[i]?=some (.list vs):=λh=>K78 _ _ h (aw h hs7 rfl)
 have' K8:PD hp hp8 (XI self mm kv):=K7.then K78 λi e=>.inl (.inl e)
 have' hjl8:=l8 hjl7
 have' hjt8:=l8 hjt7
 have' hk8:=l8 hk7
 have' R8:Qe hp8 sa ps:=λp hp=>l8 (R7 p hp)
 have' hlen8:hp.length<hp8.length:=aE (l8 hbr7)
 clear l8
 have' hfs4l:fs4.length≤4:=by have' h1:=bB fs3 "bases_had_inconsistency" (V.bool bh);have' h2:=bB fs2 "base_tree" (V.obj jt);rw [<-hfs4] at h1;rw [<-hfs3] at h2;exact B9 hfs2l h1 h2
 have' hnoM:P5 fs4:=by
  rw [hfs4,hfs3,hfs2,hfs1]
  refine P5.put (P5.put (P5.put (P5.put (λ_ _=>rfl) ?_) ?_) ?_) ?_<;>decide+kernel
 have' hlf:aj fs4 "leaf"=some (so sa k):=by rw [hfs4,ah (by decide+kernel),hfs3,ah (by decide+kernel),hfs2,ah (by decide+kernel),hfs1];exact br ..
 have' g0:∀x:Str,(x==("leaf":Str))=false->(x==("memo":Str))=false->(x==("base_tree":Str))=false->(x==("bases_had_inconsistency":Str))=false->aj fs4 x=none:=λx h1 h2 h3 h4=>by
  rw [hfs4,ah h4,hfs3,ah h3,hfs2,ah h2,hfs1,ah h1];rfl
 have' hhad:aj fs4 "bases_had_inconsistency"=some (.bool bh):=by rw [hfs4];exact br ..
 have' htr:aj fs4 "base_tree"=some (.obj jt):=by rw [hfs4,ah (by decide+kernel),hfs3];exact br ..
 have' Zlt:∀a,hp.length≤a->¬Z a:=λa h z=>by have':=hZ a z;exact w14 h this
 have' hsome:((bs k).mapM ans).isSome=true:=by rw [hmp];rfl
 intros
 refine c5 S8 hk λt8 ht8=>?_
 refine wg ht8 (!2) ?_
 rw [G6]
 refine vr ?_
 intros
 refine bN (λhc=>?_) λhc=>?_
 ·have' h1:(bs k).length=1:=DK (by simpa using hc)
  obtain ⟨b,hbe⟩:∃b,bs k=[b]:=by
   induction hbk:bs k using Lc with
   |nil=>rw [hbk] at h1;exact nNe h1 rfl
   |cons b l=>induction l using Lc with
    |nil=>exact ⟨b,rfl⟩
    |cons _ _=>rw [hbk] at h1;simp at h1
  have' hbm:b∈bs k:=by rw [hbe];simp
  have' hb:b<N:=hbN b hbm
  obtain ⟨v,hv⟩:=HY.mp (hbp b hbm)
  intros
  refine c0 (!2) λhp9 j9 x9 e9 hl9 hk9=>?_
  subst e9
  intros
  have' M9:=M8.up x9
  have' S9:=S8.up x9
  have' hs9:=ae x9 hs8
  have' K9:=K8.trans (PD.of_ext x9)
  replace hl9:hp8.length<hp9.length:=by rw [hl9];exact HI _
  refine c5 S9 hk λt9 ht9=>?_
  rw [hbe] at ht9
  refine rm ht9 (by simp [lim]) ?_
  refine gi S9 hb ?_
  refine cR M9.at_ hv ?_
  obtain ⟨kn,r,q1,q2,rfl,Rr⟩:=M9.ok _ _ hv
  have' hkn:kn=b:=w55 q1
  subst hkn
  obtain ⟨C',fs',hr,hC'⟩:=Rr.ne
  have' hans:ans kn=some (rwn ps).flatten:=by
   rw [hbe] at hmp
   induction ha:ans kn with
   |none=>rw [ff (List.mem_singleton_self kn) ha] at hmp;exact nNS hmp
   |some l=>
    have':=jV (pre:=[]) (f:=ans) (ls:=[]) rfl ha
    rw [List.nil_append] at this
    rw [this] at hmp
    have':=Hm.inj hmp
    rw [<-this];simp
  refine mw f1 f2 S9 W Rr (λl hp10 j ho K10 R10 hj hlj=>?_) λhp10 ho K10=>?_
  ·rw [hans] at ho;(replace ho:=ay ho;subst ho)
   have' hll:=(Rr.1 _ hans).1
   have' hj1':=K10 _ _ hk9 (aw hk9 hr rfl)
   refine rV hj1' hj (by simp only [G7,G6,HO,lim];exact D8 hll) λhp11 j11 x11 e11 hn11=>?_
   subst e11
   intros
   have' hrs:r≠self:=λe=>ns3 _ (e▸hv)
   have' hs11:=ae x11 (K10 _ _ hs9 (Ne.symm hrs))
   refine ba hs11 (.inr ⟨_,eJ hC⟩) (w81 hfs4l) λhp12 fs5 hfs5 _ K12 hs12=>?_
   intros
   have' L9:PY hp9 (λi=>i=r) (i8 Z hp.length):=cQ hr hC'
   have' M10:=(M9.turn hv hr hC' K10 R10).up x11
   have' K11:=(K9.then K10 λi e=>hsub i ⟨_,e▸hv⟩).trans (PD.of_ext x11)
   have' hl10:hp9.length≤hp10.length:=let ⟨_,_,h,_⟩:=R10.inst;K10.len h
   have' L11:PY hp11 (λi=>i=self) (i8 Z hp.length):=cQ hs11 hC.ne
   have' M12:=M10.keep L11 K12 hmmself (λj i h e=>ns3 j (e▸h))
   have' hai:bT C ans bs k=some (k::(rwn ps).flatten):=by unfold bT;rw [hmp];show (if (bs k).length=1 then _ else _)=_;rw [RA h1]
   refine hQ _ ep3 kv3 hsome (K11.then K12 λi e=>.inl (.inl e)) (M12.more λa h=>.inl (.inl h)) mo3 ns3 ⟨hok,.inr (.inl ⟨_,hai,C,_,hp10.length,hs12,hC,hfs5▸hnoM.put (by decide+kernel),?_,hfs5▸br ..,.inr ⟨?_,Zlt _ (Bg hlen8 hl9 hl10)⟩,.inl ⟨⟨bh,?_⟩,?_⟩⟩)⟩ ⟨_,hs12⟩
   ·have':=bB fs4 "_mro" (V.obj hp10.length);rw [<-hfs5] at this;exact Dh hfs4l this
   ·exact K12 _ _ hn11 (aw hn11 hs11 rfl)
   ·rw [hfs5,ah (by decide+kernel)];exact hhad
   rw [hfs5,ah (by decide+kernel)];exact g0 _ (by decide+kernel) (by decide+kernel) (by decide+kernel) (by decide+kernel)
  rw [hans] at ho;exact nSN ho
 intros
 have' h1:(bs k).length≠1:=λe=>by rw [e] at hc;simp at hc
 have' hai:bT C ans bs k=fj C bs k (rwn ((hp3.length,[k])::ps++[(jl,bs k)])):=by
  unfold bT;rw [hmp]
  show (if (bs k).length=1 then _ else _)=_
  rw [Rz h1]
  simp
 refine hQ _ ep3 kv3 hsome K8 (M8.more λa h=>.inl (.inl h)) mo3 ns3 ⟨hok,.inr (.inr ⟨C,k,fs4,(hp3.length,[k])::ps++[(jl,bs k)],⟨hs8,hC,hnoM,by exact Eg hfs4l,hlf,hk,?_,?_,?_,⟨bh,hhad⟩,⟨jt,htr,?_⟩,λp hp=>?_,⟨?_,λp hp=>?_⟩⟩,hai.symm,λp hp=>Zlt _ ?_,λbt hbt=>?_⟩)⟩ ⟨_,hs8⟩
 ·exact g0 _ (by decide+kernel) (by decide+kernel) (by decide+kernel) (by decide+kernel)
 ·exact g0 _ (by decide+kernel) (by decide+kernel) (by decide+kernel) (by decide+kernel)
 ·exact g0 _ (by decide+kernel) (by decide+kernel) (by decide+kernel) (by decide+kernel)
 ·rw [hjt8];simp [adn]
 ·simp only [IT,G0,G8,H8,or_false] at hp
  rcases hp with rfl|hp|rfl
  ·exact hk8
  ·exact R8 p hp
  exact hjl8
 ·simp;exact Df hb3 hpsl
 ·simp only [IT,G0,G8,H8,or_false] at hp
  rcases hp with rfl|hp|rfl
  ·exact ⟨by simp,λx hx=>by simp at hx;exact BR hk hx⟩
  ·exact (hps p hp).1
  exact ⟨by show (bs k).length≤1000;exact w79 hb3,hbN⟩
 ·simp only [IT,G0,G8,H8,or_false] at hp
  rcases hp with rfl|hp|rfl
  ·show hp.length≤hp3.length;exact w32 h3l
  ·have':=(hps p hp).2;exact Bh hl4 h3l this
  show hp.length≤jl;exact w39 hl4 h3l hl5 hlj
 rw [htr] at hbt;(replace hbt:=lu hbt;subst hbt);exact Zlt _ (w39 hl4 h3l hl5 hlt')
def mx:FT:=λhd vs hp Q E=>∃n,n≤6∧Qq n hd vs hp Q E
def Ord (k:Nat) (l:List Nat):Prop:=l.Nodup∧∀x∈l,x≤k
theorem Ord.ok (h:Ord k l) (hk:k<N) (hN:N≤7):dn N l:=by
 refine ⟨?_,λx hx=>by have:=h.2 x hx;exact w17 hk this⟩
 have:l.length≤(Hf (k+1)).length:=Jq.length_le_of_subset h.1 λx hx=>by rw [H9];have:=h.2 x hx;exact w70 this
 rw [HA] at this;exact BP hk hN this
theorem my:∀{l:List Nat} {ls:List (List Nat)},l.mapM f=some ls->∀x∈ls,∃b∈l,f b=some x
 |[],ls,h,x,hx=>by simp at h;subst h;cases hx
 |a::l,ls,h,x,hx=>by
  rw [Ie] at h
  induction ha:f a with
  |none=>rw [ha] at h;exact nNS h
  |some y=>
   rw [ha] at h
   induction hl:l.mapM f with
   |none=>rw [hl] at h;exact nNS h
   |some ys=>
    rw [hl] at h;(replace h:=ay h;subst h)
    rcases G0.mp hx with rfl|hx
    ·exact ⟨a,.head _,ha⟩
    obtain ⟨b,hb,e⟩:=my hl x hx
    exact ⟨b,.tail _ hb,e⟩
theorem mz (W:aX bs N) (hk:k<N) (h:∀b∈bs k,∀l,ans b=some l->Ord b l):∀l,bT C ans bs k=some l->Ord k l:=by
 intro l hl
 unfold bT at hl
 induction hm:(bs k).mapM ans with
 |none=>rw [hm] at hl;exact nNS hl
 |some ls=>
  rw [hm] at hl
  dsimp only at hl
  have' hlow:∀x∈ls,∀y∈x,y<k:=λx hx y hy=>by
   obtain ⟨b,hb,e⟩:=my hm x hx
   have:=(h b hb x e).2 y hy
   have:=(W.2 k hk).2 b hb
   exact Ck ‹_› this
  split at hl
  ·rename_i h1
   (replace hl:=ay hl;subst hl)
   have hls:∃x,ls=[x]∧x.Nodup:=by
    induction hb:bs k using Lc with
    |nil=>rw [hb] at h1;exact nNe h1 rfl
    |cons b r=>
     induction r using Lc with
     |cons _ _=>rw [hb] at h1;simp at h1
     |nil=>
      rw [hb] at hm
      rw [Ie] at hm
      induction ha:ans b with
      |none=>rw [ha] at hm;exact nNS hm
      |some x=>rw [ha] at hm;simp at hm;exact ⟨x,hm.symm,(h b (by rw [hb];simp) x ha).1⟩
   obtain ⟨x,rfl,hx⟩:=hls
   have e:[x].flatten=x:=by simp
   rw [e]
   refine ⟨HS.mpr ⟨λhm=>by have:=hlow x (by simp) k hm;exact w6 this,hx⟩,λy hy=>?_⟩
   rcases G0.mp hy with rfl|hy
   ·exact GW _
   exact Hk (hlow x (by simp) y hy)
  unfold fj at hl
  induction hmg:merge ([k]::ls++[bs k]) with
  |some l'=>
   rw [hmg] at hl;(replace hl:=ay hl;subst hl)
   obtain ⟨h1,h2⟩:=jL _ _ hmg
   refine ⟨h1,λy hy=>?_⟩
   obtain ⟨r,hr,hyr⟩:=(h2 y).mp hy
   simp only [IT,G0,G8,H8,or_false] at hr
   rcases hr with rfl|hr|rfl
   ·simp at hyr;exact w34 hyr
   ·exact Hk (hlow r hr y hyr)
   exact Hk ((W.2 k hk).2 y hyr)
  |none=>
   rw [hmg] at hl
   dsimp only at hl
   split at hl
   ·(replace hl:=ay hl;subst hl);exact ⟨fG _,λx hx=>ge W 7 k hk x (dQ.mp hx)⟩
   exact nNS hl
def i9 (s:Bool):Nat:=if s=true then 232 else 204
theorem oM (s:Bool):P2 (i9 s):=by cases s;exact .inl rfl;exact .inr rfl
abbrev noZ:Nat->Prop:=λ_=>False
theorem PD.new (K:PD (hp++l) hp' X) (h:∀i,X i->hp.length≤i):hp<+:hp':=K.pre (GV _ _) h
inductive QO (hd:Bool) (vs:List V) (hp:List O) (Q:V->List O->Prop) (E:Nat->List O->Prop):Prop
 |mk (z1:hd=true) (sa:Nat->Nat) (N) (bs:Nat->List Nat) (ans:Nat->Option (List Nat)) (k) (s) (z2:vs=[so sa k,.bool s,.none]) (z3:PL hp sa N bs) (z4:aX bs N) (z5:k<N) (z6:(∀j<N,ans j=bT (i9 s) ans bs j∧∀l,ans j=some l->dn N l)) (z7:(∀hp' r,((bs k).mapM ans).isSome=true->hp<+:hp'->PV hp' sa N bs noZ r (ans k)->(∃fs,hp'[r]?=some (.inst (i9 s) fs))->hp.length≤r->Q (.obj r) hp')) (z8:∀hp',(bs k).mapM ans=none->hp<+:hp'->E 59 hp'):QO hd vs hp Q E
theorem mA (n1:fn 204 []=none) (n2:fn 232 []=none) (f1:fn 125 []=some mx) (h:QO hd vs hp Q E):
  aq (gam fn) 30 (aF (KH P) 117) (an (KH P) 117) (aD ["C","strict","base_mros"]) hd vs hp Q E:=by
 obtain ⟨rfl,sa,N,bs,ans,k,s,rfl,S,W,hk,hans,hQ,hE⟩:=h
 have N7:=S.N7
 refine aJ (oB fn true) rfl (by decide+kernel) ?_
 dsimp only [HT,Hi]
 intros
 refine qW ?_
 intros
 refine jq (λ_=>?_) (λh=>nomatch h)
 intros
 refine fZ ?_
 intros
 refine wa ?_
 refine vo ?_
 intros
 refine aR (!2) ?_
 intros
 have' x1:hp<+:hp++[O.dict 0 []]++[O.list []]:=(GV _ _).trans (GV _ _)
 have hd1:(hp++[O.dict 0 []]++[O.list []])[hp.length]?=some (.dict 0 []):=af ai
 have hl1:(hp++[O.dict 0 []]++[O.list []])[(hp++[O.dict 0 []]).length]?=some (.list []):=ai
 generalize hp++[O.dict 0 []]++[O.list []]=hp1 at x1 hd1 hl1
 generalize (hp++[O.dict 0 []]).length=jl at hl1
 refine bi hl1 (!2) ?_
 refine bA (f:=id) (xs:=[]) rfl (λ_ hp' m=>QK (hp'=hp1) (m "strict"=some (.bool s)) (m "C"=some (so sa k)) (m "memo"=some (.obj hp.length))) ⟨rfl,!1,!1,!1⟩ ?_ ?_ ?_
 ·rintro pre hp' m ⟨rfl,_⟩;exact hl1
 ·rintro pre x post hp' m W' e;simp at e
 rintro hp' m ⟨rfl,h1,h2,h3⟩
 have M1:P1 hp' hp.length 0 [] sa N bs ans noZ:=⟨hd1,by simp,(λk v h=>nomatch h),(λk1 k2 v h=>nomatch h)⟩
 have' key:∀(kk:V->PT Fl) (Qf:Fl->AS->Prop) (Ef:Nat->AS->Prop) (m':bY),(∀hp'' r,((bs k).mapM ans).isSome=true->hp<+:hp''->PV hp'' sa N bs noZ r (ans k)->(∃fs,hp''[r]?=some (.inst (i9 s) fs))->hp.length≤r->kk (.obj r) ⟨hp'',m'⟩ Qf Ef)->(∀hp'',(bs k).mapM ans=none->hp<+:hp''->Ef 59 ⟨hp'',m'⟩)->
   (az (gam fn) true (.ref (i9 s)) [so sa k,.obj hp.length]>>=kk) ⟨hp',m'⟩ Qf Ef:=by
  intro kk Qf Ef m' g1 g2
  refine fe (n:=6) (oM s) (by cases s;exact n1;exact n2) f1 (λ_ _ _ _ _ h=>⟨6,GW _,h⟩) (S.up x1) W hk M1 (λ_ h=>h.elim) (λb hb=>.inr ?_) (λj hj hjN=>hans j hjN) (λl hl=>(hans k hk).2 l ((hans k hk).1.trans hl)) (λhp2 ep2 kv2 r h K M2 mo ns R hI hr=>?_) λhp2 h K=>?_
  ·have:=(W.2 k hk).2 b hb;exact BO hk N7 this
  ·refine g1 hp2 r h (K.pre x1 λi hi=>?_) (by rw [(hans k hk).1];exact R) hI (G2 (bH x1) hr)
   rcases hi with e0|⟨j,hj⟩
   ·subst i;exact GW _
   exact nNS hj
  refine g2 hp2 h (K.pre x1 λi hi=>?_)
  rcases hi with e0|⟨j,hj⟩
  ·subst i;exact GW _
  exact nNS hj
 intros
 induction s with
 |true=>
  refine bN (λ_=>?_) (λh=>nomatch h)
  intros
  refine key _ _ _ _ (λhp2 r g0 g1 g2 g3 g4=>?_) λhp2 g0 g1=>hE hp2 g0 g1
  intros
  exact hQ hp2 r g0 g1 g2 g3 g4
 |false=>
  refine bN (λh=>nomatch h) λ_=>?_
  intros
  refine key _ _ _ _ (λhp2 r g0 g1 g2 g3 g4=>?_) λhp2 g0 g1=>hE hp2 g0 g1
  intros
  exact hQ hp2 r g0 g1 g2 g3 g4
structure QQ (hp:List O) (sa:Nat->Nat) (N:Nat) (bs:Nat->List Nat) (sro:Nat->List Nat) (k bm:Nat) (prs:List (Nat×Nat)):Prop where
 at_:hp[bm]?=some (.list (prs.map λp=>.obj p.2))
 pair:∀p∈prs,∃t,hp[p.2]?=some (.tup [so sa p.1,.obj t])∧hp[t]?=some (.tup ((sro p.1).map (so sa)))
 eq:prs.map (·.1)=bs k
 ok:∀b∈bs k,dn N (sro b)
 res:∀l,bT 204 (λj=>some (sro j)) bs k=some l->dn N l
theorem QQ.up (B:QQ hp sa N bs sro k bm prs) (x:hp<+:hp'):QQ hp' sa N bs sro k bm prs:=
 ⟨ae x B.at_,λp hp=>let ⟨t,h1,h2⟩:=B.pair p hp;⟨t,ae x h1,ae x h2⟩,B.eq,B.ok,B.res⟩
theorem mB (sro:Nat->List Nat) (l:List Nat):l.mapM (λj=>some (sro j))=some (l.map sro):=by
 induction l with
 |nil=>rfl
 |cons a l ih=>rw [Ie,ih];rfl
inductive QT (hd:Bool) (vs:List V) (hp:List O) (Q:V->List O->Prop) (E:Nat->List O->Prop):Prop
 |mk (z1:hd=true) (sa:Nat->Nat) (N) (bs:Nat->List Nat) (sro:Nat->List Nat) (k) (bm) (prs) (z2:vs=[so sa k,.none,.obj bm]) (z3:PL hp sa N bs) (z4:aX bs N) (z5:k<N) (z6:QQ hp sa N bs sro k bm prs) (z7:∀hp' r,hp<+:hp'->PV hp' sa N bs noZ r (bT 204 (λj=>some (sro j)) bs k)->(∃fs,hp'[r]?=some (.inst 204 fs))->hp.length≤r->Q (.obj r) hp'):QT hd vs hp Q E
inductive BI (hp:List O) (jb:Nat) (prs:List (Nat×Nat)) (sa:Nat->Nat) (N:Nat) (bs sro:Nat->List Nat) (k bm:Nat) (pre:List (Nat×Nat)) (hp':List O) (m:bY):Prop
 |mk (z1:hp<+:hp') (z2:hp'[jb]?=some (.list (prs.map λp=>.obj p.2))) (z3:QQ hp' sa N bs sro k bm prs) (z4:PL hp' sa N bs) (z5:m "strict"=some (.bool false)) (z6:m "C"=some (so sa k)) (z7:m "memo"=some (.obj hp.length)) (ep) (kv) (z8:P1 hp' hp.length ep kv sa N bs (λj=>some (sro j)) noZ) (z9:(∀p∈pre,(aj kv (p.1:Nat)).isSome=true)) (z10:∀j i,aj kv j=some (.obj i)->hp.length≤i):BI hp jb prs sa N bs sro k bm pre hp' m
theorem kS (n1:fn 204 []=none) (n2:fn 86 []=none) (f1:fn 125 []=some mx) (f2:fn 76 []=some QA) (h:QT hd vs hp Q E):
  aq (gam fn) 30 (aF (KH P) 117) (an (KH P) 117) (aD ["C","strict","base_mros"]) hd vs hp Q E:=by
 obtain ⟨rfl,sa,N,bs,sro,k,bm,prs,rfl,S,W,hk,B,hQ⟩:=h
 have' N7:=S.N7
 have' hb3:=(S.few k hk).1
 have' hpl:prs.length≤3:=by have':=congrArg HW B.eq;simp at this;exact w21 hb3 this
 refine aJ (oB fn true) rfl (by decide+kernel) ?_
 dsimp only [HT,Hi]
 intros
 refine eV ?_
 intros
 refine jq (λh=>nomatch h) λ_=>?_
 intros
 refine fZ ?_
 intros
 refine d9 (af B.at_) (!2) ?_
 have' main:∀hp1 jb,hp++[O.dict 0 []]<+:hp1->hp1[jb]?=some (.list (prs.map λp=>.obj p.2))->∀m,m "strict"=some (.bool false)->m "C"=some (so sa k)->m "memo"=some (.obj hp.length)->m "base_mros"=some (.obj jb)->
   rx (gam fn) true ⟨hp1,m⟩ (mW Q) (iz E):=by
  intro hp1 jb x1 hjb m hm1 hm2 hm3 hm4
  have' x01:hp<+:hp1:=(GV _ _).trans x1
  have' B1:=B.up x01
  have' S1:=S.up x01
  intros
  refine bi hjb (!2) ?_
  refine bA (f:=λ(p:Nat×Nat)=>V.obj p.2) (xs:=prs) rfl (BI hp jb prs sa N bs sro k bm) ⟨x01,hjb,B1,S1,hm1,hm2,hm3,0,[],⟨ae x1 ai,by simp,(λk v h=>nomatch h),(λk1 k2 v h=>nomatch h)⟩,(λ_ h=>nomatch h),(λ_ _ h=>nomatch h)⟩ ?_ ?_ ?_
  ·rintro pre hp' m ⟨_,h,_⟩;exact h
  ·rintro pre p post hp2 m2 V2 e ⟨x2,hjb2,B2,S2,g1,g2,g3,ep,kv,M2,hpre,hnew⟩ hV
   have' hpm:p∈prs:=b0 e
   have' hbm:p.1∈bs k:=by rw [<-B.eq];exact G1.mpr ⟨p,hpm,rfl⟩
   have' hb:p.1<N:=(S.few k hk).2 _ hbm
   obtain ⟨t,ht1,ht2⟩:=B2.pair p hpm
   refine rk ht1 ?_
   intros
   refine c5 S2 hk λtb htb=>?_
   obtain ⟨fp,_,hfp,_⟩:=S2.get hb
   refine zM htb hfp (λv hv=>by obtain ⟨y,hy,rfl⟩:=G1.mp hv;obtain ⟨fy,_,hfy,_⟩:=S2.get ((S.few k hk).2 _ hy);exact ⟨_,_,rfl,hfy⟩) (!2) ?_
   intros
   refine qU (by simpa using ⟨p.1,hbm,rfl⟩) ?_
   intros
   have' hx2:=bH x2
   refine nH n2 rfl (f:=76) rfl f2 ⟨sa,hp2.length,so sa p.1,t,sro p.1,rfl,ai,af ht2,λhp3 K3 hl3 R3=>?_⟩
   refine ⟨rfl,?_⟩
   have' K3':PD hp2 hp3 (λi=>i=hp2.length):=(PD.of_ext (GV hp2 [O.inst 86 []])).trans K3
   have' x23:hp2<+:hp3:=K3'.pre (GX _) λi e=>HN e.symm
   have' M3:=M2.up x23
   have' S3:=S2.up x23
   have' B3:=B2.up x23
   intros
   refine gi S3 hb ?_
   refine c8 M3.at_ (by have':=M3.len N7;simp only [lim];exact w4 this) λep4 _=>?_
   intros
   have' nor:∀j,aj kv j≠some (.obj hp2.length):=λj h=>by
    obtain ⟨kn,r,_,_,h3,h4⟩:=M2.ok j _ h
    (replace h3:=iq h3;subst h3)
    obtain ⟨C',fs,h5,_⟩:=h4.ne
    have':=aE h5;exact w6 this
   have' M4:=M3.put (ep':=ep4) hb (r:=hp2.length) ⟨λl e=>by (replace e:=ay e;subst e);exact B.ok _ hbm,.inl ⟨_,rfl,R3⟩⟩ nor
   have' L3:PY hp3 (λi=>i=hp.length) noZ:=λi e o ho=>by subst e;rw [M3.at_] at ho;(replace ho:=ay ho;subst ho);exact .inr (.inl ⟨_,_,rfl⟩)
   have' K4:PD hp3 (hp3.set hp.length (.dict ep4 (aV kv (p.1:Nat) (.obj hp2.length)))) (λi=>i=hp.length):=PD.set (X:=λi=>i=hp.length) (PD.refl _ _) (.inl rfl)
   refine hV _ _ ⟨cF (x2.trans x23) (GW _),K4 _ _ (ae x23 hjb2) (aw (ae x23 hjb2) M3.at_ rfl),⟨L3.list K4 B3.at_ id,λq hq=>let ⟨t,h1,h2⟩:=B3.pair q hq;⟨t,L3.tup K4 h1,L3.tup K4 h2⟩,B.eq,B.ok,B.res⟩,L3.specs K4 S3,!1,!1,!1,ep4,_,M4,λq hq=>?_,λj i h=>?_⟩
   ·rw [bx]
    split
    ·rfl
    rcases G8.mp hq with hq|hq
    ·exact hpre q hq
    rename_i n;rw [GY.mp hq] at n;exact absurd rfl n
   rw [bx] at h
   split at h
   ·(replace h:=lu h;subst h);exact hx2
   exact hnew j i h
  rintro hp2 m2 ⟨x2,hjb2,B2,S2,g1,g2,g3,ep,kv,M2,hpre,hnew⟩
  intros
  refine bN (λh=>nomatch h) λ_=>?_
  intros
  refine fe (n:=0) (.inl rfl) n1 f1 (λ_ _ _ _ _ h=>⟨0,HK _,h⟩) S2 W hk M2 (λ_ h=>h.elim) (λb hb=>.inl ?_) (λj hj=>absurd hj (Io _)) B.res (λhp3 ep3 kv3 r h K M3 mo ns R hI hr=>?_) λhp3 h K=>?_
  ·rw [<-B.eq] at hb
   obtain ⟨p,hp',rfl⟩:=G1.mp hb
   exact hpre p hp'
  ·intros
   refine hQ hp3 r (K.pre x2 λi hi=>?_) R hI (G2 (bH x2) hr)
   rcases hi with e0|⟨j,hj⟩
   ·subst i;exact GW _
   exact hnew j i hj
  rw [mB] at h;exact nSN h
 induction hprs:prs using Lc with
 |nil=>
  refine vo ?_
  refine aR (!2) ?_
  repeat (with_reducible refine lR ?_)
  exact main _ _ (GV _ _) (by rw [hprs];exact ai) _ (!1) (!1) (!1) !1
 |cons a l=>
  refine zT ?_
  repeat (with_reducible refine lR ?_)
  exact main _ _ (GX _) (af B.at_) _ (!1) (!1) (!1) !1
def dc:FT:=λhd vs hp Q E=>QO hd vs hp Q E∨QT hd vs hp Q E
def kT (c s b:V):bY:=λx=>HQ x [(("C":Str),c),("strict",s),("base_mros",b),("log_changed_ro",.none),("use_legacy_ro",.none)]
inductive Rf (hd:Bool) (vs:List V) (hp:List O) (Q:V->List O->Prop) (E:Nat->List O->Prop):Prop
 |mk (z1:hd=true) (sa:Nat->Nat) (N) (bs:Nat->List Nat) (ans:Nat->Option (List Nat)) (k) (s) (z2:vs=[so sa k,.bool s]) (z3:PL hp sa N bs) (z4:aX bs N) (z5:k<N) (z6:(∀j<N,ans j=bT (i9 s) ans bs j∧∀l,ans j=some l->dn N l)) (z7:(∀l hp' j,ans k=some l->hp<+:hp'->hp'[j]?=some (.list (l.map (so sa)))->hp.length≤j->Q (.obj j) hp')) (z8:∀hp',ans k=none->hp<+:hp'->E 59 hp'):Rf hd vs hp Q E
theorem rZ (f2:fn 201 []=some QG) (S:PL hp sa N bs) (W:aX bs N) (R:PV hp sa N bs noZ r o) (hr:∃fs,hp[r]?=some (.inst C fs)) (hC:P2 C) (hm:m "resolver"=some (.obj r)) (hu:m "use_legacy_ro"=some .none)
  (hQ:∀l hp' j,o=some l->PD hp hp' (λi=>i=r)->hp'[j]?=some (.list (l.map (so sa)))->hp.length≤j->∀m',Qf (.ret (.obj j)) ⟨hp',m'⟩) (hE:∀hp',o=none->PD hp hp' (λi=>i=r)->Ef 59 ⟨hp',m⟩):
  rB (gam fn) true ⟨hp,m⟩ Qf Ef:=by
 obtain ⟨fs,hr⟩:=hr
 have nm:aj fs "mro"=none:=by
  rcases R.2 with ⟨l,h,fs',t,h1,_⟩|⟨l,h,C',fs',t,h1,h2,h3,_⟩|⟨C',k,fs',ps,F,h⟩
  ·rw [hr] at h1;(replace h1:=fQ h1;obtain ⟨e1,e2⟩:=h1;subst e1;subst e2);rcases hC with h|h<;>exact nNe h rfl
  ·rw [hr] at h1;(replace h1:=fQ h1;obtain ⟨e1,e2⟩:=h1;subst e1;subst e2);exact h3 _ (by simp)
  have:=F.at_;rw [hr] at this;(replace this:=fQ this;obtain ⟨e1,e2⟩:=this;subst e1;subst e2);exact F.noM _ (by simp)
 intros
 refine b4 (f:=201) hr (hC.el (!0) !0) nm ?_
 refine cG f2 ⟨rfl,sa,N,bs,noZ,r,o,rfl,S,W,R,⟨C,fs,hr,hC⟩,λl hp' j ho K R' hI hj hl=>?_,λhp' ho K=>hE hp' ho K⟩
 intros
 refine eV ?_
 intros
 refine jq (λh=>nomatch h) λ_=>?_
 intros
 refine bN (λh=>nomatch h) λ_=>?_
 intros
 exact hQ l hp' j ho K hj hl _
theorem yU (f1:fn 117 []=some dc) (f2:fn 201 []=some QG) (h:Rf hd vs hp Q E):
  Ex2 λc s=>vs=[c,s]∧cU (ev (gam fn) hd 30) ⟨aF (KH P) 242,λ_=>true⟩ (an (KH P) 242) ⟨hp,kT c s .none⟩ (mW Q) (iz E):=by
 obtain ⟨rfl,sa,N,bs,ans,k,s,rfl,S,W,hk,hans,hQ,hE⟩:=h
 refine ⟨_,_,rfl,?_⟩
 rw [oD fn true]
 unfold kT
 intros
 intros
 have hmap:(bs k).mapM ans=none->ans k=none:=λh=>by rw [(hans k hk).1];unfold bT;rw [h]
 refine dO f1 (.inl ⟨rfl,sa,N,bs,ans,k,s,rfl,S,W,hk,hans,λhp1 r h1 x1 R hI hr=>?_,λhp1 h1 x1=>hE hp1 (hmap h1) x1⟩)
 refine lR ?_
 refine rZ f2 (S.up x1) W R hI (oM s) (!1) (!1) (λl hp2 j ho K hj hlj m'=>?_) λhp2 ho K=>?_
 ·exact hQ l hp2 j ho (K.pre x1 λi e=>e▸hr) hj (G2 (bH x1) hlj)
 exact hE hp2 ho (K.pre x1 λi e=>e▸hr)
inductive Rh (hd:Bool) (vs:List V) (hp:List O) (Q:V->List O->Prop) (E:Nat->List O->Prop):Prop
 |mk (z1:hd=true) (sa:Nat->Nat) (N) (bs:Nat->List Nat) (sro:Nat->List Nat) (k) (bm) (prs) (z2:vs=[so sa k,.obj bm]) (z3:PL hp sa N bs) (z4:aX bs N) (z5:k<N) (z6:QQ hp sa N bs sro k bm prs) (z7:∀l hp' j,bT 204 (λj=>some (sro j)) bs k=some l->hp<+:hp'->hp'[j]?=some (.list (l.map (so sa)))->hp.length≤j->Q (.obj j) hp'):Rh hd vs hp Q E
theorem r0 (sro:Nat->List Nat) (bs:Nat->List Nat) (k:Nat):bT 204 (λj=>some (sro j)) bs k≠none:=by
 unfold bT;rw [mB]
 dsimp only
 split
 ·simp
 unfold fj
 split
 ·simp
 simp
theorem yV (f1:fn 117 []=some dc) (f2:fn 201 []=some QG) (h:Rh hd vs hp Q E):
  Ex2 λc b=>vs=[c,b]∧cU (ev (gam fn) hd 30) ⟨aF (KH P) 242,λ_=>true⟩ (an (KH P) 242) ⟨hp,kT c .none b⟩ (mW Q) (iz E):=by
 obtain ⟨rfl,sa,N,bs,sro,k,bm,prs,rfl,S,W,hk,B,hQ⟩:=h
 refine ⟨_,_,rfl,?_⟩
 rw [oD fn true]
 unfold kT
 intros
 intros
 refine dO f1 (.inr ⟨rfl,sa,N,bs,sro,k,bm,prs,rfl,S,W,hk,B,λhp1 r x1 R hI hr=>?_⟩)
 refine lR ?_
 refine rZ f2 (S.up x1) W R hI (.inl rfl) (!1) (!1) (λl hp2 j ho K hj hlj m'=>?_) λhp2 ho K=>absurd ho (r0 _ _ _)
 exact hQ l hp2 j ho (K.pre x1 λi e=>e▸hr) hj (G2 (bH x1) hlj)
theorem sd (h:hp[i]?=some (.tup [a,b])) (h':k b ⟨hp,m⟩ Q E):(aG (.obj i) (.int 1)>>=k) ⟨hp,m⟩ Q E:=
 ow (j:=1) h (!2) rfl h'
theorem se (h:hp[i]?=some (.dict ep [])) (h':k (.obj hp.length) ⟨hp++[.tup []],m⟩ Q E):(dZ true (.obj i)>>=k) ⟨hp,m⟩ Q E:=by
 show (dZ true (.obj i)) _ _ _
 unfold dZ
 exact ⟨rfl,au h ⟨rfl,by simp [lim],h'⟩⟩
def PX (fs:List (Str×V)):Prop:=∀x∈(["setBases","changed","subscribe","_calculate_sro","unsubscribe","dependents"]:List Str),aj fs x=none
theorem PX.put (h:PX fs) (n:(["setBases","changed","subscribe","_calculate_sro","unsubscribe","dependents"]:List Str).contains x=false):PX (aV fs x v):=by
 intro y hy
 rw [ah]
 ·exact h y hy
 rw [ID]
 intro e
 have:y=x:=by simpa using e
 subst this
 have:=List.contains_iff_mem.mpr hy
 rw [this] at n;exact nTF n
structure QI (hp:List O) (kv:List (Int×V)):Prop where
 ok:∀key v,aj kv key=some v->Ex3 λt x c=>v=.obj t∧hp[t]?=some (.tup [x,.int c])
 nd:(kv.map (·.1)).Nodup
 low:∀k∈kv.map (·.1),0≤k∧k<7
theorem QI.keep (h:QI hp kv) (k:∀(i:Nat) vs,hp[i]?=some (.tup vs)->hp'[i]?=some (.tup vs)):QI hp' kv:=
 ⟨λkey v e=>let ⟨t,x,c,h1,h2⟩:=h.ok key v e;⟨t,x,c,h1,k _ _ h2⟩,h.nd,h.low⟩
theorem QI.len (h:QI hp kv):kv.length≤7:=by simpa using eF h.nd h.low
inductive Qh (hp:List O) (s D:Nat):Prop
 |mk (fs:List (Str×V)) (dd) (ep) (kv:List (Int×V)) (z1:hp[s]?=some (.inst 336 fs)) (z2:PX fs) (z3:aj fs "_dependents"=some (.obj dd)) (z4:dd<D) (z5:hp[dd]?=some (.dict ep kv)) (z6:QI hp kv):Qh hp s D
inductive Rk (hd:Bool) (vs:List V) (hp:List O) (Q:V->List O->Prop) (E:Nat->List O->Prop):Prop
 |mk (s) (fs:List (Str×V)) (v) (z1:vs=[.obj s]) (z2:hp[s]?=some (.inst 336 fs)) (z3:aj fs "_dependents"=some v) (z4:Q v hp):Rk hd vs hp Q E
theorem yW (h:Rk hd vs hp Q E):
  aq (gam fn) 30 (aF (KH P) 286) (an (KH P) 286) (aD ["self"]) hd vs hp Q E:=by
 obtain ⟨s,fs,v,rfl,h1,h2,hQ⟩:=h
 refine aJ (tY fn hd) rfl (by decide+kernel) ?_
 dsimp only [HT,Hi]
 intros
 refine bR h1 (!0) h2 ?_
 intros
 exact hQ
inductive Ri (hd:Bool) (vs:List V) (hp:List O) (Q:V->List O->Prop) (E:Nat->List O->Prop):Prop
 |mk (s) (d) (fs:List (Str×V)) (fd) (dd) (ep) (kv:List (Int×V)) (n) (z1:vs=[.obj s,.obj d]) (z2:hp[s]?=some (.inst 336 fs)) (z3:aj fs "_dependents"=some (.obj dd)) (z4:hp[dd]?=some (.dict ep kv)) (z5:QI hp kv) (z6:hp[d]?=some (.inst 336 fd)) (z7:aj fd "key"=some (.int n)) (z8:0≤n) (z9:n<7) (z10:∀hp' ep' kv',PD hp hp' (λi=>i=dd)->hp'[dd]?=some (.dict ep' kv')->QI hp' kv'->Q .none hp'):Ri hd vs hp Q E
theorem yX (f1:fn 286 []=some Rk) (h:Ri hd vs hp Q E):
  aq (gam fn) 30 (aF (KH P) 294) (an (KH P) 294) (aD ["self","dependent"]) hd vs hp Q E:=by
 obtain ⟨s,d,fs,fd,dd,ep,kv,n,rfl,h1,h2,h3,hD,h4,h5,h6,h7,hQ⟩:=h
 refine aJ (tZ fn hd) rfl (by decide+kernel) ?_
 dsimp only [HT,Hi]
 intros
 refine kL h1 (!0) f1 ⟨s,fs,_,rfl,h1,h2,?_⟩
 refine kK h3 (!3) ?_
 intros
 refine bR h4 (!0) h5 ?_
 intros
 refine jD (!2) ?_
 refine jF (af h3) ?_
 obtain ⟨t,x,c,ht,hc⟩:Ex3 λt x c=>(aj kv n).getD (.obj hp.length)=.obj t∧(hp++[O.tup [V.none,V.int 0]])[t]?=some (.tup [x,.int c]):=by
  induction e:aj kv n with
  |none=>exact ⟨_,_,_,rfl,ai⟩
  |some v=>obtain ⟨t,x,c,rfl,h⟩:=hD.ok _ _ e;exact ⟨t,x,c,rfl,af h⟩
 rw [ht]
 refine sd hc ?_
 intros
 refine jD (!2) ?_
 intros
 refine bR (af (af h1)) (!0) h2 ?_
 intros
 refine bR (af (af h4)) (!0) h5 ?_
 refine c8 (af (af h3)) (by have:=hD.len;simp only [lim];exact w4 this) λep' _=>?_
 intros
 have hdl:=aE h3
 have hnew:((hp++[O.tup [V.none,V.int 0]]++[O.tup [V.obj d,V.int (c+1)]]).set dd (.dict ep' (aV kv n (.obj (hp++[O.tup [V.none,V.int 0]]).length))))[(hp++[O.tup [V.none,V.int 0]]).length]?=some (.tup [V.obj d,V.int (c+1)]):=aO (by simp;exact w64 hdl) ai
 have' hKX:PD hp ((hp++[O.tup [V.none,V.int 0]]++[O.tup [V.obj d,V.int (c+1)]]).set dd (.dict ep' (aV kv n (.obj (hp++[O.tup [V.none,V.int 0]]).length)))) (λi=>i=dd):=PD.set (((PD.refl _ _).app _).app _) (.inl rfl)
 refine hQ _ ep' _ hKX (bf (af (af h3))) ⟨λkey v e=>?_,jU hD.nd,λk hk=>?_⟩
 ·rw [bx] at e
  split at e
  ·(replace e:=ay e;subst e);exact ⟨_,_,_,rfl,hnew⟩
  obtain ⟨t,x,c,rfl,h⟩:=hD.ok _ _ e
  exact ⟨t,x,c,rfl,hKX _ _ h (aw h h3 rfl)⟩
 rw [cw] at hk
 split at hk
 ·exact hD.low k hk
 rcases G8.mp hk with hk|hk
 ·exact hD.low k hk
 rw [GY.mp hk];exact ⟨h6,h7⟩
structure Q4 (hp:List O) (sa:Nat->Nat) (bs:Nat->List Nat) (n D dd di:Nat) (fs:List (Str×V)):Prop where
 at_:hp[sa n]?=some (.inst 336 fs)
 noM:PX fs
 len:fs.length≤40
 key:aj fs "key"=some (.int n)
 root:aj fs "_ROOT"=some .none
 dep:aj fs "_dependents"=some (.obj dd)
 impl:aj fs "_implied"=some (.obj di)
 lowd:D≤dd
 lowi:D≤di
 ne:dd≠di
 depE:∃ep,hp[dd]?=some (.dict ep [])
 implE:Ex2 λep kv=>hp[di]?=some (.dict ep kv)∧kv.length≤7
structure Qz (hp:List O) (sa:Nat->Nat) (k:Nat) (l:List Nat):Prop where
 at_:Ex2 λfs s=>P8 (hp[sa k]?=some (.inst 336 fs)) (aj fs "sro"=some (.obj s)) (hp[s]?=some (.tup (l.map (so sa))))
 ord:Ord k l
inductive QZ (hd:Bool) (vs:List V) (hp:List O) (Q:V->List O->Prop) (E:Nat->List O->Prop):Prop
 |mk (z1:hd=true) (sa:Nat->Nat) (bs:Nat->List Nat) (sro:Nat->List Nat) (n:Nat) (fs:List (Str×V)) (z2:vs=[so sa n]) (z3:hp[sa n]?=some (.inst 336 fs)) (z4:aj fs "_ROOT"=some .none) (z5:PL hp sa (n+1) bs) (z6:aX bs (n+1)) (z7:(∀b∈bs n,Qz hp sa b (sro b))) (z8:bT 204 (λj=>some (sro j)) bs n=some (sro n)) (z9:∀hp' j,hp<+:hp'->hp'[j]?=some (.list ((sro n).map (so sa)))->hp.length≤j->Q (.obj j) hp'):QZ hd vs hp Q E
inductive PrI (hp:List O) (sa:Nat->Nat) (sro:Nat->List Nat) (pre:List Nat) (acc:List V) (hp':List O):Prop
 |mk (z1:hp<+:hp') (prs:List (Nat×Nat)) (z2:acc=prs.map (λp=>V.obj p.2)) (z3:prs.map (·.1)=pre) (z4:∀p∈prs,∃t,hp'[p.2]?=some (.tup [so sa p.1,.obj t])∧hp'[t]?=some (.tup ((sro p.1).map (so sa)))):PrI hp sa sro pre acc hp'
theorem uS (f1:fn 242 ["base_mros"]=some Rh) (h:QZ hd vs hp Q E):
  aq (gam fn) 30 (aF (KH P) 313) (an (KH P) 313) (aD ["self"]) hd vs hp Q E:=by
 obtain ⟨rfl,sa,bs,sro,n,fs,rfl,h1,h2,S,W,hsro,hans,hQ⟩:=h
 have N7:=S.N7
 have hk:n<n+1:=HI n
 have hb3:=(S.few n hk).1
 refine aJ (ub fn true) rfl (by decide+kernel) ?_
 dsimp only [HT,Hi]
 intros
 intros
 refine c5 S hk λt ht=>?_
 refine fF ht (!2) ?_
 refine eD (f:=so sa) (xs:=bs n) (PrI hp sa sro) rfl
  ⟨GX _,[],rfl,rfl,(λ_ h=>nomatch h)⟩ (λpre acc hp' h=>ae h.1 ht) ?_ ?_
 ·rintro pre b post acc hp1 W' E' e ⟨x1,prs,rfl,hp1e,hps⟩ hW hE'
  have hbm:b∈bs n:=b0 e
  obtain ⟨fb,s,g1,g2,g3⟩:=(hsro b hbm).at_
  refine dl ?_
  intros
  refine bR (ae x1 g1) (!0) g2 ?_
  refine b7 (jD (!2) ?_)
  intros
  refine hW (some _) _ ⟨x1.trans (GV _ _),prs++[(b,hp1.length)],by simp,by simp [hp1e],λp hp=>?_⟩
  rcases G8.mp hp with hp|hp
  ·obtain ⟨t,q1,q2⟩:=hps p hp
   exact ⟨t,af q1,af q2⟩
  rw [GY.mp hp];exact ⟨s,ai,af (ae x1 g3)⟩
 rintro acc hp1 ⟨x1,prs,rfl,hpe,hps⟩
 have' hpl:prs.length≤3:=by have:=congrArg HW hpe;simp at this;exact w21 hb3 this
 refine aR (!2) ?_
 intros
 have' x2:hp<+:hp1++[O.list (prs.map λp=>V.obj p.2)]:=x1.trans (GV _ _)
 refine oz f1 ⟨rfl,sa,n+1,bs,sro,n,hp1.length,prs,rfl,S.up x2,W,hk,⟨ai,λp hp=>let ⟨t,q1,q2⟩:=hps p hp;⟨t,af q1,af q2⟩,hpe,λb hb=>(hsro b hb).ord.ok ((S.few n hk).2 b hb) N7,λl hl=>?_⟩,λl hp2 j hl x3 hj hlj=>?_⟩
 ·exact (mz W hk (λb hb l' e=>by (replace e:=ay e;subst e);exact (hsro b hb).ord) l hl).ok hk N7
 rw [hans] at hl;(replace hl:=ay hl;subst hl)
 intros
 refine bR (ae (x2.trans x3) h1) (!0) h2 ?_
 intros
 refine eV ?_
 intros
 refine nI ?_
 refine bN (λh=>nomatch h) λ_=>?_
 intros
 exact hQ hp2 j (x2.trans x3) hj (G2 (bH x2) hlj)
inductive Qp (hd:Bool) (vs:List V) (hp:List O) (Q:V->List O->Prop) (E:Nat->List O->Prop):Prop
 |mk (z1:hd=true) (sa:Nat->Nat) (bs:Nat->List Nat) (sro:Nat->List Nat) (n D dd di:Nat) (fs:List (Str×V)) (x:V) (z2:vs=[so sa n,x]) (z3:Q4 hp sa bs n D dd di fs) (z4:PL hp sa (n+1) bs) (z5:aX bs (n+1)) (z6:(∀b∈bs n,Qz hp sa b (sro b))) (z7:bT 204 (λj=>some (sro j)) bs n=some (sro n)) (z8:Ord n (sro n)) (z9:∀hp' fs' s',PD hp hp' (λi=>i=sa n∨i=di)->hp'[sa n]?=some (.inst 336 fs')->PX fs'->(∀y,(y==("sro":Str))=false->(y==("iro":Str))=false->aj fs' y=aj fs y)->aj fs' "sro"=some (.obj s')->hp'[s']?=some (.tup ((sro n).map (so sa)))->hp.length≤hp'.length->Q .none hp'):Qp hd vs hp Q E
inductive DcI (hp6:List O) (di:Nat) (sa:Nat->Nat) (n:Nat) (pre:List Nat) (hp':List O) (m:bY):Prop
 |mk (z1:PD hp6 hp' (λi=>i=di)) (z2:hp6.length≤hp'.length) (z3:m "self"=some (so sa n)) (z4:m "implied"=some (.obj di)) (ep) (kv) (z5:hp'[di]?=some (.dict ep kv)) (z6:kv.length≤pre.length):DcI hp6 di sa n pre hp' m
theorem nU (f1:fn 313 []=some QZ) (h:Qp hd vs hp Q E):
  aq (gam fn) 30 (aF (KH P) 318) (an (KH P) 318) (aD ["self","originally_changed"]) hd vs hp Q E:=by
 obtain ⟨rfl,sa,bs,sro,n,D,dd,di,fs,x,rfl,F,S,W,hsro,hans,hord,hQ⟩:=h
 have' N7:=S.N7
 have' hk:n<n+1:=HI n
 have' hol:=hord.ok hk N7
 obtain ⟨ep1,kv1,hdi,hkv1⟩:=F.implE
 obtain ⟨ep2,hdd⟩:=F.depE
 refine aJ (uc fn true) rfl (by decide+kernel) ?_
 dsimp only [HT,Hi]
 intros
 refine bR F.at_ (!0) F.impl ?_
 intros
 refine kK hdi (!3) ?_
 refine uN hdi (!2) λhp1 ep3 hl1 K1 hdi1=>?_
 have' L1:PY hp (λi=>i=di) noZ:=λi e o ho=>by subst e;rw [hdi] at ho;(replace ho:=ay ho;subst ho);exact .inr (.inl ⟨_,_,rfl⟩)
 have' hsn:sa n≠di:=aw F.at_ hdi rfl
 have' hs1:=K1 _ _ F.at_ hsn
 have' hdd1:=K1 _ _ hdd F.ne
 have' S1:=L1.specs K1 S
 have' sro1:∀b∈bs n,Qz hp1 sa b (sro b):=λb hb=>by
  obtain ⟨⟨fb,s,g1,g2,g3⟩,g4⟩:=hsro b hb
  exact ⟨⟨fb,s,K1 _ _ g1 (aw g1 hdi rfl),g2,L1.tup K1 g3⟩,g4⟩
 intros
 refine b4 (f:=313) hs1 (!0) (F.noM _ (by simp)) ?_
 refine cG f1 ⟨rfl,sa,bs,sro,n,fs,rfl,hs1,F.root,S1,W,sro1,hans,λhp2 j x2 hj hlj=>?_⟩
 intros
 refine i6 hj (by have':=hol.1;simp [lim];exact w7 this) λhp3 t3 y3 e3 hl3 ht3=>?_
 subst e3
 intros
 have' x3:=x2.trans y3
 have' hs3:=ae x3 hs1
 refine ba hs3 (.inl !0) (by have':=F.len;exact w80 this) λhp4 fs4 hf4 hl4 K4 hs4=>?_
 have' ht4:=K4 _ _ ht3 (aw ht3 hs3 rfl)
 have' hj4:=K4 _ _ (ae y3 hj) (aw (ae y3 hj) hs3 rfl)
 replace K4:=(PD.of_ext x3).trans K4
 have' hdi4:=K4 _ _ hdi1 (Ne.symm hsn)
 have' hdd4:=K4 _ _ hdd1 (aw hdd1 hs1 rfl)
 replace hl4:hp.length≤hp4.length:=by have':=bH x2;rw [hl4,hl3];exact B4 hl1 this
 have' isI:∀y,y<n+1->∃fy,hp4[sa y]?=some (.inst 336 fy)∧aj fy "key"=some (.int y):=λy hy=>by
  by_cases e:y=n
  ·subst e;exact ⟨_,hs4,by rw [hf4,ah (by decide+kernel)];exact F.key⟩
  obtain ⟨fy,ty,g1,g2,_⟩:=S1.get hy
  exact ⟨fy,K4 _ _ g1 λz=>e (S.inj y hy n hk z),g2⟩
 intros
 refine bi hj4 (by have':=hol.1;simp [lim];exact w7 this) ?_
 refine bK (f:=so sa) (xs:=sro n) (λ_=>none) rfl hj4 (λy hy Wq E' hW=>?_) ?_
 ·obtain ⟨fy,g1,_⟩:=isI y (hol.2 y hy)
  intros
  refine tB g1 ?_
  intros
  refine bN (λh=>nomatch h) λ_=>iU hW
 rw [show (sro n).filterMap (λ_=>(none:Option V))=[] from by simp]
 refine c0 (!2) λhp5 j5 x5 e5 l5 g5=>?_
 refine i6 g5 (!2) λhq5 i5 y5 e5 k5 _=>?_
 intros
 replace x5:=x5.trans y5
 refine ba (ae x5 hs4) (.inl !0) (by have':=F.len;have':=bB fs "sro" (.obj hp2.length);rw [<-hf4] at this;exact Dg ‹_› this) λhp6 fs6 hfs6 hl6 K6 hs6=>?_
 replace K6:=(PD.of_ext x5).trans K6
 have' nl:∀{i:Nat} {o:O},hp4[i]?=some o->(∀fs,o≠.inst 336 fs)->hp6[i]?=some o:=λh ne=>K6 _ _ h (nQ h hs4 (ne _))
 have' ht6:=nl ht4 (λ_ e=>nomatch e)
 have' hj6:=nl hj4 (λ_ e=>nomatch e)
 have' hdi6:=nl hdi4 (λ_ e=>nomatch e)
 have' hdd6:=nl hdd4 (λ_ e=>nomatch e)
 replace hl6:hp.length≤hp6.length:=by rw [hl6,k5,l5];exact Dv hl4
 have' isI6:∀y,y<n+1->∃fy,hp6[sa y]?=some (.inst 336 fy)∧aj fy "key"=some (.int y):=λy hy=>by
  by_cases e:y=n
  ·subst e;exact ⟨_,hs6,by rw [hfs6,ah (by decide+kernel),hf4,ah (by decide+kernel)];exact F.key⟩
  obtain ⟨fy,g1,g2⟩:=isI y hy
  exact ⟨fy,K6 _ _ g1 λz=>e (S.inj y hy n hk z),g2⟩
 have' KK6:PD hp hp6 (λi=>i=sa n∨i=di):=((PD.sub K1 λi h _=>.inr h).then K4 λi h=>.inl (.inl h)).then K6 λi h=>.inl (.inl h)
 intros
 refine bi hj6 (by have':=hol.1;simp [lim];exact w7 this) ?_
 refine bA (f:=so sa) (xs:=sro n) rfl (DcI hp6 di sa n) ⟨PD.refl _ _,GW _,!1,!1,ep3,[],hdi6,GW _⟩ ?_ ?_ ?_
 ·rintro pre hp' m ⟨K,_⟩;exact K _ _ hj6 (aw hj6 hdi6 rfl)
 ·rintro pre y post hp7 m7 V7 e ⟨K7,hl7,g1,g2,ep7,kv7,hdi7,hkv7⟩ hV
  have' hym:y∈sro n:=b0 e
  obtain ⟨fy,q1,q2⟩:=isI6 y (hol.2 y hym)
  have' hlen:pre.length≤1000:=by have':=congrArg HW e;have':=hol.1;simp at*;exact B7 ‹_› this
  intros
  refine jD (!2) ?_
  intros
  refine bR (af (K7 _ _ q1 (aw q1 hdi6 rfl))) (!0) q2 ?_
  refine c8 (af hdi7) (!2) λep8 _=>?_
  intros
  refine hV _ _ ⟨PD.set (X:=λi=>i=di) (K7.app _) (.inl rfl),by simp;exact w3 hl7,!1,!1,ep8,_,bf (af hdi7),?_⟩
  have' h1:=congrArg HW (cw kv7 (y:Nat) (.obj hp7.length))
  rw [G6] at h1
  rw [h1]
  split
  ·simp;exact w3 hkv7
  simp;exact w71 hkv7
 rintro hp7 m7 ⟨K7,hl7,g1,g2,ep7,kv7,hdi7,hkv7⟩
 have' hs7:=K7 _ _ hs6 hsn
 have' hdd7:=K7 _ _ hdd6 F.ne
 have' ht7:=K7 _ _ ht6 (aw ht6 hdi6 rfl)
 intros
 intros
 refine bR hs7 (!0) (by rw [hfs6,ah (by decide+kernel),hf4,ah (by decide+kernel)];exact F.dep) ?_
 refine se hdd7 ?_
 refine fF ai (!2) ?_
 refine bA (f:=id) (xs:=[]) rfl (λ_ hp' m=>hp'=hp7++[O.tup []]) rfl ?_ ?_ ?_
 ·rintro pre hp' m rfl;exact ai
 ·rintro pre y post hp' m W' e;simp at e
 rintro hp8 m8 rfl
 intros
 refine hQ _ fs6 hp2.length ((KK6.then K7 λi h=>.inl (.inr h)).app _) (af hs7) ?_ (λy h1 h2=>?_) ?_ (af ht7) (by simp;exact Co hl6 hl7)
 ·rw [hfs6,hf4];exact (F.noM.put (by decide+kernel)).put (by decide+kernel)
 ·rw [hfs6,ah h2,hf4,ah h1]
 rw [hfs6,ah (by decide+kernel),hf4];exact br ..
theorem Qh.keep (h:Qh hp s D) (K:PD hp hp' X) (hs:¬X s) (hd:∀i,X i->D≤i) (ht:∀i vs,X i->hp[i]?≠some (.tup vs)):Qh hp' s D:=by
 obtain ⟨fs,dd,ep,kv,h1,h2,h3,h4,h5,h6⟩:=h
 exact ⟨fs,dd,ep,kv,K _ _ h1 hs,h2,h3,h4,K _ _ h5 (λz=>by have:=hd _ z;exact w9 h4 this),h6.keep λi vs e=>K _ _ e λz=>ht i vs z e⟩
theorem Qh.turn (h:Qh hp s D) (hdd:hp[dd]?=some (.dict ep kv)) (K:PD hp hp' (λi=>i=dd)) (h':hp'[dd]?=some (.dict ep' kv')) (ok:QI hp' kv'):Qh hp' s D:=by
 obtain ⟨fs,dd',ep1,kv1,h1,h2,h3,h4,h5,h6⟩:=h
 by_cases e:dd'=dd
 ·subst e
  exact ⟨fs,dd',ep',kv',K _ _ h1 (aw h1 hdd rfl),h2,h3,h4,h',ok⟩
 exact ⟨fs,dd',ep1,kv1,K _ _ h1 (aw h1 hdd rfl),h2,h3,h4,K _ _ h5 e,h6.keep λi vs e=>K _ _ e (aw e hdd rfl)⟩
theorem Qz.keep (h:Qz hp sa k l) (K:PD hp hp' X) (hs:¬X (sa k)) (ht:∀i vs,X i->hp[i]?≠some (.tup vs)):Qz hp' sa k l:=by
 obtain ⟨⟨fs,s,h1,h2,h3⟩,h4⟩:=h
 exact ⟨⟨fs,s,K _ _ h1 hs,h2,K _ _ h3 λz=>ht _ _ z h3⟩,h4⟩
def XS (hp:List O) (D s di:Nat) (i:Nat):Prop:=i=s∨i=di∨(i<D∧Ex2 λep kv=>hp[i]?=some (.dict ep kv))
inductive Q1 (hd:Bool) (vs:List V) (hp:List O) (Q:V->List O->Prop) (E:Nat->List O->Prop):Prop
 |mk (z1:hd=true) (sa:Nat->Nat) (bs:Nat->List Nat) (sro:Nat->List Nat) (n D dd di t t0:Nat) (fs:List (Str×V)) (z2:vs=[so sa n,.obj t]) (z3:Q4 hp sa bs n D dd di fs) (z4:fs.length≤20) (z5:aj fs "bases"=some (.obj t0)) (z6:hp[t0]?=some (.tup [])) (z7:hp[t]?=some (.tup ((bs n).map (so sa)))) (z8:PL hp sa n bs) (z9:aX bs (n+1)) (z10:(∀i<n+1,∀j<n+1,sa i=sa j->i=j)) (z11:(∀b<n,Qz hp sa b (sro b))) (z12:(∀b<n,Qh hp (sa b) D)) (z13:bT 204 (λj=>some (sro j)) bs n=some (sro n)) (z14:Ord n (sro n)) (z15:∀hp' fs' s' ep',PD hp hp' (XS hp D (sa n) di)->hp'[sa n]?=some (.inst 336 fs')->PX fs'->aj fs' "key"=some (.int n)->aj fs' "bases"=some (.obj t)->aj fs' "_dependents"=some (.obj dd)->hp'[dd]?=some (.dict ep' [])->aj fs' "sro"=some (.obj s')->hp'[s']?=some (.tup ((sro n).map (so sa)))->(∀b<n,Qh hp' (sa b) D)->hp.length≤hp'.length->Q .none hp'):Q1 hd vs hp Q E
inductive SI (hp1:List O) (D:Nat) (sa:Nat->Nat) (n t:Nat) (pre:List Nat) (hp2:List O) (m:bY):Prop
 |mk (z1:PD hp1 hp2 (λi=>i<D∧Ex2 λep kv=>hp1[i]?=some (.dict ep kv))) (z2:hp1.length≤hp2.length) (z3:m "self"=some (so sa n)) (z4:m "bases"=some (.obj t)) (z5:∀b<n,Qh hp2 (sa b) D):SI hp1 D sa n t pre hp2 m
theorem uT (f1:fn 294 []=some Ri) (f2:fn 318 []=some Qp) (h:Q1 hd vs hp Q E):
  aq (gam fn) 30 (aF (KH P) 308) (an (KH P) 308) (aD ["self","bases"]) hd vs hp Q E:=by
 obtain ⟨rfl,sa,bs,sro,n,D,dd,di,t,t0,fs,rfl,F,hf20,hb0,ht0,ht,S,W,inj,hsro,hdep,hans,hord,hQ⟩:=h
 have' N7:=W.1
 obtain ⟨hb3,hbN⟩:=W.2 n (HI n)
 obtain ⟨ep2,hdd⟩:=F.depE
 obtain ⟨ep1,kv1,hdi,hkv1⟩:=F.implE
 have' hsl:=aE F.at_
 refine aJ (ua fn true) rfl (by decide+kernel) ?_
 dsimp only [HT,Hi]
 intros
 refine bR F.at_ (!0) hb0 ?_
 refine fF ht0 (!2) ?_
 refine bA (f:=id) (xs:=[]) rfl (λ_ hp' m=>P8 (hp'=hp) (m "self"=some (so sa n)) (m "bases"=some (.obj t))) ⟨rfl,!1,!1⟩ ?_ ?_ ?_
 ·rintro pre hp' m ⟨rfl,_⟩;exact ht0
 ·rintro pre y post hp' m W' e;simp at e
 rintro hp' m ⟨rfl,hm1,hm2⟩
 intros
 refine ba F.at_ (.inl !0) (by have':=F.len;exact w80 this) λhp1 fs1 hf1 hl1 K1 hs1=>?_
 have' nsa:∀b<n,sa b≠sa n:=λb hb e=>by have':=inj b (w20 hb) n (w10) e;exact w61 hb this
 have' ntup:∀i vs,i=sa n->hp'[i]?≠some (.tup vs):=λi vs e h=>by subst e;rw [F.at_] at h;exact gr h rfl
 have' S1:PL hp1 sa n bs:=⟨λk hk=>by
  obtain ⟨fk,tk,g1,g2,g3,g4⟩:=S.get hk
  exact ⟨fk,tk,K1 _ _ g1 (nsa k hk),g2,g3,K1 _ _ g4 λz=>ntup _ _ z g4⟩,S.inj,S.few,S.N7⟩
 have' ht1:=K1 _ _ ht λz=>ntup _ _ z ht
 have' sro1:∀b<n,Qz hp1 sa b (sro b):=λb hb=>(hsro b hb).keep K1 (nsa b hb) ntup
 have' dep1:∀b<n,Qh hp1 (sa b) D:=λb hb=>by
  obtain ⟨fb,d',e',k',g1,g2,g3,g4,g5,g6⟩:=hdep b hb
  exact ⟨fb,d',e',k',K1 _ _ g1 (nsa b hb),g2,g3,g4,K1 _ _ g5 (aw g5 F.at_ rfl),g6.keep λi vs e=>K1 _ _ e λz=>ntup _ _ z e⟩
 have' hdd1:=K1 _ _ hdd (aw hdd F.at_ rfl)
 have' hdi1:=K1 _ _ hdi (aw hdi F.at_ rfl)
 have' dict1:∀(i:Nat) ep kv,hp1[i]?=some (.dict ep kv)->hp'[i]?=some (.dict ep kv):=λi ep kv h=>by
  have' ho:=G3 (hl1▸aE h)
  have':=K1 _ _ ho (aw h hs1 rfl)
  rw [h] at this
  exact ho.trans this.symm
 have' few:∀k<n+1,(bs k).length≤3∧∀b∈bs k,b<n+1:=λk hk=>⟨(W.2 k hk).1,λb hb=>by have':=(W.2 k hk).2 b hb;exact w41 hk this⟩
 intros
 refine fF ht1 (!2) ?_
 refine bA (f:=so sa) (xs:=bs n) rfl (SI hp1 D sa n t)
  ⟨PD.refl _ _,GW _,hm1,hm2,dep1⟩ ?_ ?_ ?_
 ·rintro pre hp2 m ⟨K,_⟩;exact K _ _ ht1 λ⟨_,_,_,z⟩=>by rw [ht1] at z;exact gr z rfl
 ·rintro pre b post hp2 m2 V2 e ⟨K2,hl2,g1,g2,dep2⟩ hV
  have' hbn:b<n:=hbN b (by rw [e];simp)
  obtain ⟨fb,d',e',k',q1,q2,q3,q4,q5,q6⟩:=dep2 b hbn
  have' hs2:=K2 _ _ hs1 λ⟨_,_,_,z⟩=>by rw [hs1] at z;exact gr z rfl
  intros
  refine b4 (f:=294) q1 (!0) (q2 _ (by simp)) ?_
  intros
  refine cG f1 ⟨sa b,sa n,fb,fs1,d',e',k',n,rfl,q1,q3,q5,q6,hs2,by rw [hf1,ah (by decide+kernel)];exact F.key,by exact w5,by exact DY N7,λhp3 ep3 kv3 K3 hd3 ok3=>?_⟩
  intros
  refine hV _ _ ⟨K2.then K3 λi h=>?_,?_,!1,!1,λc hc=>(dep2 c hc).turn q5 K3 hd3 ok3⟩
  ·subst h
   by_cases z:i<hp1.length
   ·refine .inl ⟨q4,?_⟩
    obtain ⟨o,ho⟩:∃o,hp1[i]?=some o:=⟨_,G3 z⟩
    by_cases hdct:Ex2 λep kv=>o=O.dict ep kv
    ·obtain ⟨ep,kv,rfl⟩:=hdct;exact ⟨ep,kv,ho⟩
    have':=K2 _ _ ho λ⟨_,ep,kv,h⟩=>hdct ⟨ep,kv,by rw [ho] at h;(replace h:=ay h;subst h);rfl⟩
    rw [q5] at this;(replace this:=ay this;subst this);exact absurd ⟨_,_,rfl⟩ hdct
   exact .inr (w24 z)
  exact G2 hl2 (K3.len hd3)
 rintro hp2 m2 ⟨K2,hl2,g1,g2,dep2⟩
 have' nd:∀{i:Nat} {o:O},hp1[i]?=some o->(∀ep kv,o≠.dict ep kv)->hp2[i]?=some o:=λh ne=>K2 _ _ h λ⟨_,ep,kv,z⟩=>ne ep kv (by rw [h] at z;(replace z:=ay z;subst z);rfl)
 have' hs2:=nd hs1 (λ_ _ e=>nomatch e)
 have' ht2:=nd ht1 (λ_ _ e=>nomatch e)
 have' hdd2:=K2 _ _ hdd1 λ⟨z,_⟩=>by have':=F.lowd;exact w9 z this
 have' hdi2:=K2 _ _ hdi1 λ⟨z,_⟩=>by have':=F.lowi;exact w9 z this
 have' S2:PL hp2 sa (n+1) bs:=⟨λk hk=>by
  by_cases e:k=n
  ·subst e
   exact ⟨_,t,hs2,by rw [hf1,ah (by decide+kernel)];exact F.key,by rw [hf1];exact br ..,ht2⟩
  obtain ⟨fk,tk,g1,g2,g3,g4⟩:=S1.get (k:=k) (w0 hk e)
  exact ⟨fk,tk,nd g1 (λ_ _ e=>nomatch e),g2,g3,nd g4 (λ_ _ e=>nomatch e)⟩,inj,few,W.1⟩
 have' sro2:∀b<n,Qz hp2 sa b (sro b):=λb hb=>by
  obtain ⟨⟨fb,s,g1,g2,g3⟩,g4⟩:=sro1 b hb
  exact ⟨⟨fb,s,nd g1 (λ_ _ e=>nomatch e),g2,nd g3 (λ_ _ e=>nomatch e)⟩,g4⟩
 intros
 have' F2:Q4 hp2 sa bs n D dd di fs1:=⟨hs2,by rw [hf1];exact F.noM.put (by decide+kernel),by have':=bB fs "bases" (.obj t);rw [<-hf1] at this;exact Da hf20 this,by rw [hf1,ah (by decide+kernel)];exact F.key,by rw [hf1,ah (by decide+kernel)];exact F.root,by rw [hf1,ah (by decide+kernel)];exact F.dep,by rw [hf1,ah (by decide+kernel)];exact F.impl,F.lowd,F.lowi,F.ne,⟨_,hdd2⟩,⟨_,_,hdi2,hkv1⟩⟩
 refine b4 (f:=318) hs2 (!0) (F2.noM _ (by simp)) ?_
 intros
 refine cG f2 ⟨rfl,sa,bs,sro,n,D,dd,di,_,_,rfl,F2,S2,W,λb hb=>sro2 b (hbN b hb),hans,hord,λhp3 fs3 s3 K3 hs3 noM3 same3 hsr3 ht3 hl3=>?_⟩
 intros
 refine hQ hp3 fs3 s3 ep2 ?_ hs3 noM3 ?_ ?_ ?_ (K3 _ _ hdd2 ?_) hsr3 ht3 (λb hb=>?_) (Bi hl1 hl2 hl3)
 ·refine ((PD.sub K1 λi h _=>.inl h).then K2 λi h=>?_).then K3 λi h=>?_
  ·obtain ⟨h1,ep,kv,h2⟩:=h
   exact .inl (.inr (.inr ⟨h1,ep,kv,dict1 _ _ _ h2⟩))
  rcases h with h|h
  ·exact .inl (.inl h)
  exact .inl (.inr (.inl h))
 ·rw [same3 _ (by decide+kernel) (by decide+kernel)];exact F2.key
 ·rw [same3 _ (by decide+kernel) (by decide+kernel),hf1];exact br ..
 ·rw [same3 _ (by decide+kernel) (by decide+kernel)];exact F2.dep
 ·rintro (h|h)
  ·exact aw hdd2 hs2 rfl h
  exact F.ne h
 obtain ⟨fb,d',e',k',q1,q2,q3,q4,q5,q6⟩:=dep2 b hb
 have' nt:∀(i:Nat) vs,hp2[i]?=some (O.tup vs)->hp3[i]?=some (O.tup vs):=λi vs h=>K3 _ _ h (by
  rintro (z|z)
  ·subst z;rw [hs2] at h;exact gr h rfl
  subst z;rw [hdi2] at h;exact gr h rfl)
 refine ⟨fb,d',e',k',K3 _ _ q1 ?_,q2,q3,q4,K3 _ _ q5 ?_,q6.keep nt⟩
 ·rintro (z|z)
  ·exact nsa b hb z
  rw [z,hdi2] at q1;exact gr q1 rfl
 rintro (z|z)
 ·rw [z,hs2] at q5;exact gr q5 rfl
 have':=F.lowi;exact BK q4 z this
structure Qd (hp:List O) (sa:Nat->Nat) (bs:Nat->List Nat) (sro:Nat->List Nat) (n D:Nat):Prop where
 specs:PL hp sa n bs
 sro:∀b<n,Qz hp sa b (sro b)
 dep:∀b<n,Qh hp (sa b) D
theorem Qh.more (h:Qh hp s D) (l:D≤D'):Qh hp s D':=by
 obtain ⟨fs,dd,ep,kv,h1,h2,h3,h4,h5,h6⟩:=h
 exact ⟨fs,dd,ep,kv,h1,h2,h3,by exact Cr l h4,h5,h6⟩
def mD (s k b:V):bY:=λx=>HQ x [(("self":Str),s),("key",k),("bases",b),("root",.none)]
inductive QN (hd:Bool) (vs:List V) (hp:List O) (Q:V->List O->Prop) (E:Nat->List O->Prop):Prop
 |mk (z1:hd=true) (sa:Nat->Nat) (bs:Nat->List Nat) (sro:Nat->List Nat) (n t D:Nat) (z2:vs=[so sa n,.int n,.obj t]) (z3:hp[sa n]?=some (.inst 336 [])) (z4:hp[t]?=some (.tup ((bs n).map (so sa)))) (z5:D≤hp.length) (z6:Qd hp sa bs sro n D) (z7:aX bs (n+1)) (z8:(∀i<n+1,∀j<n+1,sa i=sa j->i=j)) (z9:bT 204 (λj=>some (sro j)) bs n=some (sro n)) (z10:Ord n (sro n)) (z11:∀hp',Qd hp' sa bs sro (n+1) hp'.length->(∀(i:Nat) vs,hp[i]?=some (O.list vs)->hp'[i]?=some (O.list vs))->hp.length≤hp'.length->Q .none hp'):QN hd vs hp Q E
theorem sf (f1:fn 308 []=some Q1) (h:QN hd vs hp Q E):
  Ex3 λs k b=>vs=[s,k,b]∧cU (ev (gam fn) hd 30) ⟨aF (KH P) 279,λ_=>true⟩ (an (KH P) 279) ⟨hp,mD s k b⟩ (mW Q) (iz E):=by
 obtain ⟨rfl,sa,bs,sro,n,t,D,rfl,hs,ht,hDl,Wo,W,inj,hans,hord,hQ⟩:=h
 refine ⟨_,_,_,rfl,?_⟩
 rw [tW fn true]
 unfold mD
 have' hsl:=aE hs
 have' nsa:∀b<n,sa b≠sa n:=λb hb e=>by have':=inj b (w20 hb) n (w10) e;exact w61 hb this
 intros
 refine ba hs (.inl !0) (by simp) λhp1 fs1 hf1 l1 K1 hs1=>?_
 have' fl1:fs1.length≤1:=by rw [hf1];exact bB ..
 intros
 refine ba hs1 (.inl !0) (jT fl1) λhp2 fs2 hf2 l2 K2 hs2=>?_
 have' fl2:fs2.length≤2:=by rw [hf2];exact fsl fl1
 have' K2:=K1.trans K2
 have' l2:=l2.trans l1
 have' hl2n:=aE hs2
 intros
 refine oK λq3 j3 x3 e3 w3 g3=>?_
 obtain rfl:j3=hp.length:=by rw [e3,l2]
 intros
 refine ba (ae x3 hs2) (.inl !0) (jT fl2) λhp3 fs3 hf3 l3 K3 hs3=>?_
 have' fl3:fs3.length≤3:=by rw [hf3];exact fsl fl2
 have' hdd3:=K3 _ _ g3 (aw g3 (ae x3 hs2) rfl)
 have' K3:=(PD.of_ext x3).trans K3
 have' l3:hp3.length=hp.length+1:=by rw [l3,w3,l2]
 intros
 refine rU (!2) λq4 j4 x4 e4 w4 g4=>?_
 obtain rfl:j4=hp.length+1:=by rw [e4,l3]
 intros
 refine ba (ae x4 hs3) (.inl !0) (jT fl3) λhp4 fs4 hf4 l4 K4 hs4=>?_
 have' fl4:fs4.length≤4:=by rw [hf4];exact fsl fl3
 have' ht4:=K4 _ _ g4 (aw g4 (ae x4 hs3) rfl)
 have' K4:=(PD.of_ext x4).trans K4
 have' l4:hp4.length=hp.length+2:=by rw [l4,w4,l3]
 intros
 refine oK λq5 j5 x5 e5 w5 g5=>?_
 obtain rfl:j5=hp.length+2:=by rw [e5,l4]
 intros
 refine ba (ae x5 hs4) (.inl !0) (jT fl4) λhp5 fs5 hf5 l5 K5 hs5=>?_
 have' fl5:fs5.length≤5:=by rw [hf5];exact fsl fl4
 have' hdi5:=K5 _ _ g5 (aw g5 (ae x5 hs4) rfl)
 have' K5:=(PD.of_ext x5).trans K5
 have' l5:hp5.length=hp.length+3:=by rw [l5,w5,l4]
 intros
 refine rU (!2) λq6 j6 x6 e6 w6 g6=>?_
 obtain rfl:j6=hp.length+3:=by rw [e6,l5]
 intros
 refine ba (ae x6 hs5) (.inl !0) (jT fl5) λhp6 fs6 hf6 l6 K6 hs6=>?_
 have' fl6:fs6.length≤6:=by rw [hf6];exact fsl fl5
 have' K6:=(PD.of_ext x6).trans K6
 have' l6:hp6.length=hp.length+4:=by rw [l6,w6,l5]
 intros
 refine rU (!2) λq7 j7 x7 e7 w7 g7=>?_
 obtain rfl:j7=hp.length+4:=by rw [e7,l6]
 intros
 refine ba (ae x7 hs6) (.inl !0) (jT fl6) λhp7 fs7 hf7 l7 K7 hs7=>?_
 have' fl7:fs7.length≤7:=by rw [hf7];exact fsl fl6
 have' K7:=(PD.of_ext x7).trans K7
 have' l7:hp7.length=hp.length+5:=by rw [l7,w7,l6]
 have' hdi7:=(K6.trans K7) _ _ hdi5 (aw hdi5 hs5 rfl)
 have' K5:=K5.trans (K6.trans K7)
 have' ht7:=K5 _ _ ht4 (aw ht4 hs4 rfl)
 have' K4:=K4.trans K5
 have' hdd7:=K4 _ _ hdd3 (aw hdd3 hs3 rfl)
 have' K7:=K2.trans (K3.trans K4)
 have' ntup:∀i vs,i=sa n->hp[i]?≠some (.tup vs):=λi vs e h=>by subst e;rw [hs] at h;exact gr h rfl
 have' htt:=K7 _ _ ht λz=>ntup _ _ z ht
 have' S7:PL hp7 sa n bs:=⟨λk hk=>by
  obtain ⟨fk,tk,g1,g2,g3,g4⟩:=Wo.specs.get hk
  exact ⟨fk,tk,K7 _ _ g1 (nsa k hk),g2,g3,K7 _ _ g4 λz=>ntup _ _ z g4⟩,Wo.specs.inj,Wo.specs.few,Wo.specs.N7⟩
 have' sro7:∀b<n,Qz hp7 sa b (sro b):=λb hb=>(Wo.sro b hb).keep K7 (nsa b hb) ntup
 have' dep7:∀b<n,Qh hp7 (sa b) hp.length:=λb hb=>by
  obtain ⟨fb,d',e',k',g1,g2,g3,g4,g5,g6⟩:=(Wo.dep b hb).more hDl
  exact ⟨fb,d',e',k',K7 _ _ g1 (nsa b hb),g2,g3,g4,K7 _ _ g5 (aw g5 hs rfl),g6.keep λi vs e=>K7 _ _ e λz=>ntup _ _ z e⟩
 have' F:Q4 hp7 sa bs n hp.length hp.length (hp.length+2) fs7:=by
  refine ⟨hs7,?_,by exact Er fl7,?_,?_,?_,?_,GW _,by exact Eu,by exact D7,⟨_,hdd7⟩,⟨_,_,hdi7,HK _⟩⟩
  ·rw [hf7,hf6,hf5,hf4,hf3,hf2,hf1]
   refine PX.put (PX.put (PX.put (PX.put (PX.put (PX.put (PX.put (λ_ _=>rfl) ?_) ?_) ?_) ?_) ?_) ?_) ?_<;>decide+kernel
  ·rw [hf7,ah (by decide+kernel),hf6,ah (by decide+kernel),hf5,ah (by decide+kernel),hf4,ah (by decide+kernel),hf3,ah (by decide+kernel),hf2,ah (by decide+kernel),hf1];exact br ..
  ·rw [hf7,ah (by decide+kernel),hf6,ah (by decide+kernel),hf5,ah (by decide+kernel),hf4,ah (by decide+kernel),hf3,ah (by decide+kernel),hf2];exact br ..
  ·rw [hf7,ah (by decide+kernel),hf6,ah (by decide+kernel),hf5,ah (by decide+kernel),hf4,ah (by decide+kernel),hf3];exact br ..
  rw [hf7,ah (by decide+kernel),hf6,ah (by decide+kernel),hf5];exact br ..
 have' hb7:aj fs7 "bases"=some (.obj (hp.length+1)):=by rw [hf7,ah (by decide+kernel),hf6,ah (by decide+kernel),hf5,ah (by decide+kernel),hf4];exact br ..
 intros
 refine b4 (f:=308) hs7 (!0) (F.noM _ (by simp)) ?_
 intros
 refine lV htt ?_
 refine cG f1 ⟨rfl,sa,bs,sro,n,hp.length,hp.length,hp.length+2,t,hp.length+1,fs7,rfl,F,by exact Ep fl7,hb7,ht7,htt,S7,W,inj,sro7,dep7,hans,hord,λhp8 fs8 s8 ep8 K8 hs8 noM8 key8 b8 d8 dd8 sr8 t8 dep8 hl8=>?_⟩
 intros
 have' nX:∀{i:Nat} {o:O},hp7[i]?=some o->(∀ep kv,o≠.dict ep kv)->i≠sa n->hp8[i]?=some o:=λ{i o} h ne n'=>K8 _ _ h λz=>by
  rcases z with z|z|⟨_,ep,kv,z⟩
  ·exact n' z
  ·subst z;rw [hdi7] at h;(replace h:=ay h;subst h);exact ne _ _ rfl
  rw [h] at z;(replace z:=ay z;subst z);exact ne _ _ rfl
 have' tX:∀{i:Nat} {vs:List V},hp7[i]?=some (.tup vs)->hp8[i]?=some (.tup vs):=λ{i vs} h=>nX h (λ_ _ e=>nomatch e) (aw h hs7 rfl)
 refine hQ hp8 ⟨⟨λk hk=>?_,inj,λk hk=>⟨(W.2 k hk).1,λb hb=>by have':=(W.2 k hk).2 b hb;exact w41 hk this⟩,W.1⟩,λb hb=>?_,λb hb=>?_⟩ (λi vs h=>?_) (w43 l7 hl8)
 ·by_cases e:k=n
  ·subst e;exact ⟨fs8,t,hs8,key8,b8,tX htt⟩
  obtain ⟨fk,tk,g1,g2,g3,g4⟩:=S7.get (k:=k) (w0 hk e)
  exact ⟨fk,tk,nX g1 (λ_ _ e=>nomatch e) (nsa k (w0 hk e)),g2,g3,tX g4⟩
 ·by_cases e:b=n
  ·subst e;exact ⟨⟨fs8,s8,hs8,sr8,t8⟩,hord⟩
  obtain ⟨⟨fb,s,g1,g2,g3⟩,g4⟩:=sro7 b (w0 hb e)
  exact ⟨⟨fb,s,nX g1 (λ_ _ e=>nomatch e) (nsa b (w0 hb e)),g2,tX g3⟩,g4⟩
 ·by_cases e:b=n
  ·subst e;exact ⟨fs8,hp.length,ep8,[],hs8,noM8,d8,by exact BX l7 hl8,dd8,⟨λ_ _ h=>(nomatch h),by simp,λ_ h=>(nomatch h)⟩⟩
  exact (dep8 b (w0 hb e)).more (w43 l7 hl8)
 have' h7:=K7 _ _ h (aw h hs rfl)
 exact nX h7 (λ_ _ e=>nomatch e) (aw h7 hs7 rfl)
inductive Q2 (hd:Bool) (vs:List V) (hp:List O) (Q:V->List O->Prop) (E:Nat->List O->Prop):Prop
 |mk (z1:hd=true) (sa:Nat->Nat) (N:Nat) (bs:Nat->List Nat) (ans:Nat->Option (List Nat)) (k:Nat) (s:Bool) (sp:Nat) (z2:vs=[.obj sp,.int k,.bool s]) (z3:hp[sp]?=some (.list ((Hf N).map (so sa)))) (z4:PL hp sa N bs) (z5:aX bs N) (z6:k<N) (z7:(∀j<N,ans j=bT (i9 s) ans bs j∧∀l,ans j=some l->dn N l)) (z8:(∀l hp' j,ans k=some l->hp<+:hp'->hp'[j]?=some (.list ((l.map λ(x:Nat)=>(x:Int)).map .int))->Q (.obj j) hp')) (z9:∀hp',ans k=none->hp<+:hp'->Q .none hp'):Q2 hd vs hp Q E
theorem uU (f1:fn 242 ["strict"]=some Rf) (h:Q2 hd vs hp Q E):
  aq (gam fn) 30 (aF (KH P) 407) (an (KH P) 407) (aD ["specs","node","strict"]) hd vs hp Q E:=by
 obtain ⟨rfl,sa,N,bs,ans,k,s,sp,rfl,hsp,S,W,hk,hans,hQ,hN⟩:=h
 have N7:=S.N7
 refine aJ (uo fn true) rfl (by decide+kernel) ?_
 dsimp only [HT,Hi]
 refine q0 λ_ _=>?_
 refine vt rfl ?_
 intros
 intros
 refine bQ hsp (!2) (v:=so sa k) (by rw [Hg,IE hk];rfl) ?_
 intros
 refine oz f1 ⟨rfl,sa,N,bs,ans,k,s,rfl,S,W,hk,hans,λl hp1 j hl x1 hj hlj=>?_,λhp1 hl x1=>?_⟩
 ·have hok:=(hans k hk).2 l hl
  have S1:=S.up x1
  have hsp1:=ae x1 hsp
  intros
  refine tA hj ?_
  intros
  refine bN (λh=>nomatch h) λ_=>?_
  intros
  refine bi hj (by have:=hok.1;simp [lim];exact w7 this) ?_
  refine eD (f:=so sa) (xs:=l) (RwI hp1 (It λ(x:Nat)=>[(x:Int)])) rfl ⟨GX _,[],rfl,rfl,(λ_ h=>nomatch h)⟩ (λpre acc hp2 h=>ae h.ext hj) ?_ ?_
  ·rintro pre x post acc hp2 W' E' e ⟨x2,hs,rfl,hhs,hrs⟩ hW hE'
   have hxm:x∈l:=b0 e
   have hxN:x<N:=hok.2 x hxm
   have S2:=S1.up x2
   have hsp2:=ae x2 hsp1
   refine dl ?_
   intros
   refine gG hsp2 (!2) ?_
   rw [G6,HA]
   refine eW (!2) ?_
   refine bK (f:=λ(j:Nat)=>V.int j) (xs:=Hf N) (λy=>if y=x then some (.int y) else none) rfl trivial (λy hy Wq E'' hW'=>?_) ?_
   ·have hyN:y<N:=H9.mp hy
    intros
    refine bQ hsp2 (!2) (v:=so sa y) (by rw [Hg,IE hyN];rfl) ?_
    intros
    refine wd (S2.isI hyN) (S2.isI hxN) ?_
    rw [S2.is hyN hxN]
    intros
    refine bN (λhc=>?_) λhc=>?_
    ·refine dl ?_
     intros
     rw [RA (by simpa using hc)] at hW';exact hW'
    refine iU ?_
    rw [Rz (by simpa using hc)] at hW';exact hW'
   have hone:(Hf N).filterMap (λy=>if y=x then some (V.int y) else none)=[V.int x]:=by
    have':∀n,(Hf n).filterMap (λy=>if y=x then some (V.int y) else none)=if x<n then [V.int x] else []:=by
     intro n
     induction n with
     |zero=>rfl
     |succ n ih=>
      rw [List.range_succ,HH,ih]
      by_cases h1:x<n
      ·rw [RA h1,RA (w20 h1)]
       have':n≠x:=CT h1
       simp [this]
      rw [Rz h1]
      by_cases h2:n=x
      ·subst h2;simp
      rw [Rz (DC h1 h2)];simp [h2]
    rw [this,RA hxN]
   rw [hone]
   refine b7 (aR (!2) ?_)
   intros
   refine hW (some _) _ ⟨x2.trans (GV _ _),hs++[(hp2.length,[(x:Int)])],by simp [adr],?_,λq hq=>?_⟩
   ·show It _ _=_
    rw [Hp];show rws hs++_=_
    rw [hhs];simp
   rcases G8.mp hq with hq|hq
   ·exact af (hrs q hq)
   rw [GY.mp hq];exact ai
  rintro acc hp2 ⟨x2,hs,rfl,hhs,hrs⟩
  have' hsl:hs.length=l.length:=by have:=congrArg HW hhs;simpa using this
  have hol:=hok.1
  refine aR (!2) ?_
  intros
  have' hj2:=af (l:=[O.list (hs.map adr)]) (ae x2 hj)
  refine ct hj2 (!3) ?_
  intros
  refine ck hj2 (lmt (D9 hol)) ?_
  intros
  have hjl:=aE hj
  have hjl2:=bH x2
  have' K3:PD (hp2++[O.list (hs.map adr)]) ((hp2++[O.list (hs.map adr)]).set j (.list (l.map (so sa)++[V.none]))) (λi=>i=j):=PD.set (X:=λi=>i=j) (PD.refl _ _) (.inl rfl)
  have' hn3:=K3 _ _ (ai (hp:=hp2) (o:=O.list (hs.map adr))) (w29 hjl hjl2)
  have' x03:hp<+:(hp2++[O.list (hs.map adr)]).set j (.list (l.map (so sa)++[V.none])):=cF (((x1.trans x2)).trans (GV _ _)) hlj
  have' hnew:∀q∈hs,((hp2++[O.list (hs.map adr)]).set j (.list (l.map (so sa)++[V.none])))[q.1]?=some (.list (q.2.map .int)):=λq hq=>by
   refine K3 _ _ (af (hrs q hq)) λz=>?_
   have h1:=hrs q hq
   rw [z,ae x2 hj] at h1
   have:q.2∈rws hs:=G1.mpr ⟨q,hq,rfl⟩
   rw [hhs] at this
   obtain ⟨y,_,hy⟩:=G1.mp this
   rw [<-hy] at h1
   induction l using Lc with
   |nil=>simp at h1
   |cons a l'=>simp [so] at h1
  generalize (hp2++[O.list (hs.map adr)]).set j (.list (l.map (so sa)++[V.none]))=hp3 at hn3 x03 hnew
  refine bi hn3 (!2) ?_
  refine bK (f:=adr) (xs:=hs) (λq=>some (.int (q.2.headD 0))) rfl hn3 (λq hq Wq E' hW=>?_) ?_
  ·have:q.2∈rws hs:=G1.mpr ⟨q,hq,rfl⟩
   rw [hhs] at this
   obtain ⟨y,_,hy⟩:=G1.mp this
   have hq3:=hnew q hq
   rw [<-hy] at hq3 hW
   refine dl ?_
   intros
   refine gG hq3 (!2) ?_
   refine vr ?_
   intros
   refine b7 (jq (λ_=>?_) λh=>by simp at h)
   intros
   refine ed hq3 (!2) ?_
   intros
   exact hW
  have hfin:hs.filterMap (λq=>some (V.int (q.2.headD 0)))=(l.map λ(x:Nat)=>(x:Int)).map .int:=by
   have e1:hs.filterMap (λq=>some (V.int (q.2.headD 0)))=((rws hs).map λr=>V.int (r.headD 0)):=by
    rw [Hx,<-Ip];rfl
   rw [e1,hhs,Hx,Hx];rfl
  rw [hfin]
  refine aR (!2) ?_
  intros
  exact hQ l _ _ hl (x03.trans (GV _ _)) ai
 refine ⟨rfl,?_⟩
 rw [RA (show (gam fn).sub 59 59=true from rfl)]
 intros
 exact hN hp1 hl x1
def pT (C:Nat) (bs:Nat->List Nat):Nat->Nat->Option (List Nat)
 |0,_=>none
 |n+1,k=>if k=n then bT C (pT C bs n) bs n else pT C bs n k
def dG (C:Nat) (bs:Nat->List Nat) (k:Nat):Option (List Nat):=bT C (pT C bs k) bs k
theorem jc (h:∀b∈bs k,a1 b=a2 b):bT C a1 bs k=bT C a2 bs k:=by
 have:(bs k).mapM a1=(bs k).mapM a2:=by
  generalize bs k=l at h
  induction l with
  |nil=>rfl
  |cons b l ih=>rw [Ie,Ie,h b (.head _),ih λc hc=>h c (.tail _ hc)]
 unfold bT;rw [this]
theorem uV (C:Nat) (bs:Nat->List Nat):∀n k,k<n->pT C bs n k=dG C bs k:=by
 intro n
 induction n with
 |zero=>intro k h;exact absurd h (Io _)
 |succ n ih=>
  intro k h
  show (if k=n then bT C (pT C bs n) bs n else pT C bs n k)=_
  split
  ·rename_i e;subst e;rfl
  exact ih k (w0 h ‹_›)
theorem gk (W:aX bs N) (hk:k<N):dG C bs k=bT C (dG C bs) bs k:=by
 refine jc λb hb=>uV C bs k b ((W.2 k hk).2 b hb)
theorem jd (W:aX bs N):∀k,k<N->∀l,dG C bs k=some l->Ord k l:=by
 intro k
 induction k using JW with
 |ind k ih=>
  intro hk l hl
  rw [gk W hk] at hl
  exact mz W hk (λb hb l' e=>ih b ((W.2 k hk).2 b hb) (by have:=(W.2 k hk).2 b hb;exact w1 hk this) l' e) l hl
abbrev co (x:Nat):Int:=(x:Int)
theorem nV:∀x y,co x=co y->x=y:=λx y h=>Int.ofNat.inj h
structure Rl (world:List (List Int)) (bs:Nat->List Nat):Prop where
 ok:cf world
 eq:∀k r,world[k]?=some r->r=(bs k).map co
theorem Rl.below (S:Rl world bs):aX bs world.length:=by
 refine ⟨S.ok.1,λk hk=>?_⟩
 have h:=G3 hk
 have e:=S.eq k _ h
 obtain ⟨h1,h2⟩:=S.ok.2 k _ h
 rw [e] at h1 h2
 refine ⟨by simpa using h1,λb hb=>?_⟩
 have':=h2 (co b) (G1.mpr ⟨b,hb,rfl⟩)
 simp [co] at this;exact CR this
theorem pU (S:Rl world bs):∀n k,k<world.length->bp world n k=(bC bs n k).map co:=by
 intro n
 induction n with
 |zero=>intro k _;rfl
 |succ n ih=>
  intro k hk
  have h:=G3 hk
  have e:=S.eq k _ h
  have W:=S.below
  show (k:Int)::((world[k]?).getD []).flatMap _=(k::(bs k).flatMap (bC bs n)).map co
  rw [h,Hc]
  show (k:Int)::(world[k]).flatMap _=_
  rw [e]
  congr 1
  have hb:=(W.2 k hk).2
  generalize bs k=l at hb
  induction l with
  |nil=>rfl
  |cons b l ihl=>
   rw [Hc,Ia,Ia,Hp,ihl λc hc=>hb c (.tail _ hc)]
   congr 1
   have:=hb b (.head _)
   show bp world n (co b).toNat=_
   rw [show (co b).toNat=b from HB b]
   exact ih b (w1 hk this)
theorem sg {f:Nat->Option (List Nat)} {L:Nat->List Nat} {l:List Nat} (h:∀b∈l,f b=some (L b)):l.mapM f=some (l.map L):=by
 induction l with
 |nil=>rfl
 |cons a l ih=>rw [Ie,h a (.head _),ih λb hb=>h b (.tail _ hb)];rfl
theorem sh (W:aX bs N) (hk:k<N):(fK bs k).head?=some k:=by
 unfold fK
 rw [ma W hk,cV];·rfl
 intro h
 rw [dQ] at h
 obtain ⟨b,hb,_⟩:=IU.mp h;clear h;rename_i h
 have h1:=(W.2 k hk).2 b hb
 have:=ge W 7 b (w1 hk h1) k h
 exact w9 h1 this
structure Rw (world:List (List Int)) (bs:Nat->List Nat) (k:Nat):Prop where
 ex:Ex2 λl st=>Q6 (dG 204 bs k=some l) (l.head?=some k) ((a0 world (k+1)).1[k]?=some (l.map co)) ((a0 world (k+1)).2[k]?=some st) (dG 232 bs k=if st=true then some l else none)
theorem si {world:List (List Int)} {bs:Nat->List Nat} (S:Rl world bs):∀k,k<world.length->Rw world bs k:=by
 have' W:=S.below
 intro k
 induction k using JW with
 |ind k ih=>
  intro hk
  have' hbk:=(W.2 k hk).2
  have' hw:=G3 hk
  have' hwe:=S.eq k _ hw
  generalize world[k]=wk at hw hwe
  let L:Nat->List Nat:=λb=>(dG 204 bs b).getD []
  let st:Nat->Bool:=λb=>((a0 world k).2[b]?).getD false
  have' hL:∀b∈bs k,dG 204 bs b=some (L b)∧(L b).head?=some b∧(a0 world k).1[b]?=some ((L b).map co)∧dG 232 bs b=if st b=true then some (L b) else none:=by
   intro b hb
   have' hlt:=hbk b hb
   obtain ⟨l,s,h1,h2,h3,h4,h5⟩:=(ih b hlt (w1 hk hlt)).ex
   have' hLb:L b=l:=by show (dG 204 bs b).getD []=l;rw [h1];rfl
   have' hp:=kP world (b+1) (k-(b+1))
   rw [show b+1+(k-(b+1))=k by exact w60 hlt] at hp
   obtain ⟨⟨t1,e1⟩,⟨t2,e2⟩⟩:=hp
   have' g1:(a0 world k).1[b]?=some (l.map co):=by rw [<-e1,Ha (by rw [(bS _ _).1];exact w10)];exact h3
   have' g2:(a0 world k).2[b]?=some s:=by rw [<-e2,Ha (by rw [(bS _ _).2];exact w10)];exact h4
   have' hst:st b=s:=by show ((a0 world k).2[b]?).getD false=s;rw [g2];rfl
   rw [hLb,hst]
   exact ⟨h1,h2,g1,h5⟩
  have' hm4:(bs k).mapM (dG 204 bs)=some ((bs k).map L):=sg λb hb=>(hL b hb).1
  have' hLord:∀b∈bs k,Ord b (L b):=λb hb=>jd W b (by have':=hbk b hb;exact w1 hk this) _ (hL b hb).1
  have' hrows:cS (a0 world k).1 wk=((ao (bs k)).map L++[ao (bs k)]).map (It co):=by
   unfold cS
   rw [hwe,pH nV,Hp,Hx,Hx]
   congr 1
   refine HC λb hb=>?_
   show ((a0 world k).1[(co b).toNat]?).getD []=(L b).map co
   rw [show (co b).toNat=b from HB b,(hL b (aN.mp hb)).2.2.1];rfl
  have' hmg:merge (cS (a0 world k).1 wk)=(merge ((bs k).map L++[bs k])).map (It co):=by
   rw [hrows,pG nV,mf _ (bs k) L (bs k) rfl]
  have' hstep:a0 world (k+1)=cJ world k wk (a0 world k):=by show cJ world k ((world[k]?).getD []) _=_;rw [hw];rfl
  have' hall:((ao wk).all λb=>((a0 world k).2[b.toNat]?).getD false)=(bs k).all st:=by
   rw [Ja,Hd,Hd]
   constructor
   ·intro h b hb
    have':=h (co b) (aN.mpr (by rw [hwe];exact G1.mpr ⟨b,hb,rfl⟩))
    rw [show (co b).toNat=b from HB b] at this
    exact this
   intro h x hx
   have':=aN.mp hx
   rw [hwe] at this
   obtain ⟨b,hb,rfl⟩:=G1.mp this
   rw [show (co b).toNat=b from HB b]
   exact h b hb
  have' hown:∀r∈(bs k).map L++[bs k],k∉r:=by
   intro r hr hm
   rcases G8.mp hr with hr|hr
   ·obtain ⟨b,hb,rfl⟩:=G1.mp hr
    have':=(hLord b hb).2 k hm
    have':=hbk b hb
    exact w14 ‹_› this
   rw [GY.mp hr] at hm
   have':=hbk k hm;exact w6 this
  have' hlen:=bS world k
  have' last1:∀(x:List Int) (y:Bool),a0 world (k+1)=((a0 world k).1++[x],(a0 world k).2++[y])->(a0 world (k+1)).1[k]?=some x∧(a0 world (k+1)).2[k]?=some y:=by
   intro x y e
   rw [e]
   exact ⟨by rw [Hh (BY hlen),hlen.1];simp,by rw [Hh (BZ hlen),hlen.2];simp⟩
  have' hm2:(bs k).mapM (dG 232 bs)=if (bs k).all st=true then some ((bs k).map L) else none:=by
   by_cases h:(bs k).all st=true
   ·rw [RA h]
    exact sg λb hb=>by rw [(hL b hb).2.2.2,RA (Hd.mp h b hb)]
   rw [Rz h]
   have':∃b∈bs k,st b=false:=by
    refine Classical.byContradiction λhn=>h (Hd.mpr λb hb=>?_)
    induction e:st b with
    |true=>rfl
    |false=>exact absurd ⟨b,hb,e⟩ hn
   obtain ⟨b,hb,hs⟩:=this
   exact ff hb (by rw [(hL b hb).2.2.2,hs];rfl)
  refine ⟨?_⟩
  rw [gk W hk,gk W hk]
  unfold bT
  rw [hm4,hm2]
  by_cases h1:(bs k).length=1
  ·obtain ⟨b,hbe⟩:∃b,bs k=[b]:=by
    induction hb:bs k using Lc with
    |nil=>rw [hb] at h1;exact nNe h1 rfl
    |cons b l=>induction l using Lc with
     |nil=>exact ⟨b,rfl⟩
     |cons _ _=>rw [hb] at h1;simp at h1
   have' hbm:b∈bs k:=by rw [hbe];simp
   obtain ⟨t,ht⟩:∃t,L b=b::t:=by
    have':=(hL b hbm).2.1
    induction e:L b using Lc with
    |nil=>rw [e] at this;exact nNS this
    |cons a t=>rw [e] at this;(replace this:=ay this;subst this);exact ⟨t,rfl⟩
   have' hmgs:merge ((bs k).map L++[bs k])=some (L b):=by
    rw [hbe]
    show merge [L b,[b]]=_
    rw [ht]
    exact nO b t (ht▸(hLord b hbm).1)
   obtain ⟨q1,q2⟩:=last1 ((k:Int)::(L b).map co) ((bs k).all st) (by rw [hstep];unfold cJ;rw [hmg,hmgs];rw [<-hall];rfl)
   have' hfl:((bs k).map L).flatten=L b:=by rw [hbe];simp
   refine ⟨k::L b,(bs k).all st,?_,rfl,q1,q2,?_⟩
   ·show (if (bs k).length=1 then _ else _)=_;rw [RA h1,hfl]
   by_cases h:(bs k).all st=true
   ·rw [RA h,RA h];show (if (bs k).length=1 then _ else _)=_;rw [RA h1,hfl]
   rw [Rz h,Rz h]
  have' hmm:merge ([k]::(bs k).map L++[bs k])=(merge ((bs k).map L++[bs k])).map (k::·):=pJ k _ hown
  induction hm:merge ((bs k).map L++[bs k]) with
  |some m=>
   obtain ⟨q1,q2⟩:=last1 ((k:Int)::m.map co) ((bs k).all st) (by rw [hstep];unfold cJ;rw [hmg,hm];rw [<-hall];rfl)
   have' hans:∀C,fj C bs k ([k]::(bs k).map L++[bs k])=some (k::m):=λC=>by unfold fj;rw [hmm,hm];rfl
   refine ⟨k::m,(bs k).all st,?_,rfl,q1,q2,?_⟩
   ·show (if (bs k).length=1 then _ else _)=_;rw [Rz h1,hans]
   by_cases h:(bs k).all st=true
   ·rw [RA h,RA h];show (if (bs k).length=1 then _ else _)=_;rw [Rz h1,hans]
   rw [Rz h,Rz h]
  |none=>
   have' hwk:bp world 7 k=(bC bs 7 k).map co:=pU S 7 k hk
   obtain ⟨q1,q2⟩:=last1 (aP (bp world 7 k)) false (by rw [hstep];unfold cJ;rw [hmg,hm];rfl)
   rw [hwk,rH nV] at q1
   refine ⟨fK bs k,false,?_,sh W hk,q1,q2,?_⟩
   ·show (if (bs k).length=1 then _ else _)=_;rw [Rz h1]
    unfold fj;rw [hmm,hm];rfl
   by_cases h:(bs k).all st=true
   ·rw [RA h];show (if (bs k).length=1 then _ else _)=_;rw [Rz h1]
    unfold fj;rw [hmm,hm];rfl
   rw [Rz h];rfl
def cn (world:List (List Int)) (k:Nat):List Nat:=((world[k]?).getD []).map Hy
theorem kU (W:cf world):Rl world (cn world):=by
 refine ⟨W,λk r h=>?_⟩
 unfold cn
 rw [h]
 show r=(r.map Hy).map co
 rw [Hx]
 have:=(W.2 k r h).2
 clear h
 induction r with
 |nil=>rfl
 |cons x r ih=>
  rw [Hc,<-ih λy hy=>this y (.tail _ hy)]
  have:=this x (.head _)
  congr 1
  show x=co x.toNat
  simp [co];exact EB this
def je (world:List (List Int)) (k:Nat):List Nat:=(dG 204 (cn world) k).getD []
theorem yY (W:cf world) (hk:k<world.length):bT 204 (λj=>some (je world j)) (cn world) k=some (je world k)∧Ord k (je world k):=by
 have S:=kU W
 have B:=S.below
 have' get:∀b,b<world.length->dG 204 (cn world) b=some (je world b):=λb hb=>by
  obtain ⟨l,st,h1,_⟩:=(si S b hb).ex
  unfold je;rw [h1];rfl
 refine ⟨?_,jd B k hk _ (get k hk)⟩
 rw [<-get k hk,gk B hk]
 exact jc λb hb=>(get b (by have:=(B.2 k hk).2 b hb;exact w1 hk this)).symm
theorem kW (a:Int) {n:Nat} (h:0<n):0≤a.fmod n∧a.fmod n<n:=by
 rw [Int.fmod_eq_emod_of_nonneg a (w5)]
 exact ⟨Int.emod_nonneg a (w74 h),Int.emod_lt_of_pos a (DM h)⟩
theorem Qd.up {hp hp':List O} {sa:Nat->Nat} {bs:Nat->List Nat} {sro:Nat->List Nat} {n D:Nat} (h:Qd hp sa bs sro n D) (x:hp<+:hp'):Qd hp' sa bs sro n D:=
 ⟨h.specs.up x,λb hb=>(h.sro b hb).keep (X:=λ_=>False) (PD.of_ext x) id (λ_ _ z=>z.elim),λb hb=>(h.dep b hb).keep (X:=λ_=>False) (PD.of_ext x) id (λ_ z=>z.elim) (λ_ _ z=>z.elim)⟩
theorem Qd.list {hp hp':List O} {sa:Nat->Nat} {bs:Nat->List Nat} {sro:Nat->List Nat} {n D j:Nat} {vs:List V} (h:Qd hp sa bs sro n D) (K:PD hp hp' (λi=>i=j)) (hj:hp[j]?=some (.list vs)):Qd hp' sa bs sro n D:=by
 have' nt:∀i ws,i=j->hp[i]?≠some (.tup ws):=λi ws e z=>by subst e;rw [hj] at z;exact gr z rfl
 have' ni:∀k<n,sa k≠j:=λk hk=>by
  obtain ⟨fs,t,h1,_⟩:=h.specs.get hk
  exact aw h1 hj rfl
 refine ⟨h.specs.keep K λi e o ho=>?_,λb hb=>(h.sro b hb).keep K (ni b hb) nt,λb hb=>?_⟩
 ·subst e;rw [hj] at ho;(replace ho:=ay ho;subst ho);exact ⟨(λ_ e=>nomatch e),(λ_ e=>nomatch e)⟩
 obtain ⟨fs,dd,ep,kv,h1,h2,h3,h4,h5,h6⟩:=h.dep b hb
 exact ⟨fs,dd,ep,kv,K _ _ h1 (ni b hb),h2,h3,h4,K _ _ h5 (aw h5 hj rfl),h6.keep λi vs e=>K _ _ e λz=>nt _ _ z e⟩
theorem Qd.sa {hp:List O} {sa sa':Nat->Nat} {bs:Nat->List Nat} {sro:Nat->List Nat} {n D:Nat} (h:Qd hp sa bs sro n D) (e:∀k<n,sa' k=sa k):Qd hp sa' bs sro n D:=by
 have' m:∀l:List Nat,(∀x∈l,x<n)->l.map (so sa')=l.map (so sa):=λl hl=>HC λx hx=>by unfold so;rw [e x (hl x hx)]
 refine ⟨⟨λk hk=>?_,λi hi j hj z=>h.specs.inj i hi j hj (by rw [<-e i hi,<-e j hj,z]),h.specs.few,h.specs.N7⟩,λb hb=>?_,λb hb=>by rw [e b hb];exact h.dep b hb⟩
 ·obtain ⟨fs,t,h1,h2,h3,h4⟩:=h.specs.get hk
  exact ⟨fs,t,by rw [e k hk];exact h1,h2,h3,by rw [m _ (h.specs.few k hk).2];exact h4⟩
 obtain ⟨⟨fs,s,h1,h2,h3⟩,h4⟩:=h.sro b hb
 exact ⟨⟨fs,s,by rw [e b hb];exact h1,h2,by rw [m _ λx hx=>by have:=h4.2 x hx;exact w17 hb this];exact h3⟩,h4⟩
theorem oN (W:cf world) (h:world[k]?=some r):r=(cn world k).map co:=(kU W).eq k r h
inductive Rq (hd:Bool) (vs:List V) (hp:List O) (Q:V->List O->Prop) (E:Nat->List O->Prop):Prop
 |mk (z1:hd=true) (i) (ns:List Int) (z2:vs=[.obj i]) (z3:hp[i]?=some (.ro ns)) (z4:ns.length≤63) (z5:∀hp',Q (.bool true) hp'):Rq hd vs hp Q E
theorem sj {γ δ:Type} {l:List γ} {pre:List δ} {x:γ} {k:δ} (h:l.length=pre.length):(l++[x]).length=(pre++[k]).length:=by rw [G7,G7,h];rfl
inductive WI (hp:List O) (i:Nat) (ns:List Int) (N:Nat) (pre:List Nat) (hp':List O) (m:bY):Prop
 |mk (z1:hp'[i]?=some (.ro ns)) (z2:m "script"=some (.obj i)) (z3:m "many"=some (.int N)) (z4:m "world"=some (.obj hp.length)) (a:Nat) (ps:List (Nat×List Int)) (z5:m "at"=some (.int a)) (z6:hp'[hp.length]?=some (.list (ps.map adr))) (z7:Ql hp' ps) (z8:ps.length=pre.length) (z9:cf (rws ps)) (z10:∀p∈ps,p.1≠hp.length):WI hp i ns N pre hp' m
inductive VI (hp hp1:List O) (ps:List (Nat×List Int)) (N:Nat) (pre:List (Nat×List Int)) (hp':List O) (m:bY):Prop
 |mk (z1:hp'[hp.length]?=some (.list (ps.map adr))) (z2:Ql hp' ps) (z3:m "many"=some (.int N)) (z4:m "world"=some (.obj hp.length)) (z5:m "specs"=some (.obj hp1.length)) (z6:hp1.length<hp'.length) (sa:Nat->Nat) (z7:hp'[hp1.length]?=some (.list ((Hf pre.length).map (so sa)))) (z8:Qd hp' sa (cn (rws ps)) (je (rws ps)) pre.length hp'.length):VI hp hp1 ps N pre hp' m
inductive EI (hp3 hp hp1:List O) (N o s:Nat) (pre:List Nat) (hp':List O) (m:bY):Prop
 |mk (z1:hp3<+:hp') (z2:m "many"=some (.int N)) (z3:m "world"=some (.obj hp.length)) (z4:m "specs"=some (.obj hp1.length)) (z5:m "orders"=some (.obj o)) (z6:m "stands"=some (.obj s)):EI hp3 hp hp1 N o s pre hp' m
theorem yZ {P:Ko} {fn:FnT} {hd:Bool} {vs:List V} {hp:List O} {Q:V->List O->Prop} {E:Nat->List O->Prop} (n1:fn 336 []=none) (f1:fn 279 []=some QN) (f2:fn 402 []=some QD) (f3:fn 407 []=some Q2) (h:Rq hd vs hp Q E):
  aq (gam fn) 30 (aF (KH P) 412) (an (KH P) 412) (aD ["script"]) hd vs hp Q E:=by
 obtain ⟨rfl,i,ns,rfl,hi,hl,hQ⟩:=h
 refine aJ (uz fn true) rfl (by decide+kernel) ?_
 dsimp only [HT,Hi]
 intros
 refine wc hi (!2) ?_
 have' many:∀(k:V->PT Fl) (Qf:Fl->AS->Prop) (Ef:Nat->AS->Prop) (m:bY),m "script"=some (.obj i)->(∀N:Nat,1≤N->N≤7->k (.int N) ⟨hp,m⟩ Qf Ef)->
   ((if (!ns.isEmpty)=true then (do {let t8 <-ad "script";let t7 <-aG t8 (.int 0);let t6 <-bD .Mod t7 (.int 7);let t4 <-bD .Add (.int 1) t6;pure t4}) else (pure (.int 1)))>>=k) ⟨hp,m⟩ Qf Ef:=by
  intro k Qf Ef m hm hk
  refine jq (λhc=>?_) λhc=>?_
  ·induction ns using Lc with
   |nil=>exact nFT hc
   |cons a l=>
    intros
    refine kI (j:=0) hi (by simp at hl;simp [lim];exact Ei hl) rfl ?_
    refine qY (!3) ?_
    intros
    obtain ⟨h1,h2⟩:=kW a (n:=7) !3
    obtain ⟨x,hx⟩:=Ii h1
    have' hx':a.fmod 7=(x:Int):=hx
    rw [hx']
    have':=hk (1+x) (DO) (by have':(a.fmod (7:Nat))=x:=hx;exact EJ h2 this)
    rw [show ((1+x:Nat):Int)=1+(x:Int) by exact DI] at this
    exact this
  exact kF (hk 1 (!3) !3)
 refine many _ _ _ _ (!1) λN hN1 hN7=>?_
 clear many
 intros
 refine aR (!2) ?_
 intros
 refine eW (!2) ?_
 have' hil:=aE hi
 refine bA (f:=λ(j:Nat)=>V.int j) (xs:=Hf N) rfl (WI hp i ns N)
  ⟨af hi,!1,!1,!1,1,[],by show _=some (V.int 1);walk_at "v",ai,(λ_ h=>nomatch h),rfl,⟨by simp,λk r h=>by simp at h⟩,(λ_ h=>nomatch h)⟩ (λ_ _ _ _=>trivial) ?_ ?_
 ·rintro pre k post hp1 m1 V1 e ⟨hi1,g1,g2,g3,a,ps,g4,hw,hR,hpl,W,hne⟩ hV
  obtain ⟨hk,hkN⟩:=gF e
  have' hnl:ns.length≤lim:=Ej hl
  intros
  refine rd hi1 hnl ?_
  intros
  have' cnt:∀(kk:V->PT Fl) (Qf:Fl->AS->Prop) (Ef:Nat->AS->Prop) (m:bY),m "script"=some (.obj i)->m "at"=some (.int a)->(∀c:Nat,c≤3->kk (.int c) ⟨hp1,m⟩ Qf Ef)->
    ((if decide ((a:Int)<(ns.length:Nat))=true then (do {let t102 <-ad "script";let t103 <-ad "at";let t101 <-aG t102 t103;let t100 <-bD .Mod t101 (.int 4);pure t100}) else (pure (.int 0)))>>=kk) ⟨hp1,m⟩ Qf Ef:=by
   intro kk Qf Ef m q1 q2 hkk
   refine jq (λhc=>?_) λ_=>kF (hkk 0 !3)
   have' hal:a<ns.length:=H0.mp (of_decide_eq_true hc)
   intros
   refine kI hi1 hnl (G3 hal) ?_
   refine qY (!3) ?_
   obtain ⟨h1,h2⟩:=kW ns[a] (n:=4) !3
   obtain ⟨x,hx⟩:=Ii h1
   have' hx':ns[a].fmod 4=(x:Int):=hx
   rw [hx']
   exact kF (hkk x (by have':(ns[a].fmod (4:Nat))=x:=hx;exact EH h2 this))
  refine cnt _ _ _ _ (!1) (!1) λc hc=>?_
  clear cnt
  intros
  have' cnt2:∀(kk:V->PT Fl) (Qf:Fl->AS->Prop) (Ef:Nat->AS->Prop) (m:bY),m "count"=some (.int c)->(∀c:Nat,c≤3->(0<c->0<k)->kk (.int c) ⟨hp1,m⟩ Qf Ef)->
    ((if decide ((0:Int)<(k:Nat))=true then (do {let t111 <-ad "count";pure t111}) else (pure (.int 0)))>>=kk) ⟨hp1,m⟩ Qf Ef:=by
   intro kk Qf Ef m q1 hkk
   refine jq (λhc'=>?_) λ_=>kF (hkk 0 (!3) (λh=>absurd h (Hl 0)))
   intros
   exact hkk c hc λ_=>H0.mp (of_decide_eq_true hc')
  refine cnt2 _ _ _ _ (!1) λc hc hck=>?_
  clear cnt2
  intros
  refine eW (!2) ?_
  refine bK (f:=λ(j:Nat)=>V.int j) (xs:=Hf c) (λj=>some (.int (if a+1+j<ns.length then (ns[a+1+j]?).getD 0 else (j:Int)))) rfl trivial (λj hj Wq E' hW=>?_) ?_
  ·have' hcast:(a:Int)+1+(j:Int)=((a+1+j:Nat):Int):=Cz
   refine dl ?_
   intros
   refine rd hi1 hnl ?_
   intros
   rw [hcast]
   refine b7 (jq (λhc'=>?_) λhc'=>?_)
   ·have' hal:a+1+j<ns.length:=H0.mp (of_decide_eq_true hc')
    intros
    rw [hcast]
    refine kI hi1 hnl (G3 hal) ?_
    intros
    rw [RA hal,G3 hal] at hW
    exact hW
   have' hal:¬a+1+j<ns.length:=λz=>of_decide_eq_false hc' (H0.mpr z)
   intros
   rw [Rz hal] at hW
   exact hW
  generalize hpk:(Hf c).map (λj=>if a+1+j<ns.length then (ns[a+1+j]?).getD 0 else (j:Int))=pk
  have' hpkl:pk.length=c:=by rw [<-hpk,G6,HA]
  rw [show (Hf c).filterMap (λj=>some (V.int (if a+1+j<ns.length then (ns[a+1+j]?).getD 0 else (j:Int))))=pk.map V.int from by rw [<-hpk,Hx,<-Ip];rfl]
  refine c0 (!2) λhpa ja xa ea la ga=>?_
  intros
  refine ct (ae xa hw) (!3) ?_
  intros
  refine bi ga (!2) ?_
  refine bK (f:=V.int) (xs:=pk) (λx=>some (.int (x.fmod k))) rfl ga (λx hx Wq E' hW=>?_) ?_
  ·have' hk0:0<k:=hck (by rw [<-hpkl];exact List.length_pos_of_mem hx)
   refine dl ?_
   intros
   refine b7 (qY (w74 hk0) ?_)
   exact hW
  rw [show pk.filterMap (λx=>some (V.int (x.fmod k)))=(pk.map λx=>x.fmod k).map V.int from by rw [Hx,<-Ip];rfl]
  refine c0 (!2) λhpb jb xb eb _ gb=>?_
  refine mr (ae xb (ae xa hw)) (!2) λhpc _ Kc gc=>?_
  intros
  have' hwl:=aE hw
  have' hjb:jb≠hp.length:=by rw [eb,la];exact HE (Hz hwl)
  have' K:=(PD.of_ext (xa.trans xb)).trans Kc
  refine hV _ _ ⟨K _ _ hi1 (aw hi1 hw rfl),!1,!1,!1,a+1+c,ps++[(jb,pk.map λx=>x.fmod k)],?_,?_,λq hq=>?_,sj hpl,?_,λq hq=>?_⟩
  ·rw [show ((a+1+c:Nat):Int)=(a:Int)+1+(c:Int) by exact Cy];walk_at "v"
  ·rw [gc,Hp];rfl
  ·rcases G8.mp hq with hq|hq
   ·exact K _ _ (hR q hq) (hne q hq)
   rw [GY.mp hq];exact Kc _ _ gb hjb
  ·have' e1:rws (ps++[(jb,pk.map λx=>x.fmod k)])=rws ps++[pk.map λx=>x.fmod k]:=Hp
   rw [e1]
   refine ⟨by simp;exact Bo hN7 hpl hk hkN,λj r h=>?_⟩
   by_cases hj:j<(rws ps).length
   ·rw [Ha hj] at h;exact W.2 j r h
   rw [Hh (w24 hj)] at h
   have' hj0:j=k:=by
    have':=(G4.mp h).1
    simp at this hj;exact Bj hpl hk this hj
   have':r=pk.map λx=>x.fmod k:=by
    rw [hj0,show k-(rws ps).length=0 by simp;exact B6 hpl hk] at h
    simpa using h.symm
   subst this
   refine ⟨by simp;exact w21 hc hpkl,λx hx=>?_⟩
   obtain ⟨y,hy,rfl⟩:=G1.mp hx
   have' hk0:0<k:=hck (by rw [<-hpkl];exact List.length_pos_of_mem hy)
   have':=kW y hk0
   rw [hj0];exact this
  rcases G8.mp hq with hq|hq
  ·exact hne q hq
  rw [GY.mp hq];exact hjb
 rintro hp1 m1 ⟨hi1,g1,g2,g3,a,ps,g4,hw,hR,hpl,W,hne⟩
 rw [HA] at hpl
 have' hwN:(rws ps).length=N:=(G6 _).trans hpl
 have' Sm:=kU W
 have' B:=Sm.below
 rw [hwN] at B
 intros
 refine c0 (!2) λhq1 js xs es ls gs=>?_
 subst es
 intros
 refine bi (ae xs hw) (!2) ?_
 have' hwl:=aE hw
 refine bA (f:=adr) (xs:=ps) rfl (VI hp hp1 ps N)
  ⟨ae xs hw,hR.up xs,!1,!1,!1,by rw [ls];exact HI _,λ_=>0,gs,⟨⟨λk hk=>absurd hk (Io _),λi hi=>absurd hi (Io _),λk hk=>absurd hk (Io _),HK _⟩,λb hb=>absurd hb (Io _),λb hb=>absurd hb (Io _)⟩⟩ ?_ ?_ ?_
 ·rintro pre hp' m ⟨h,_⟩;exact h
 ·rintro pre p post hp2 m2 V2 e ⟨hw2,hR2,q1,q2,q3,hl2,sa,hs2,Wo⟩ hV
  have' hnN:pre.length<N:=hpl▸tu e
  have' hpm:p∈ps:=b0 e
  have' hpk:(rws ps)[pre.length]?=some p.2:=Hg.trans (congrArg (JZ Prod.snd) (kJ e))
  have' hpb:=oN W hpk
  obtain ⟨hb3,hbb⟩:=W.2 _ _ hpk
  intros
  refine ct hs2 (!3) ?_
  intros
  refine gG hs2 (!2) ?_
  intros
  refine bi (hR2 p hpm) (!2) ?_
  refine bK (f:=V.int) (xs:=p.2) (λx=>some (so sa x.toNat)) rfl (hR2 p hpm) (λx hx Wq E' hW=>?_) ?_
  ·have' hxb:=hbb x hx
   obtain ⟨x',rfl⟩:=Ii hxb.1
   refine dl ?_
   intros
   refine b7 (bQ hs2 (!2) (v:=so sa x') (by rw [Hg,IE (w56 hxb)];rfl) ?_)
   exact hW
  have' hfm:p.2.filterMap (λx=>some (so sa x.toNat))=(cn (rws ps) pre.length).map (so sa):=by
   rw [show (λx:Int=>some (so sa x.toNat))=some∘(λx=>so sa x.toNat) from rfl,Ip]
   unfold cn
   rw [hpk]
   show _=((p.2).map Hy).map (so sa)
   rw [Hx];rfl
  rw [hfm]
  have' hbl:(cn (rws ps) pre.length).length≤3:=by unfold cn;rw [hpk];simpa using hb3
  refine c0 (!2) λhpa _ xa _ _ ga=>?_
  refine i6 ga (!2) λhp4 t4 xb _ _ ht4=>?_
  have' x24:=xa.trans xb
  have' sold:∀k<pre.length,sa k<hp2.length:=λk hk=>by
   obtain ⟨fk,tk,z,_⟩:=Wo.specs.get hk
   exact aE z
  have' hx4:=bH x24
  have' hsa':∀k<pre.length,(λj=>if j=pre.length then hp4.length else sa j) k=sa k:=λk hk=>Rz (Hb hk)
  have' hsn:(λj=>if j=pre.length then hp4.length else sa j) pre.length=hp4.length:=RA rfl
  have' Wo4:=(Wo.up x24).sa hsa'
  generalize (λj=>if j=pre.length then hp4.length else sa j)=sb at hsa' hsn Wo4
  have' hmb:∀x∈cn (rws ps) pre.length,x<pre.length:=λx hx=>(B.2 _ hnN).2 x hx
  have' hmap:(cn (rws ps) pre.length).map (so sa)=(cn (rws ps) pre.length).map (so sb):=HC λx hx=>by unfold so;rw [hsa' x (hmb x hx)]
  have' hrng:(Hf pre.length).map (so sa)=(Hf pre.length).map (so sb):=HC λx hx=>by unfold so;rw [hsa' x (H9.mp hx)]
  rw [hmap] at ht4
  have' hsro:=yY W (k:=pre.length) (by rw [hwN];exact hnN)
  have' B1:aX (cn (rws ps)) (pre.length+1):=⟨by exact Dk hN7 hnN,λk hk=>B.2 k (BQ hnN hk)⟩
  have' injb:∀a<pre.length+1,∀b<pre.length+1,sb a=sb b->a=b:=λa ha b hb z=>by
   by_cases ea:a=pre.length
   ·by_cases eb:b=pre.length
    ·rw [ea,eb]
    have':=sold b (w0 hb eb)
    rw [ea,hsn,hsa' b (w0 hb eb)] at z;exact w97 hx4 z this
   by_cases eb:b=pre.length
   ·have':=sold a (w0 ha ea)
    rw [eb,hsn,hsa' a (w0 ha ea)] at z;exact w99 hx4 z this
   exact Wo4.specs.inj a (w0 ha ea) b (w0 hb eb) z
  have' hlenr:((Hf pre.length).map (so sa)).length=pre.length:=(G6 _).trans HA
  rw [hlenr]
  refine nH n1 rfl (f:=279) rfl f1 ⟨rfl,sb,cn (rws ps),je (rws ps),pre.length,t4,hp2.length,by unfold so;rw [hsn],by rw [hsn];exact ai,af ht4,by simp;exact w3 hx4,(Wo4.up (GV _ _)),B1,injb,hsro.1,hsro.2,λhp5 W5 lst hl5=>?_⟩
  refine ⟨rfl,?_⟩
  have' hs5:=lst _ _ (af (ae x24 hs2))
  have' hw5:=lst _ _ (af (ae x24 hw2))
  have' hR5:Ql hp5 ps:=λq hq=>lst _ _ (af (ae x24 (hR2 q hq)))
  refine mr hs5 (by rw [hlenr];simp only [lim];exact w13 hN7 hnN) λhp6 l6 K6 g6=>?_
  intros
  refine hV _ _ ⟨K6 _ _ hw5 (CU hwl),λq hq=>K6 _ _ (hR5 q hq) (λz=>?_),!1,!1,!1,?_,sb,?_,?_⟩
  ·have':=aE (hR q hq);exact CY z this
  ·rw [l6];exact aE hs5
  ·rw [g6,hrng,G7,HO,List.range_succ,Hp]
   show _=some (O.list (_++[V.obj (sb pre.length)]))
   rw [hsn]
  rw [G7,HO]
  have':=W5.list K6 hs5
  rw [l6]
  exact this
 rintro hp2 m2 ⟨hw2,hR2,q1,q2,q3,hl2,sa,hs2,Wo⟩
 rw [hpl] at hs2 Wo
 have' B':aX (cn (rws ps)) N:=B
 have' S2:=Wo.specs
 clear Wo
 intros
 intros
 refine cY f2 ⟨rfl,hp.length,ps,rfl,hw2,hR2,W,λhp3 j o s qs x3 hj ho hRq heq hst=>?_⟩
 rw [hpl] at heq hst
 refine rk hj ?_
 intros
 have' S3:=S2.up x3
 have' hs3:=ae x3 hs2
 have' hw3:=ae x3 hw2
 have' hR3:=hR2.up x3
 clear hj hw2 hR2 hs2 S2 x3 hi1
 have' hql:qs.length=N:=by
  have':=congrArg HW heq
  rw [G6,(bS _ _).1] at this;exact this
 have' ansok:∀(b:Bool),∀j<N,dG (i9 b) (cn (rws ps)) j=bT (i9 b) (dG (i9 b) (cn (rws ps))) (cn (rws ps)) j∧∀l,dG (i9 b) (cn (rws ps)) j=some l->dn N l:=λb j hj=>⟨gk B' hj,λl hl=>(jd B' j hj l hl).ok hj hN7⟩
 have' one:∀k<N,Ex3 λl b q=>Rp (dG 204 (cn (rws ps)) k=some l) (qs[k]?=some q) (q∈qs) (q.2=l.map co) (((a0 (rws ps) N).2.map V.bool)[k]?=some (.bool b)) (dG 232 (cn (rws ps)) k=if b=true then some l else none):=by
  intro k hk
  obtain ⟨l,b,h1,h2,h3,h4,h5⟩:=(si Sm k (by rw [hwN];exact hk)).ex
  have' hp':=kP (rws ps) (k+1) (N-(k+1))
  rw [show k+1+(N-(k+1))=N by exact w60 hk] at hp'
  obtain ⟨⟨t1,e1⟩,⟨t2,e2⟩⟩:=hp'
  have' g1:(a0 (rws ps) N).1[k]?=some (l.map co):=by rw [<-e1,Ha (by rw [(bS _ _).1];exact w10)];exact h3
  have' g2:(a0 (rws ps) N).2[k]?=some b:=by rw [<-e2,Ha (by rw [(bS _ _).2];exact w10)];exact h4
  have' hkq:k<qs.length:=w31 hql hk
  refine ⟨l,b,qs[k],h1,G3 hkq,JL hkq,?_,by rw [Hg,g2];rfl,h5⟩
  rw [<-heq,Hg,G3 hkq] at g1
  exact Hm.inj g1
 have' hrl:((Hf N).map (so sa)).length≤lim:=lm (by rw [HA];exact w4 hN7)
 have' hqll:(qs.map adr).length≤lim:=lm (Do hN7 hql)
 have' toldF:∀(kk:V->PT Fl) (Qf:Fl->AS->Prop) (hp4:List O) (m:bY) (k:Nat),hp3<+:hp4->k<N->
   (∀hp5 j5 q,hp3<+:hp5->hp5[j5]?=some (O.list (q.2.map .int))->qs[k]?=some q->q∈qs->kk (.obj j5) ⟨hp5,m⟩ Qf (iz E))->
   (az (gam fn) true (.ref 407) [.obj hp1.length,.int (k:Nat),.bool false]>>=kk) ⟨hp4,m⟩ Qf (iz E):=by
  intro kk Qf hp4 m k x4 hk hkk
  obtain ⟨l,b,q,h1,h2,h3,h4,h5,h6⟩:=one k hk
  refine cY f3 ⟨rfl,sa,N,cn (rws ps),dG 204 (cn (rws ps)),k,false,hp1.length,rfl,ae x4 hs3,S3.up x4,B',hk,ansok false,λl' hp5 j5 hl x5 hj5=>?_,λhp5 hl _=>by rw [h1] at hl;exact nSN hl⟩
  rw [h1] at hl;(replace hl:=ay hl;subst hl)
  exact hkk hp5 j5 q (x4.trans x5) (by rw [h4];exact hj5) h2 h3
 have' cmpF:∀(kk:V->PT Fl) (Qf:Fl->AS->Prop) (Ef:Nat->AS->Prop) (hp5:List O) (m:bY) (j5:Nat) (k:Nat) (q:Nat×List Int),hp3<+:hp5->hp5[j5]?=some (O.list (q.2.map .int))->qs[k]?=some q->q∈qs->kk (.bool false) ⟨hp5,m⟩ Qf Ef->
   (aG (.obj o) (.int (k:Nat))>>=λt70=>bb .NotEq (.obj j5) t70>>=kk) ⟨hp5,m⟩ Qf Ef:=by
  intro kk Qf Ef hp5 m j5 k q x5 hj5 h2 h3 hkk
  refine bQ (ae x5 ho) hqll (v:=adr q) (by rw [Hg,h2];rfl) ?_
  refine ot (cP 2 hj5) (cP 2 (ae x5 (hRq q h3))) ?_
  rw [f0,show decide (q.2=q.2)=true from decide_eq_true rfl]
  exact hkk
 refine eW (!2) ?_
 refine bA (f:=λ(j:Nat)=>V.int j) (xs:=Hf N) rfl (EI hp3 hp hp1 N o s) ⟨GX _,!1,!1,!1,!1,!1⟩ (λ_ _ _ _=>trivial) ?_ ?_
 ·rintro pre k post hp4 m4 V4 e ⟨x4,r1,r2,r3,r4,r5⟩ hV
  have' hk:=(gF e).2
  obtain ⟨l,b,q,h1,h2,h3,h4,h5,h6⟩:=one k hk
  intros
  refine toldF _ _ _ _ _ x4 hk λhp5 j5 q5 x5 hj5 g2 g3=>?_
  intros
  refine cmpF _ _ _ _ _ _ _ _ x5 hj5 g2 g3 ?_
  intros
  refine bN (λh=>nomatch h) λ_=>?_
  intros
  refine cY f3 ⟨rfl,sa,N,cn (rws ps),dG 232 (cn (rws ps)),k,true,hp1.length,rfl,ae x5 hs3,S3.up x5,B',hk,ansok true,λl' hp6 j6 hl x6 hj6=>?_,λhp6 hl x6=>?_⟩
  ·rw [h6] at hl
   induction b with
   |false=>exact nNS hl
   |true=>
    (replace hl:=ay hl;subst hl)
    have' x36:=x5.trans x6
    intros
    refine bQ (ae x36 hst) (lm (by rw [(bS (rws ps) N).2];exact w4 hN7)) h5 ?_
    intros
    refine jq (λ_=>?_) (λh=>nomatch h)
    intros
    refine bQ (ae x36 ho) hqll (v:=adr q) (by rw [Hg,h2];rfl) ?_
    intros
    refine ot (cP 2 hj6) (cP 2 (ae x36 (hRq q h3))) ?_
    rw [f0,h4,show decide (It (λ(x:Nat)=>(x:Int)) l=l.map co)=true from decide_eq_true rfl]
    intros
    refine bN (λh=>nomatch h) λ_=>?_
    intros
    exact hV _ _ ⟨x36,!1,!1,!1,!1,!1⟩
  rw [h6] at hl
  induction b with
  |true=>exact nSN hl
  |false=>
   have' x36:=x5.trans x6
   intros
   refine bQ (ae x36 hst) (lm (by rw [(bS (rws ps) N).2];exact w4 hN7)) h5 ?_
   intros
   refine jq (λh=>nomatch h) λ_=>?_
   intros
   refine ot (jG _ 3) (jG _ 3) ?_
   rw [wl]
   intros
   refine bN (λh=>nomatch h) λ_=>?_
   intros
   exact hV _ _ ⟨x36,!1,!1,!1,!1,!1⟩
 rintro hp4 m4 ⟨x4,r1,r2,r3,r4,r5⟩
 have' hlast:((N:Nat):Int)-1=((N-1:Nat):Int):=DP hN1
 intros
 rw [hlast]
 refine toldF _ _ _ _ _ x4 (DJ hlast) λhp5 j5 q5 x5 hj5 g2 g3=>?_
 intros
 rw [hlast]
 refine cmpF _ _ _ _ _ _ _ _ x5 hj5 g2 g3 ?_
 intros
 refine bN (λh=>nomatch h) λ_=>?_
 intros
 have' hs5:=ae x5 hs3
 have' S5:=S3.up x5
 refine bi hs5 hrl ?_
 refine eD (f:=so sa) (xs:=Hf N) (RwI hp5 (It λk=>(cn (rws ps) k).map co)) rfl ⟨GX _,[],rfl,rfl,(λ_ h=>nomatch h)⟩ (λpre acc hp6 h=>ae h.ext hs5) ?_ ?_
 ·rintro pre k post acc hp6 W' E' e ⟨x6,hs,rfl,hhs,hrs⟩ hW hE'
  have' hk:=(gF e).2
  have' S6:=S5.up x6
  have' hb3:=(S6.few k hk).1
  refine dl ?_
  intros
  refine c5 S6 hk λt ht=>?_
  refine fF ht (!2) ?_
  refine bK (f:=so sa) (xs:=cn (rws ps) k) (λb=>some (.int b)) rfl ht (λb hb Wq E'' hW'=>?_) ?_
  ·refine dl ?_
   intros
   refine b7 (gi S6 ((S6.few k hk).2 b hb) ?_)
   exact hW'
  rw [show (cn (rws ps) k).filterMap (λb=>some (V.int (b:Nat)))=((cn (rws ps) k).map co).map V.int from by rw [Hx,<-Ip];rfl]
  refine b7 (aR (!2) ?_)
  refine hW (some _) _ ⟨x6.trans (GV _ _),hs++[(hp6.length,(cn (rws ps) k).map co)],by rw [Hp];rfl,?_,λq hq=>?_⟩
  ·show It _ _=_
   rw [Hp];show rws hs++_=_
   rw [hhs];simp
  rcases G8.mp hq with hq|hq
  ·exact af (hrs q hq)
  rw [GY.mp hq];exact ai
 rintro acc hp6 ⟨x6,hs,rfl,hhs,hrs⟩
 have' hsl:hs.length=N:=(G6 _).symm.trans ((congrArg HW hhs).trans ((G6 _).trans HA))
 refine aR (!2) ?_
 intros
 refine we (jH 1 (ps:=hs) ai (λp hp=>af (hrs p hp))) (jH 1 (ps:=ps) (af (ae (x5.trans x6) hw3)) (λp hp=>af (ae (x5.trans x6) (hR3 p hp)))) ?_
 have' hrows:rws hs=rws ps:=by
  rw [hhs]
  refine Jj λk=>?_
  rw [Hg]
  by_cases hk:k<N
  ·rw [IE hk]
   have' h:=G3 (l:=rws ps) (i:=k) (by rw [hwN];exact hk)
   rw [h]
   exact congrArg some (oN W h).symm
  rw [IM (by simp;exact w24 hk),IM (by rw [hwN];exact w24 hk)];rfl
 have' e1:hs.map (λp=>LR (p.2.map .int))=(rws hs).map λr=>LR (r.map .int):=by rw [Hx];rfl
 have' e2:ps.map (λp=>LR (p.2.map .int))=(rws ps).map λr=>LR (r.map .int):=by rw [Hx];rfl
 rw [e1,e2,ru,hrows,show decide (rws ps=rws ps)=true from decide_eq_true rfl]
 intros
 exact hQ _
theorem eL:∀{l:List (Str×β)},l.lookup x=some v->(x,v)∈l
 |[],h=>by exact nNS h
 |(a,w)::l,h=>by
  unfold HQ at h
  split at h
  ·rename_i e;(replace h:=ay h;subst h);have':x=a:=by simpa using e
   rw [this];exact .head _
  exact .tail _ (eL h)
theorem gl {α:Type} {P:α->Prop}:∀p∈([]:List α),P p:=λ_ h=>nomatch h
theorem all_cons {α:Type} {P:α->Prop} {a:α} {l:List α} (h:P a) (h':∀p∈l,P p):∀p∈a::l,P p:=λp hp=>by
 rcases G0.mp hp with rfl|hp
 ·exact h
 exact h' p hp
def An (K:Frag) (p:Str×Value):Prop:=(p.1==("__debug__":Str))=false∧(nsIn K Lv p.1=some (some p.2)∨(nsIn K Lv p.1=some none∧bootBuiltins p.1=some p.2∧(p.1==("__name__":Str))=false))
theorem sk (P:Ko):∀p∈ko,An (KH P) p:=by
 unfold ko
 iterate 19 refine all_cons ⟨!0,.inl !0⟩ ?_
 iterate 10 refine all_cons ⟨!0,.inr ⟨!0,!0,!0⟩⟩ ?_
 exact gl
def nW (K:Frag) (C:Nat) (x:Str):Prop:=LL K C x=true∧KS K (.ref C) x=some none∧NS K C x=some none
def fnP (K:Frag) (C:Nat) (x:Str) (f:Nat):Prop:=LL K C x=true∧KS K (.ref C) x=some (some (.ref f))∧isFn K (.ref f)=true
def sq (K:Frag) (C:Nat) (x:Str) (f:Nat):Prop:=LL K C x=true∧Ex2 λp rest=>QK (KS K (.ref C) x=some (some (.ref p))) (LZ K (.ref p) "__get__"=some (some (.builtin "property.__get__"))) (NC K (.ref p)=some true) (Ob K p "property"=some (.ref f::rest))
def vu (K:Frag) (C:Nat) (x:Str) (f:Nat):Prop:=LL K C x=true∧copiedNames.contains x=false∧Ex2 λp rest=>Q6 (KS K (.ref C) x=some (some (.ref p))) (typeIn K (.ref p)=some (.type "staticmethod")) (LZ K (.ref p) "__get__"=some (some (.builtin "staticmethod.__get__"))) (NC K (.ref p)=some false) (Ob K p "staticmethod"=some (.ref f::rest))
def y0 (K:Frag) (C:Nat) (x:Str) (v:V):Prop:=LL K C x=true∧NS K C x=some none∧copiedNames.contains x=false∧∃a,Q6 (KS K (.ref C) x=some (some a)) (LZ K a "__get__"=some none) (noGet K (some a)=true) (Os a=true) (∀ρ,PF ρ v a)
def akP (K:Frag) (C:Nat) (p:Str×AK):Prop:=match p.2 with
 |.field=>nW K C p.1
 |.val v=>y0 K C p.1 v
 |.fn f=>fnP K C p.1 f
 |.prop f=>sq K C p.1 f
 |.stat f=>vu K C p.1 f
theorem nY (h:o.bind Ij=some v):∃rest,o=some (v::rest):=by
 induction o with
 |none=>exact nNS h
 |some l=>induction l using Lc with
  |nil=>exact nNS h
  |cons a l=>(replace h:=ay h;subst h);exact ⟨l,rfl⟩
theorem gm {K:Frag} {C:Nat} {x:Str} {f p:Nat} (h0:LL K C x=true) (h1:KS K (.ref C) x=some (some (.ref p))) (h2:LZ K (.ref p) "__get__"=some (some (.builtin "property.__get__"))) (h3:NC K (.ref p)=some true) (h4:(Ob K p "property").bind Ij=some (.ref f)):sq K C x f:=
 let ⟨rest,h⟩:=nY h4;⟨h0,p,rest,h1,h2,h3,h⟩
theorem ic {K:Frag} {C:Nat} {x:Str} {f p:Nat} (h0:LL K C x=true) (hc:copiedNames.contains x=false) (h1:KS K (.ref C) x=some (some (.ref p))) (ht:typeIn K (.ref p)=some (.type "staticmethod")) (h2:LZ K (.ref p) "__get__"=some (some (.builtin "staticmethod.__get__"))) (h3:NC K (.ref p)=some false) (h4:(Ob K p "staticmethod").bind Ij=some (.ref f)):vu K C x f:=
 let ⟨rest,h⟩:=nY h4;⟨h0,hc,p,rest,h1,ht,h2,h3,h⟩
theorem Ao (P:Ko):∀p∈b5 336,akP (KH P) 336 p:=by
 show ∀p∈[(("key":Str),AK.field),("_ROOT",.field),("_dependents",.field),("bases",.field),("_implied",.field),("iro",.field),("sro",.field),("setBases",.fn 308),("changed",.fn 318),("subscribe",.fn 294),("_calculate_sro",.fn 313),("dependents",.prop 286),("unsubscribe",.fn 301)],_
 refine all_cons ⟨!0,!0,!0⟩ ?_
 refine all_cons ⟨!0,!0,!0⟩ ?_
 refine all_cons ⟨!0,!0,!0⟩ ?_
 refine all_cons ⟨!0,!0,!0⟩ ?_
 refine all_cons ⟨!0,!0,!0⟩ ?_
 refine all_cons ⟨!0,!0,!0⟩ ?_
 refine all_cons ⟨!0,!0,!0⟩ ?_
 refine all_cons ⟨!0,!0,!0⟩ ?_
 refine all_cons ⟨!0,!0,!0⟩ ?_
 refine all_cons ⟨!0,!0,!0⟩ ?_
 refine all_cons ⟨!0,!0,!0⟩ ?_
 refine all_cons (gm (p:=287) (!0) (!0) (!0) (!0) !0) ?_
 refine all_cons ⟨!0,!0,!0⟩ ?_
 exact gl
theorem Ap (P:Ko):∀p∈b5 204,akP (KH P) 204 p:=by
 show ∀p∈(("_same_kind":Str),AK.fn 132)::("_guess_next_base",.fn 187)::oY,_
 unfold oY
 refine all_cons ⟨!0,!0,!0⟩ ?_
 refine all_cons ⟨!0,!0,!0⟩ ?_
 refine all_cons ⟨!0,!0,!0⟩ ?_
 refine all_cons ⟨!0,!0,!0⟩ ?_
 refine all_cons ⟨!0,!0,!0⟩ ?_
 refine all_cons ⟨!0,!0,!0⟩ ?_
 refine all_cons ⟨!0,!0,!0,.none,!0,!0,!0,!0,λ_=>rfl⟩ ?_
 refine all_cons ⟨!0,!0,!0,.none,!0,!0,!0,!0,λ_=>rfl⟩ ?_
 refine all_cons ⟨!0,!0,!0,.bool false,!0,!0,!0,!0,λ_=>rfl⟩ ?_
 refine all_cons (gm (p:=140) (!0) (!0) (!0) (!0) !0) ?_
 refine all_cons (gm (p:=148) (!0) (!0) (!0) (!0) !0) ?_
 refine all_cons (ic (p:=157) (!0) (!0) (!0) (!0) (!0) (!0) !0) ?_
 refine all_cons (ic (p:=165) (!0) (!0) (!0) (!0) (!0) (!0) !0) ?_
 refine all_cons ⟨!0,!0,!0⟩ ?_
 refine all_cons ⟨!0,!0,!0⟩ ?_
 refine all_cons ⟨!0,!0,!0⟩ ?_
 refine all_cons ⟨!0,!0,!0⟩ ?_
 exact gl
theorem Aq (P:Ko):∀p∈b5 232,akP (KH P) 232 p:=by
 show ∀p∈(("_same_kind":Str),AK.fn 222)::("_guess_next_base",.fn 229)::oY,_
 unfold oY
 refine all_cons ⟨!0,!0,!0⟩ ?_
 refine all_cons ⟨!0,!0,!0⟩ ?_
 refine all_cons ⟨!0,!0,!0⟩ ?_
 refine all_cons ⟨!0,!0,!0⟩ ?_
 refine all_cons ⟨!0,!0,!0⟩ ?_
 refine all_cons ⟨!0,!0,!0⟩ ?_
 refine all_cons ⟨!0,!0,!0,.none,!0,!0,!0,!0,λ_=>rfl⟩ ?_
 refine all_cons ⟨!0,!0,!0,.none,!0,!0,!0,!0,λ_=>rfl⟩ ?_
 refine all_cons ⟨!0,!0,!0,.bool false,!0,!0,!0,!0,λ_=>rfl⟩ ?_
 refine all_cons (gm (p:=140) (!0) (!0) (!0) (!0) !0) ?_
 refine all_cons (gm (p:=148) (!0) (!0) (!0) (!0) !0) ?_
 refine all_cons (ic (p:=157) (!0) (!0) (!0) (!0) (!0) (!0) !0) ?_
 refine all_cons (ic (p:=165) (!0) (!0) (!0) (!0) (!0) (!0) !0) ?_
 refine all_cons ⟨!0,!0,!0⟩ ?_
 refine all_cons ⟨!0,!0,!0⟩ ?_
 refine all_cons ⟨!0,!0,!0⟩ ?_
 refine all_cons ⟨!0,!0,!0⟩ ?_
 exact gl
theorem F4 (P:Ko):∀p∈b5 86,akP (KH P) 86 p:=by
 show ∀p∈[(("leaf":Str),AK.field),("_mro",.field),("had_inconsistency",.val .none),("mro",.fn 83)],_
 refine all_cons ⟨!0,!0,!0⟩ ?_
 refine all_cons ⟨!0,!0,!0⟩ ?_
 refine all_cons ⟨!0,!0,!0,.none,!0,!0,!0,!0,λ_=>rfl⟩ ?_
 refine all_cons ⟨!0,!0,!0⟩ ?_
 exact gl
theorem fu (P:Ko) (h:(b5 C).lookup x=some a):akP (KH P) C (x,a):=by
 have hm:=eL h
 by_cases h1:C=336
 ·subst h1;exact Ao P _ hm
 by_cases h2:C=204
 ·subst h2;exact Ap P _ hm
 by_cases h3:C=232
 ·subst h3;exact Aq P _ hm
 by_cases h4:C=86
 ·subst h4;exact F4 P _ hm
 unfold b5 at hm
 rw [Rz h1,Rz h2,Rz h3,Rz h4] at hm
 cases hm
def bV (ns:List Str) (n:Nat) (dv:List V) (vs:List V):Option (List (Str×V)):=if vs.length=n then some (ns.zip (vs++dv)) else none
theorem aY (ns:List Str):bV ns ns.length []=aD ns:=by funext vs;unfold bV aD;rw [HR]
theorem aS (ok:c.Ok) (G:PJ c Γ D) (h:lO c.K f ns=true) (hd:∀ρ,PH ρ dv dx)
  (hb:∀fd (xs ys:List Value) S,fi c.K f=some fd->xs.length=np->ys.length=ks.length->peek c.K S (MR fd ⟨xs,ks.zip ys⟩)=some (ns.zip (xs++ys++dx))):
  P0 c (D+2) f ks (aq Γ n (aF c.K f) (an c.K f) (bV ns (np+ks.length) dv)):=by
 refine entry ok G h λs ρ vs ps kw bs fd hf X hv hk hbs=>?_
 unfold bV at hbs
 split at hbs
 ·rename_i hl
  (replace hbs:=ay hbs;subst hbs)
  have hps:ps.length=np:=by have:=hv.length;rw [G7] at this;exact w95 hk hl this
  exact ⟨⟨_,kp_binds X λS=>hb fd ps kw S hf hps hk,lP (hv.app (hd ρ))⟩,λb hbm=>(List.of_mem_zip hbm).1⟩
 exact nNS hbs
def bindC (K:Frag) (f:Nat) (S:Setting) (xs:List Value) (kw:List (Str×Value)):Option (Option (List (Str×Value))):=(fi K f).map λfd=>peek K S (MR fd ⟨xs,kw⟩)
theorem oO (h:l.length=1):∃x,l=[x]:=Jg.mp h
theorem vv (h:l.length=2):∃x y,l=[x,y]:=by
 induction l using Lc with
 |nil=>exact nNe h rfl
 |cons x l=>obtain ⟨y,rfl⟩:=oO (Nat.succ.inj h);exact ⟨x,y,rfl⟩
theorem vw (h:l.length=3):∃x y z,l=[x,y,z]:=by
 induction l using Lc with
 |nil=>exact nNe h rfl
 |cons x l=>obtain ⟨y,z,rfl⟩:=vv (Nat.succ.inj h);exact ⟨x,y,z,rfl⟩
theorem c4 {K:Frag} {f:Nat} {a:Str} (h:∀S x,bindC K f S [x] []=some (some [(a,x)])):∀fd (xs ys:List Value) S,fi K f=some fd->xs.length=1->ys.length=([]:List Str).length->peek K S (MR fd ⟨xs,([]:List Str).zip ys⟩)=some ([a].zip (xs++ys++[])):=by
 intro fd xs ys S hf hx hy
 obtain ⟨x,rfl⟩:=oO hx
 obtain rfl:=HP.mp hy
 have:=h S x
 unfold bindC at this;rw [hf] at this
 exact Hm.inj this
theorem fw {K:Frag} {f:Nat} {a b:Str} (h:∀S x y,bindC K f S [x,y] []=some (some [(a,x),(b,y)])):∀fd (xs ys:List Value) S,fi K f=some fd->xs.length=2->ys.length=([]:List Str).length->peek K S (MR fd ⟨xs,([]:List Str).zip ys⟩)=some ([a,b].zip (xs++ys++[])):=by
 intro fd xs ys S hf hx hy
 obtain ⟨x,y,rfl⟩:=vv hx
 obtain rfl:=HP.mp hy
 have:=h S x y
 unfold bindC at this;rw [hf] at this
 exact Hm.inj this
theorem gU {K:Frag} {f:Nat} {a b d:Str} (h:∀S x y z,bindC K f S [x,y,z] []=some (some [(a,x),(b,y),(d,z)])):∀fd (xs ys:List Value) S,fi K f=some fd->xs.length=3->ys.length=([]:List Str).length->peek K S (MR fd ⟨xs,([]:List Str).zip ys⟩)=some ([a,b,d].zip (xs++ys++[])):=by
 intro fd xs ys S hf hx hy
 obtain ⟨x,y,z,rfl⟩:=vw hx
 obtain rfl:=HP.mp hy
 have:=h S x y z
 unfold bindC at this;rw [hf] at this
 exact Hm.inj this
theorem y6 {K:Frag} {f:Nat} {a b d e:Str} {w:Value} (h:∀S x y z,bindC K f S [x,y,z] []=some (some [(a,x),(b,y),(d,z),(e,w)])):∀fd (xs ys:List Value) S,fi K f=some fd->xs.length=3->ys.length=([]:List Str).length->peek K S (MR fd ⟨xs,([]:List Str).zip ys⟩)=some ([a,b,d,e].zip (xs++ys++[w])):=by
 intro fd xs ys S hf hx hy
 obtain ⟨x,y,z,rfl⟩:=vw hx
 obtain rfl:=HP.mp hy
 have:=h S x y z
 unfold bindC at this;rw [hf] at this
 exact Hm.inj this
theorem Ar {K:Frag} {f:Nat} {k a b:Str} {ns:List Str} {ws:List Value} (h:∀S x y,bindC K f S [x] [(k,y)]=some (some ((a,x)::(b,y)::ns.zip ws))):∀fd (xs ys:List Value) S,fi K f=some fd->xs.length=1->ys.length=[k].length->peek K S (MR fd ⟨xs,[k].zip ys⟩)=some ((a::b::ns).zip (xs++ys++ws)):=by
 intro fd xs ys S hf hx hy
 obtain ⟨x,rfl⟩:=oO hx
 obtain ⟨y,rfl⟩:=oO hy
 have:=h S x y
 unfold bindC at this;rw [hf] at this
 exact Hm.inj this
theorem F5 {P:Ko} {c:Cx} {D:Nat} {fn:FnT} (hK:c.K=KH P) (ok:c.Ok) (G:PJ c (gam fn) D):bn c (D+2) 28 [] (aq (gam fn) 30 (aF (KH P) 28) (an (KH P) 28) (aD ["orderings"])):=by
 have':=aS (np:=1) (ns:=["orderings"]) (dv:=[]) (dx:=[]) (n:=30) ok G (by rw [hK];kernel_rfl) (λ_=>trivial) (c4 (f:=28) λS x=>by rw [hK];kernel_rfl)
 rw [hK] at this
 exact this.snd.mono (GW _) (λhd vs hp Q E h=>by rw [show bV ["orderings"] (1+([]:List Str).length) []=aD ["orderings"] from aY ["orderings"]];exact h)
theorem F6 {P:Ko} {c:Cx} {D:Nat} {fn:FnT} (hK:c.K=KH P) (ok:c.Ok) (G:PJ c (gam fn) D):bn c (D+2) 35 [] (aq (gam fn) 30 (aF (KH P) 35) (an (KH P) 35) (aD ["begin"])):=by
 have':=aS (np:=1) (ns:=["begin"]) (dv:=[]) (dx:=[]) (n:=30) ok G (by rw [hK];kernel_rfl) (λ_=>trivial) (c4 (f:=35) λS x=>by rw [hK];kernel_rfl)
 rw [hK] at this
 exact this.snd.mono (GW _) (λhd vs hp Q E h=>by rw [show bV ["begin"] (1+([]:List Str).length) []=aD ["begin"] from aY ["begin"]];exact h)
theorem F7 {P:Ko} {c:Cx} {D:Nat} {fn:FnT} (hK:c.K=KH P) (ok:c.Ok) (G:PJ c (gam fn) D):bn c (D+2) 42 [] (aq (gam fn) 30 (aF (KH P) 42) (an (KH P) 42) (aD ["ob"])):=by
 have':=aS (np:=1) (ns:=["ob"]) (dv:=[]) (dx:=[]) (n:=30) ok G (by rw [hK];kernel_rfl) (λ_=>trivial) (c4 (f:=42) λS x=>by rw [hK];kernel_rfl)
 rw [hK] at this
 exact this.snd.mono (GW _) (λhd vs hp Q E h=>by rw [show bV ["ob"] (1+([]:List Str).length) []=aD ["ob"] from aY ["ob"]];exact h)
theorem F8 {P:Ko} {c:Cx} {D:Nat} {fn:FnT} (hK:c.K=KH P) (ok:c.Ok) (G:PJ c (gam fn) D):bn c (D+2) 76 [] (aq (gam fn) 30 (aF (KH P) 76) (an (KH P) 76) (aD ["self","C","mro"])):=by
 have':=aS (np:=3) (ns:=["self","C","mro"]) (dv:=[]) (dx:=[]) (n:=30) ok G (by rw [hK];kernel_rfl) (λ_=>trivial) (gU (f:=76) λS x y z=>by rw [hK];kernel_rfl)
 rw [hK] at this
 exact this.snd.mono (GW _) (λhd vs hp Q E h=>by rw [show bV ["self","C","mro"] (3+([]:List Str).length) []=aD ["self","C","mro"] from aY ["self","C","mro"]];exact h)
theorem F9 {P:Ko} {c:Cx} {D:Nat} {fn:FnT} (hK:c.K=KH P) (ok:c.Ok) (G:PJ c (gam fn) D):bn c (D+2) 83 [] (aq (gam fn) 30 (aF (KH P) 83) (an (KH P) 83) (aD ["self"])):=by
 have':=aS (np:=1) (ns:=["self"]) (dv:=[]) (dx:=[]) (n:=30) ok G (by rw [hK];kernel_rfl) (λ_=>trivial) (c4 (f:=83) λS x=>by rw [hK];kernel_rfl)
 rw [hK] at this
 exact this.snd.mono (GW _) (λhd vs hp Q E h=>by rw [show bV ["self"] (1+([]:List Str).length) []=aD ["self"] from aY ["self"]];exact h)
theorem As {P:Ko} {c:Cx} {D:Nat} {fn:FnT} (hK:c.K=KH P) (ok:c.Ok) (G:PJ c (gam fn) D):bn c (D+2) 117 [] (aq (gam fn) 30 (aF (KH P) 117) (an (KH P) 117) (aD ["C","strict","base_mros"])):=by
 have':=aS (np:=3) (ns:=["C","strict","base_mros"]) (dv:=[]) (dx:=[]) (n:=30) ok G (by rw [hK];kernel_rfl) (λ_=>trivial) (gU (f:=117) λS x y z=>by rw [hK];kernel_rfl)
 rw [hK] at this
 exact this.snd.mono (GW _) (λhd vs hp Q E h=>by rw [show bV ["C","strict","base_mros"] (3+([]:List Str).length) []=aD ["C","strict","base_mros"] from aY ["C","strict","base_mros"]];exact h)
theorem At {P:Ko} {c:Cx} {D:Nat} {fn:FnT} (hK:c.K=KH P) (ok:c.Ok) (G:PJ c (gam fn) D):bn c (D+2) 125 [] (aq (gam fn) 30 (aF (KH P) 125) (an (KH P) 125) (aD ["self","C","memo"])):=by
 have':=aS (np:=3) (ns:=["self","C","memo"]) (dv:=[]) (dx:=[]) (n:=30) ok G (by rw [hK];kernel_rfl) (λ_=>trivial) (gU (f:=125) λS x y z=>by rw [hK];kernel_rfl)
 rw [hK] at this
 exact this.snd.mono (GW _) (λhd vs hp Q E h=>by rw [show bV ["self","C","memo"] (3+([]:List Str).length) []=aD ["self","C","memo"] from aY ["self","C","memo"]];exact h)
theorem Au {P:Ko} {c:Cx} {D:Nat} {fn:FnT} (hK:c.K=KH P) (ok:c.Ok) (G:PJ c (gam fn) D):bn c (D+2) 132 [] (aq (gam fn) 30 (aF (KH P) 132) (an (KH P) 132) (aD ["self","base","memo"])):=by
 have':=aS (np:=3) (ns:=["self","base","memo"]) (dv:=[]) (dx:=[]) (n:=30) ok G (by rw [hK];kernel_rfl) (λ_=>trivial) (gU (f:=132) λS x y z=>by rw [hK];kernel_rfl)
 rw [hK] at this
 exact this.snd.mono (GW _) (λhd vs hp Q E h=>by rw [show bV ["self","base","memo"] (3+([]:List Str).length) []=aD ["self","base","memo"] from aY ["self","base","memo"]];exact h)
theorem Av {P:Ko} {c:Cx} {D:Nat} {fn:FnT} (hK:c.K=KH P) (ok:c.Ok) (G:PJ c (gam fn) D):bn c (D+2) 147 [] (aq (gam fn) 30 (aF (KH P) 147) (an (KH P) 147) (aD ["self"])):=by
 have':=aS (np:=1) (ns:=["self"]) (dv:=[]) (dx:=[]) (n:=30) ok G (by rw [hK];kernel_rfl) (λ_=>trivial) (c4 (f:=147) λS x=>by rw [hK];kernel_rfl)
 rw [hK] at this
 exact this.snd.mono (GW _) (λhd vs hp Q E h=>by rw [show bV ["self"] (1+([]:List Str).length) []=aD ["self"] from aY ["self"]];exact h)
theorem Aw {P:Ko} {c:Cx} {D:Nat} {fn:FnT} (hK:c.K=KH P) (ok:c.Ok) (G:PJ c (gam fn) D):bn c (D+2) 155 [] (aq (gam fn) 30 (aF (KH P) 155) (an (KH P) 155) (aD ["base","base_tree_remaining"])):=by
 have':=aS (np:=2) (ns:=["base","base_tree_remaining"]) (dv:=[]) (dx:=[]) (n:=30) ok G (by rw [hK];kernel_rfl) (λ_=>trivial) (fw (f:=155) λS x y=>by rw [hK];kernel_rfl)
 rw [hK] at this
 exact this.snd.mono (GW _) (λhd vs hp Q E h=>by rw [show bV ["base","base_tree_remaining"] (2+([]:List Str).length) []=aD ["base","base_tree_remaining"] from aY ["base","base_tree_remaining"]];exact h)
theorem Ax {P:Ko} {c:Cx} {D:Nat} {fn:FnT} (hK:c.K=KH P) (ok:c.Ok) (G:PJ c (gam fn) D):bn c (D+2) 163 [] (aq (gam fn) 30 (aF (KH P) 163) (an (KH P) 163) (aD ["base_tree","ignoring"])):=by
 have':=aS (np:=2) (ns:=["base_tree","ignoring"]) (dv:=[]) (dx:=[]) (n:=30) ok G (by rw [hK];kernel_rfl) (λ_=>trivial) (fw (f:=163) λS x y=>by rw [hK];kernel_rfl)
 rw [hK] at this
 exact this.snd.mono (GW _) (λhd vs hp Q E h=>by rw [show bV ["base_tree","ignoring"] (2+([]:List Str).length) []=aD ["base_tree","ignoring"] from aY ["base_tree","ignoring"]];exact h)
theorem Ay {P:Ko} {c:Cx} {D:Nat} {fn:FnT} (hK:c.K=KH P) (ok:c.Ok) (G:PJ c (gam fn) D):bn c (D+2) 173 [] (aq (gam fn) 30 (aF (KH P) 173) (an (KH P) 173) (aD ["self","base_tree_remaining"])):=by
 have':=aS (np:=2) (ns:=["self","base_tree_remaining"]) (dv:=[]) (dx:=[]) (n:=30) ok G (by rw [hK];kernel_rfl) (λ_=>trivial) (fw (f:=173) λS x y=>by rw [hK];kernel_rfl)
 rw [hK] at this
 exact this.snd.mono (GW _) (λhd vs hp Q E h=>by rw [show bV ["self","base_tree_remaining"] (2+([]:List Str).length) []=aD ["self","base_tree_remaining"] from aY ["self","base_tree_remaining"]];exact h)
theorem Az {P:Ko} {c:Cx} {D:Nat} {fn:FnT} (hK:c.K=KH P) (ok:c.Ok) (G:PJ c (gam fn) D):bn c (D+2) 180 [] (aq (gam fn) 30 (aF (KH P) 180) (an (KH P) 180) (aD ["self","base_tree_remaining"])):=by
 have':=aS (np:=2) (ns:=["self","base_tree_remaining"]) (dv:=[]) (dx:=[]) (n:=30) ok G (by rw [hK];kernel_rfl) (λ_=>trivial) (fw (f:=180) λS x y=>by rw [hK];kernel_rfl)
 rw [hK] at this
 exact this.snd.mono (GW _) (λhd vs hp Q E h=>by rw [show bV ["self","base_tree_remaining"] (2+([]:List Str).length) []=aD ["self","base_tree_remaining"] from aY ["self","base_tree_remaining"]];exact h)
theorem AA {P:Ko} {c:Cx} {D:Nat} {fn:FnT} (hK:c.K=KH P) (ok:c.Ok) (G:PJ c (gam fn) D):bn c (D+2) 187 [] (aq (gam fn) 30 (aF (KH P) 187) (an (KH P) 187) (aD ["self","base_tree_remaining"])):=by
 have':=aS (np:=2) (ns:=["self","base_tree_remaining"]) (dv:=[]) (dx:=[]) (n:=30) ok G (by rw [hK];kernel_rfl) (λ_=>trivial) (fw (f:=187) λS x y=>by rw [hK];kernel_rfl)
 rw [hK] at this
 exact this.snd.mono (GW _) (λhd vs hp Q E h=>by rw [show bV ["self","base_tree_remaining"] (2+([]:List Str).length) []=aD ["self","base_tree_remaining"] from aY ["self","base_tree_remaining"]];exact h)
theorem AB {P:Ko} {c:Cx} {D:Nat} {fn:FnT} (hK:c.K=KH P) (ok:c.Ok) (G:PJ c (gam fn) D):bn c (D+2) 194 [] (aq (gam fn) 30 (aF (KH P) 194) (an (KH P) 194) (aD ["self"])):=by
 have':=aS (np:=1) (ns:=["self"]) (dv:=[]) (dx:=[]) (n:=30) ok G (by rw [hK];kernel_rfl) (λ_=>trivial) (c4 (f:=194) λS x=>by rw [hK];kernel_rfl)
 rw [hK] at this
 exact this.snd.mono (GW _) (λhd vs hp Q E h=>by rw [show bV ["self"] (1+([]:List Str).length) []=aD ["self"] from aY ["self"]];exact h)
theorem AC {P:Ko} {c:Cx} {D:Nat} {fn:FnT} (hK:c.K=KH P) (ok:c.Ok) (G:PJ c (gam fn) D):bn c (D+2) 201 [] (aq (gam fn) 30 (aF (KH P) 201) (an (KH P) 201) (aD ["self"])):=by
 have':=aS (np:=1) (ns:=["self"]) (dv:=[]) (dx:=[]) (n:=30) ok G (by rw [hK];kernel_rfl) (λ_=>trivial) (c4 (f:=201) λS x=>by rw [hK];kernel_rfl)
 rw [hK] at this
 exact this.snd.mono (GW _) (λhd vs hp Q E h=>by rw [show bV ["self"] (1+([]:List Str).length) []=aD ["self"] from aY ["self"]];exact h)
theorem AD {P:Ko} {c:Cx} {D:Nat} {fn:FnT} (hK:c.K=KH P) (ok:c.Ok) (G:PJ c (gam fn) D):bn c (D+2) 222 [] (aq (gam fn) 30 (aF (KH P) 222) (an (KH P) 222) (aD ["self","base","memo"])):=by
 have':=aS (np:=3) (ns:=["self","base","memo"]) (dv:=[]) (dx:=[]) (n:=30) ok G (by rw [hK];kernel_rfl) (λ_=>trivial) (gU (f:=222) λS x y z=>by rw [hK];kernel_rfl)
 rw [hK] at this
 exact this.snd.mono (GW _) (λhd vs hp Q E h=>by rw [show bV ["self","base","memo"] (3+([]:List Str).length) []=aD ["self","base","memo"] from aY ["self","base","memo"]];exact h)
theorem AE {P:Ko} {c:Cx} {D:Nat} {fn:FnT} (hK:c.K=KH P) (ok:c.Ok) (G:PJ c (gam fn) D):bn c (D+2) 229 [] (aq (gam fn) 30 (aF (KH P) 229) (an (KH P) 229) (aD ["self","base_tree_remaining"])):=by
 have':=aS (np:=2) (ns:=["self","base_tree_remaining"]) (dv:=[]) (dx:=[]) (n:=30) ok G (by rw [hK];kernel_rfl) (λ_=>trivial) (fw (f:=229) λS x y=>by rw [hK];kernel_rfl)
 rw [hK] at this
 exact this.snd.mono (GW _) (λhd vs hp Q E h=>by rw [show bV ["self","base_tree_remaining"] (2+([]:List Str).length) []=aD ["self","base_tree_remaining"] from aY ["self","base_tree_remaining"]];exact h)
theorem AF {P:Ko} {c:Cx} {D:Nat} {fn:FnT} (hK:c.K=KH P) (ok:c.Ok) (G:PJ c (gam fn) D):bn c (D+2) 286 [] (aq (gam fn) 30 (aF (KH P) 286) (an (KH P) 286) (aD ["self"])):=by
 have':=aS (np:=1) (ns:=["self"]) (dv:=[]) (dx:=[]) (n:=30) ok G (by rw [hK];kernel_rfl) (λ_=>trivial) (c4 (f:=286) λS x=>by rw [hK];kernel_rfl)
 rw [hK] at this
 exact this.snd.mono (GW _) (λhd vs hp Q E h=>by rw [show bV ["self"] (1+([]:List Str).length) []=aD ["self"] from aY ["self"]];exact h)
theorem AG {P:Ko} {c:Cx} {D:Nat} {fn:FnT} (hK:c.K=KH P) (ok:c.Ok) (G:PJ c (gam fn) D):bn c (D+2) 294 [] (aq (gam fn) 30 (aF (KH P) 294) (an (KH P) 294) (aD ["self","dependent"])):=by
 have':=aS (np:=2) (ns:=["self","dependent"]) (dv:=[]) (dx:=[]) (n:=30) ok G (by rw [hK];kernel_rfl) (λ_=>trivial) (fw (f:=294) λS x y=>by rw [hK];kernel_rfl)
 rw [hK] at this
 exact this.snd.mono (GW _) (λhd vs hp Q E h=>by rw [show bV ["self","dependent"] (2+([]:List Str).length) []=aD ["self","dependent"] from aY ["self","dependent"]];exact h)
theorem AH {P:Ko} {c:Cx} {D:Nat} {fn:FnT} (hK:c.K=KH P) (ok:c.Ok) (G:PJ c (gam fn) D):bn c (D+2) 308 [] (aq (gam fn) 30 (aF (KH P) 308) (an (KH P) 308) (aD ["self","bases"])):=by
 have':=aS (np:=2) (ns:=["self","bases"]) (dv:=[]) (dx:=[]) (n:=30) ok G (by rw [hK];kernel_rfl) (λ_=>trivial) (fw (f:=308) λS x y=>by rw [hK];kernel_rfl)
 rw [hK] at this
 exact this.snd.mono (GW _) (λhd vs hp Q E h=>by rw [show bV ["self","bases"] (2+([]:List Str).length) []=aD ["self","bases"] from aY ["self","bases"]];exact h)
theorem AI {P:Ko} {c:Cx} {D:Nat} {fn:FnT} (hK:c.K=KH P) (ok:c.Ok) (G:PJ c (gam fn) D):bn c (D+2) 313 [] (aq (gam fn) 30 (aF (KH P) 313) (an (KH P) 313) (aD ["self"])):=by
 have':=aS (np:=1) (ns:=["self"]) (dv:=[]) (dx:=[]) (n:=30) ok G (by rw [hK];kernel_rfl) (λ_=>trivial) (c4 (f:=313) λS x=>by rw [hK];kernel_rfl)
 rw [hK] at this
 exact this.snd.mono (GW _) (λhd vs hp Q E h=>by rw [show bV ["self"] (1+([]:List Str).length) []=aD ["self"] from aY ["self"]];exact h)
theorem AJ {P:Ko} {c:Cx} {D:Nat} {fn:FnT} (hK:c.K=KH P) (ok:c.Ok) (G:PJ c (gam fn) D):bn c (D+2) 318 [] (aq (gam fn) 30 (aF (KH P) 318) (an (KH P) 318) (aD ["self","originally_changed"])):=by
 have':=aS (np:=2) (ns:=["self","originally_changed"]) (dv:=[]) (dx:=[]) (n:=30) ok G (by rw [hK];kernel_rfl) (λ_=>trivial) (fw (f:=318) λS x y=>by rw [hK];kernel_rfl)
 rw [hK] at this
 exact this.snd.mono (GW _) (λhd vs hp Q E h=>by rw [show bV ["self","originally_changed"] (2+([]:List Str).length) []=aD ["self","originally_changed"] from aY ["self","originally_changed"]];exact h)
theorem AL {P:Ko} {c:Cx} {D:Nat} {fn:FnT} (hK:c.K=KH P) (ok:c.Ok) (G:PJ c (gam fn) D):bn c (D+2) 373 [] (aq (gam fn) 30 (aF (KH P) 373) (an (KH P) 373) (aD ["bases"])):=by
 have':=aS (np:=1) (ns:=["bases"]) (dv:=[]) (dx:=[]) (n:=30) ok G (by rw [hK];kernel_rfl) (λ_=>trivial) (c4 (f:=373) λS x=>by rw [hK];kernel_rfl)
 rw [hK] at this
 exact this.snd.mono (GW _) (λhd vs hp Q E h=>by rw [show bV ["bases"] (1+([]:List Str).length) []=aD ["bases"] from aY ["bases"]];exact h)
theorem AM {P:Ko} {c:Cx} {D:Nat} {fn:FnT} (hK:c.K=KH P) (ok:c.Ok) (G:PJ c (gam fn) D):bn c (D+2) 378 [] (aq (gam fn) 30 (aF (KH P) 378) (an (KH P) 378) (aD ["rows"])):=by
 have':=aS (np:=1) (ns:=["rows"]) (dv:=[]) (dx:=[]) (n:=30) ok G (by rw [hK];kernel_rfl) (λ_=>trivial) (c4 (f:=378) λS x=>by rw [hK];kernel_rfl)
 rw [hK] at this
 exact this.snd.mono (GW _) (λhd vs hp Q E h=>by rw [show bV ["rows"] (1+([]:List Str).length) []=aD ["rows"] from aY ["rows"]];exact h)
theorem AN {P:Ko} {c:Cx} {D:Nat} {fn:FnT} (hK:c.K=KH P) (ok:c.Ok) (G:PJ c (gam fn) D):bn c (D+2) 385 [] (aq (gam fn) 30 (aF (KH P) 385) (an (KH P) 385) (aD ["world","node"])):=by
 have':=aS (np:=2) (ns:=["world","node"]) (dv:=[]) (dx:=[]) (n:=30) ok G (by rw [hK];kernel_rfl) (λ_=>trivial) (fw (f:=385) λS x y=>by rw [hK];kernel_rfl)
 rw [hK] at this
 exact this.snd.mono (GW _) (λhd vs hp Q E h=>by rw [show bV ["world","node"] (2+([]:List Str).length) []=aD ["world","node"] from aY ["world","node"]];exact h)
theorem AO {P:Ko} {c:Cx} {D:Nat} {fn:FnT} (hK:c.K=KH P) (ok:c.Ok) (G:PJ c (gam fn) D):bn c (D+2) 392 [] (aq (gam fn) 30 (aF (KH P) 392) (an (KH P) 392) (aD ["row"])):=by
 have':=aS (np:=1) (ns:=["row"]) (dv:=[]) (dx:=[]) (n:=30) ok G (by rw [hK];kernel_rfl) (λ_=>trivial) (c4 (f:=392) λS x=>by rw [hK];kernel_rfl)
 rw [hK] at this
 exact this.snd.mono (GW _) (λhd vs hp Q E h=>by rw [show bV ["row"] (1+([]:List Str).length) []=aD ["row"] from aY ["row"]];exact h)
theorem AP {P:Ko} {c:Cx} {D:Nat} {fn:FnT} (hK:c.K=KH P) (ok:c.Ok) (G:PJ c (gam fn) D):bn c (D+2) 397 [] (aq (gam fn) 30 (aF (KH P) 397) (an (KH P) 397) (aD ["node","rows","ahead"])):=by
 have':=aS (np:=3) (ns:=["node","rows","ahead"]) (dv:=[]) (dx:=[]) (n:=30) ok G (by rw [hK];kernel_rfl) (λ_=>trivial) (gU (f:=397) λS x y z=>by rw [hK];kernel_rfl)
 rw [hK] at this
 exact this.snd.mono (GW _) (λhd vs hp Q E h=>by rw [show bV ["node","rows","ahead"] (3+([]:List Str).length) []=aD ["node","rows","ahead"] from aY ["node","rows","ahead"]];exact h)
theorem AQ {P:Ko} {c:Cx} {D:Nat} {fn:FnT} (hK:c.K=KH P) (ok:c.Ok) (G:PJ c (gam fn) D):bn c (D+2) 402 [] (aq (gam fn) 30 (aF (KH P) 402) (an (KH P) 402) (aD ["world"])):=by
 have':=aS (np:=1) (ns:=["world"]) (dv:=[]) (dx:=[]) (n:=30) ok G (by rw [hK];kernel_rfl) (λ_=>trivial) (c4 (f:=402) λS x=>by rw [hK];kernel_rfl)
 rw [hK] at this
 exact this.snd.mono (GW _) (λhd vs hp Q E h=>by rw [show bV ["world"] (1+([]:List Str).length) []=aD ["world"] from aY ["world"]];exact h)
theorem AR (hK:c.K=KH P) (ok:c.Ok) (G:PJ c (gam fn) D):bn c (D+2) 407 [] (aq (gam fn) 30 (aF (KH P) 407) (an (KH P) 407) (aD ["specs","node","strict"])):=by
 have':=aS (np:=3) (ns:=["specs","node","strict"]) (dv:=[]) (dx:=[]) (n:=30) ok G (by rw [hK];kernel_rfl) (λ_=>trivial) (gU (f:=407) λS x y z=>by rw [hK];kernel_rfl)
 rw [hK] at this
 exact this.snd.mono (GW _) (λhd vs hp Q E h=>by rw [show bV ["specs","node","strict"] (3+([]:List Str).length) []=aD ["specs","node","strict"] from aY ["specs","node","strict"]];exact h)
theorem GE (hK:c.K=KH P) (ok:c.Ok) (G:PJ c (gam fn) D):bn c (D+2) 412 [] (aq (gam fn) 30 (aF (KH P) 412) (an (KH P) 412) (aD ["script"])):=by
 have':=aS (np:=1) (ns:=["script"]) (dv:=[]) (dx:=[]) (n:=30) ok G (by rw [hK];kernel_rfl) (λ_=>trivial) (c4 (f:=412) λS x=>by rw [hK];kernel_rfl)
 rw [hK] at this
 exact this.snd.mono (GW _) (λhd vs hp Q E h=>by rw [show bV ["script"] (1+([]:List Str).length) []=aD ["script"] from aY ["script"]];exact h)
theorem y7 (hK:c.K=KH P) (ok:c.Ok) (G:PJ c (gam fn) D):P0 c (D+2) 412 [] (aq (gam fn) 30 (aF (KH P) 412) (an (KH P) 412) (aD ["script"])):=by
 have':=aS (np:=1) (ns:=["script"]) (dv:=[]) (dx:=[]) (n:=30) ok G (by rw [hK];kernel_rfl) (λ_=>trivial) (c4 (f:=412) λS x=>by rw [hK];kernel_rfl)
 rw [hK] at this
 exact this.mono (GW _) (λhd vs hp Q E h=>by rw [show bV ["script"] (1+([]:List Str).length) []=aD ["script"] from aY ["script"]];exact h)
theorem y8 (hK:c.K=KH P) (ok:c.Ok) (G:PJ c (gam fn) D):bn c (D+2) 242 ["strict"] (aq (gam fn) 30 (aF (KH P) 242) (an (KH P) 242) (bV ["C","strict","base_mros","log_changed_ro","use_legacy_ro"] 2 [.none,.none,.none])):=by
 have':=aS (np:=1) (ks:=["strict"]) (ns:=["C","strict","base_mros","log_changed_ro","use_legacy_ro"]) (dv:=[.none,.none,.none]) (dx:=[.none,.none,.none]) (n:=30) ok G (by rw [hK];kernel_rfl) (λ_=>⟨rfl,rfl,rfl,trivial⟩) (Ar (f:=242) (ns:=["base_mros","log_changed_ro","use_legacy_ro"]) (ws:=[.none,.none,.none]) λS x y=>by rw [hK];kernel_rfl)
 rw [hK] at this
 exact this.snd
def AT:List V->Option (List (Str×V))
 |[c,b]=>some [("C",c),("strict",.none),("base_mros",b),("log_changed_ro",.none),("use_legacy_ro",.none)]
 |_=>none
theorem y9 (hK:c.K=KH P) (ok:c.Ok) (G:PJ c (gam fn) D):bn c (D+2) 242 ["base_mros"] (aq (gam fn) 30 (aF (KH P) 242) (an (KH P) 242) AT):=by
 have hb:∀S x y,bindC (KH P) 242 S [x] [("base_mros",y)]=some (some [(("C":Str),x),("strict",.none),("base_mros",y),("log_changed_ro",.none),("use_legacy_ro",.none)]):=λS x y=>!0
 have':=entry (c:=c) (D:=D) (Γ:=gam fn) (f:=242) (n:=30) (ns:=["C","strict","base_mros","log_changed_ro","use_legacy_ro"]) (ks:=["base_mros"]) (bnd:=AT) ok G (by rw [hK];kernel_rfl) (λs ρ vs ps kw bs fd hf X hv hk hbs=>by
  match vs,hbs with
  |[vc,vb],hbs=>
   (replace hbs:=ay hbs;subst hbs)
   obtain ⟨y,rfl⟩:=Jg.mp hk
   obtain ⟨x,rfl⟩:∃x,ps=[x]:=by
    have:=hv.length
    simp at this
    exact Jg.mp (D6 this)
   refine ⟨⟨[(("C":Str),x),("strict",.none),("base_mros",y),("log_changed_ro",.none),("use_legacy_ro",.none)],kp_binds X λS=>?_,?_⟩,?_⟩
   ·have h:=hb S x y
    unfold bindC at h
    rw [<-hK,hf] at h
    exact Hm.inj h
   ·exact ⟨rfl,hv.1,rfl,rfl,rfl,hv.2.1,rfl,rfl,rfl,rfl,trivial⟩
   intro b hbm
   simp only [G0,H8,or_false] at hbm
   rcases hbm with rfl|rfl|rfl|rfl|rfl<;>simp)
 rw [hK] at this
 exact this.snd
theorem AU (hK:c.K=KH P) (ok:c.Ok) (G:PJ c (gam fn) D):bn c (D+2) 279 [] (aq (gam fn) 30 (aF (KH P) 279) (an (KH P) 279) (bV ["self","key","bases","root"] 3 [.none])):=by
 have':=aS (np:=3) (ks:=[]) (ns:=["self","key","bases","root"]) (dv:=[.none]) (dx:=[.none]) (n:=30) ok G (by rw [hK];kernel_rfl) (λ_=>⟨rfl,trivial⟩) (y6 (f:=279) λS x y z=>by rw [hK];kernel_rfl)
 rw [hK] at this
 exact this.snd
section
variable {c:Cx} {A:Kw} {s:Ki}
theorem sr (X:c.K.In s.heap) (lim:s.heap.NoLimit) (h:lO c.K f ns=true) (hdp:A.depth<1000)
  (hb:∀fd,fi c.K f=some fd->∀S,peek c.K S (MR fd ⟨ps,[]⟩)=some binds) (hloc:∀x∈binds,aF c.K f x.1=some .local)
  (k:∀(env:Env) h' tk,env.scope.kind=.function->(∀x,env.kindOf x=aF c.K f x)->env.frame=some env.locals->h'.Ns env.locals (MB (aF c.K f) binds λ_=>none)->(∀b o,s.heap.get? b=some o->h'.get? b=some o)->s.heap.objs.size≤env.locals->
   Kg c.M (A.deeper env) (execs (an c.K f) env) (λfl s'=>R (.ok (.ret (match fl with|.ret v=>v|_=>.none))) s')
    (λe s'=>Kg c.M (A.deeper env) (leaving env e) (λ_ s''=>R (.error e) s'') (λe' s''=>R (.error e') s'') s') {s with heap:=h',toks:=tk}):
  Ly c.M A (.call (.ref f) ⟨ps,[]⟩) R s:=by
 induction hf:fi c.K f with
 |none=>unfold lO at h;rw [hf] at h;exact nFT h
 |some fd=>
  obtain ⟨oc,od,osl,b,hlk,hb1,hb2,h2,h3,h4,h5,h6,h7,h8,h8t,h9,h10⟩:=lQ h hf
  have' hkd:aF c.K f=λx=>fd.scope.names.lookup x:=by unfold aF;rw [hf]
  rw [hb2,hkd] at k
  rw [hkd] at hloc
  refine codeAny_call_function (fd:=fd) hdp (X _ _ hlk) rfl h5 h6 hb1 (codeRec_of X h8) (kp_binds X (hb fd hf) _ _ _ _ ?_)
  rw [h4]
  refine wpAny_newFunctionEnv_cells h7 (λx hx=>.inl (hloc x hx)) λenv he OG Pc=>?_
  obtain ⟨⟨⟨h',tk,rfl⟩,hns,hkeep,hfresh⟩,hcell,hapart,habove⟩:=Pc
  have' hes:env.scope=fd.scope:=by rw [he];rfl
  refine ⟨lim.keeps hkeep,codeAny_func ?_⟩
  have' hkk:∀x,env.kindOf x=fd.scope.names.lookup x:=λx=>by show env.scope.names.lookup x=_;rw [hes]
  have hke:env.kindOf=λx=>fd.scope.names.lookup x:=funext hkk
  rw [hke] at hns
  refine k env h' tk (by rw [hes];exact h7) hkk (by rw [he];rfl) hns hkeep (by rw [he];exact GW _)
theorem fL (hk:env.scope.kind=.function) (hl:env.kindOf n=some .local) (hn:s.heap.Ns env.locals m) (hm:m n=some v) (hd:(n==("__debug__":Str))=false)
  (h:Kg c.M A (getAttr v x true) Q E s):Kg c.M A (eval (.Attribute (.Name n p) x q) env) Q E s:=by
 rw [Nv,bd rfl]
 refine Ke (Np (LJ hk hl hn hm ?_) hd)
 refine Ke (Kq (Ke (Km (Kl h (λz s' hz=>?_) λ_ _ h=>h))))
 exact Ke (Nc (Kf hz))
theorem za
  (h:Kg c.M A (eval e env) (λv s'=>Kg c.M A (Ms v) (λb s''=>if b=true then Q v s'' else Kg c.M A (eval e' env) Q E s'') E s') E s):Kg c.M A (eval (.BoolOp .Or [e,e'] p) env) Q E s:=by
 show Kg c.M A (do
   let v <-eval e env
   Me p
   let t <-holding [v] (Ms v)
   match BoolOp.Or,t with
   |.And,false|.Or,true=>pure v
   |_,_=>boolOp p .Or (evalEach [e'] env)) _ _ s
 refine Ke (Kl h (λv s' h1=>?_) λ_ _ h=>h)
 refine Ke (Kq (Ke (Km (Kl h1 (λb s'' h2=>?_) λ_ _ h=>h))))
 induction b with
 |true=>exact Kf h2
 |false=>exact h2
end
theorem uW (P:Ko):∃p1 p2 p3 p4 p5 p6,an (KH P) 139=[.Return (some (.BoolOp .Or [.Attribute (.Name "self" p1) "direct_inconsistency" p2,.Attribute (.Name "self" p3) "bases_had_inconsistency" p4] p5)) p6]:=⟨_,_,_,_,_,_,rfl⟩
theorem uX (P:Ko):lO (KH P) 139 ["self"]=true:=!0
section
variable {c:Cx} {g:GP} {fr:List Env} {wr:Str->Bool} {env:Env} {ρ:Rho} {st:AS} {s:Ki} {P:Ko}
theorem Inv.frU (ok:c.Ok) (I:Inv c g fr wr env ρ st s) (k:∀a o,s.heap.get? a=some o->a∉c.tabs->h'.get? a=some o):∃m,Fr c.base env.locals h' m:=by
 obtain ⟨m,F⟩:=I.toFr
 obtain ⟨o,es,ep,e,r⟩:=F.ns
 exact ⟨m,⟨⟨o,es,ep,k _ _ e (I.w.tabNo I.e.low),r⟩,λb o e=>k b o (F.keep b o e) (λm=>by rw [ok.tb b m] at e;exact nNS e),F.above⟩⟩
theorem Inv.orU (I:Inv c g fr wr env ρ st s) {h':Heap} (k:∀a o,s.heap.get? a=some o->a∉c.tabs->h'.get? a=some o) {i:Nat} {p:Nat×Nat} {o:O} (hρ:ρ[i]?=some p) (ho:st.hp[i]?=some o) (hr:o.isRo=false):Qy c ρ h' p o:=by
 have l:=I.w.rep.low hρ ho hr
 exact (I.w.rep.obj hρ ho).move (GX _) (λo e=>k _ o e (I.w.tabNo l.1)) λo e=>k _ o e (I.w.tabNo l.2)
theorem su (c:Cx) (s:Ki):iD c s .none false:=λ_ hq=>truthy_none (hq _ (GW _))
theorem sv (c:Cx) (s:Ki) (b:Bool):iD c s (.bool b) b:=λ_ hq=>Mc (hq _ (GW _))
theorem oP (ok:c.Ok) (I:Inv c g fr wr env ρ st s) {i C:Nat} {p:Nat×Nat} (hρ:ρ[i]?=some p) (ho:st.hp[i]?=some (.exc C)):iD c s (.ref p.1) true:=λ{A Q E u} k hq=>by
 obtain ⟨m,F⟩:=I.frU ok k
 obtain ⟨ob,od,vs,J,_,_,kk⟩:=I.orU k hρ ho rfl
 exact truthy_K0 F ok.X J kk.noBool kk.noLen (hq _ (GW _))
theorem uY (hK:c.K=KH P) (ok:c.Ok) (x:Str) (v:V) (b:Bool) {y:Value} (hpu:fT x v st.hp b) (I:Inv c g fr wr env ρ st s) (hv:PF ρ v y) {A:Kw} {u:Ki} {Q:Value->Ki->Prop} {E:Value->Ki->Prop} (hh:A.handled=none) (hd:A.depth+8<1000)
  (k:∀a o,s.heap.get? a=some o->a∉c.tabs->u.heap.get? a=some o)
  (h:∀z h' tk,(∀a o,u.heap.get? a=some o->h'.get? a=some o)->iD c s z b->Q z {u with heap:=h',toks:=tk}):Kg c.M A (getAttr y x true) Q E u:=by
 obtain ⟨rfl,i,C,fs,rfl,hi,hcase⟩:=hpu
 obtain ⟨p,hρ,rfl,r⟩:=PF.get I hv hi
 obtain ⟨m,F⟩:=I.frU ok k
 obtain ⟨es,n,J,hfs,hd',kc⟩:=dq (I.orU k hρ hi rfl)
 have keep0:∀a o,u.heap.get? a=some o->u.heap.get? a=some o:=λ_ _ e=>e
 rcases hcase with ⟨rfl,hno,rfl⟩|⟨hC,hcase⟩
 ·have' hp:y0 (KH P) 86 "had_inconsistency" .none:=fu P (C:=86) (x:=("had_inconsistency":Str)) (a:=AK.val .none) rfl
  rw [<-hK] at hp
  obtain ⟨g1,g2,g3,a,g4,g5,g6,g7,g8⟩:=hp
  rcases dE (x:=("had_inconsistency":Str)) hfs with ⟨e1,e2⟩|⟨v',y',e1,e2,e3⟩
  ·refine get_cls F ok.X J g1 kc.dict g4 g5 g7 g3 e2 ?_
   have:a=.none:=g8 ρ
   subst this
   exact h _ _ _ keep0 (su c s)
  rw [hno] at e1;exact nNS e1
 have' hprop:sq (KH P) C "had_inconsistency" 139:=fu P (C:=C) (x:=("had_inconsistency":Str)) (a:=AK.prop 139) (by rcases hC with rfl|rfl<;>rfl)
 have' hdir:y0 (KH P) C "direct_inconsistency" (.bool false):=fu P (C:=C) (x:=("direct_inconsistency":Str)) (a:=AK.val (.bool false)) (by rcases hC with rfl|rfl<;>rfl)
 have' hbas:nW (KH P) C "bases_had_inconsistency":=fu P (C:=C) (x:=("bases_had_inconsistency":Str)) (a:=AK.field) (by rcases hC with rfl|rfl<;>rfl)
 rw [<-hK] at hprop hdir hbas
 obtain ⟨g1,q,rest,g2,g3,g4,g5⟩:=hprop
 refine get_prop F ok.X J g1 kc.dict g2 g3 g4 g5 ?_
 refine sr (ns:=["self"]) (binds:=[("self",.ref p.1)]) (ok.X.keeps F.keep) (ok.T.keeps F.keep).nolimit (by rw [hK];exact uX P) (by show A.depth<1000;exact D0 hd) ?_ ?_ ?_
 ·have hb1:=c4 (K:=c.K) (f:=139) (a:="self") λS x=>by rw [hK];kernel_rfl
  exact λfd hf S=>hb1 fd [.ref p.1] [] S hf rfl rfl
 ·intro x hx
  rw [GY.mp hx,hK]
  kernel_rfl
 intro env' h' tk hk1 hk2 hk3 hns hkeep hlow
 obtain ⟨p1,p2,p3,p4,p5,p6,hbody⟩:=uW P
 rw [hK,hbody]
 have' hkl:aF c.K 139 "self"=some .local:=by rw [hK];kernel_rfl
 have' hm:MB (aF c.K 139) [("self",.ref p.1)] (λ_=>none) "self"=some (.ref p.1):=by
  unfold MB;rw [RA hkl];unfold MB;exact RA rfl
 have' k':∀a o,s.heap.get? a=some o->a∉c.tabs->h'.get? a=some o:=λa o e hb=>hkeep a o (k a o e hb)
 obtain ⟨m',F'⟩:=I.frU ok k'
 obtain ⟨es,n,J,hfs,hd',kc⟩:=dq (I.orU k' hρ hi rfl)
 have' fin:∀(z:Value) (tk:Nat),Os z=true->iD c s z b->Kg c.M A (handedOut z) Q E {u with heap:=h',toks:=tk}:=λz tk hz ht=>by
  rw [handedOut_of hz]
  exact Kf (h z h' tk hkeep ht)
 refine NK (wpAny_Return_some (za (fL hk1 ((hk2 _).trans hkl) hns hm (!3) (sD λQ1 E1 hQ1 hE1=>?_))))
 rcases hcase with ⟨hno,hbh⟩|⟨j,E',hdi,hj,rfl⟩
 ·obtain ⟨g1,g2,g3,a,g4,g5,g6,g7,g8⟩:=hdir
  rcases dE (x:=("direct_inconsistency":Str)) hfs with ⟨e1,e2⟩|⟨v',y',e1,e2,e3⟩
  ·have:a=.bool false:=g8 ρ
   subst this
   refine get_cls F' ok.X J g1 kc.dict g4 g5 g7 g3 e2 (hQ1 _ _ (Mc ?_))
   rw [Rz !3]
   refine fL hk1 ((hk2 _).trans hkl) hns hm (!3) (sD λQ2 E2 hQ2 hE2=>?_)
   obtain ⟨g1,g2,g3⟩:=hbas
   rcases dE (x:=("bases_had_inconsistency":Str)) hfs with ⟨e1',_⟩|⟨v',y',e1',e2',e3'⟩
   ·rw [e1'] at hbh;exact nNS hbh
   rw [e1'] at hbh;(replace hbh:=ay hbh;subst hbh)
   have hy:y'=.bool b:=e3'
   subst hy
   exact Oi F' ok.X J g1 kc.dict g2 rfl e2' rfl (hQ2 _ _ (fin _ _ rfl (sv c s b)))
  rw [hno] at e1;exact nNS e1
 obtain ⟨g1,g2,g3,a,g4,g5,g6,g7,g8⟩:=hdir
 rcases dE (x:=("direct_inconsistency":Str)) hfs with ⟨e1,e2⟩|⟨v',y',e1,e2,e3⟩
 ·rw [hdi] at e1;exact nSN e1
 rw [hdi] at e1;(replace e1:=ay e1;subst e1)
 obtain ⟨pj,hpj,rfl⟩:=e3
 refine Oi F' ok.X J g1 kc.dict g4 g6 e2 rfl (hQ1 _ _ ?_)
 refine oP ok I hpj hj k' λt ht=>?_
 rw [RA rfl]
 exact fin _ _ rfl (oP ok I hpj hj)
end
abbrev AV:=List (Nat×List Str×FT)
def bk (t:AV):FnT:=λf ks=>(t.find? λe=>e.1==f&&e.2.1==ks).map (·.2.2)
def Snd (c:Cx) (D:Nat) (t:AV):Prop:=∀e∈t,bn c D e.1 e.2.1 e.2.2∧LC c.K (.ref e.1)=true
theorem Snd.get (h:Snd c D t) (e:bk t f ks=some F):bn c D f ks F∧LC c.K (.ref f)=true:=by
 unfold bk at e
 induction h1:t.find? λe=>e.1==f&&e.2.1==ks with
 |none=>rw [h1] at e;exact nNS e
 |some x=>
  rw [h1] at e;(replace e:=ay e;subst e)
  have h2:=Jb h1
  simp only [Hs,beq_iff_eq] at h2
  obtain ⟨h3,h4⟩:=h2
  have:=h x (Ik h1)
  rw [<-h3,<-h4];exact this
theorem Snd.up (h:Snd c D t) (l:D≤D'):Snd c D' t:=λe he=>⟨(h e he).1.mono l λ_ _ _ _ _ z=>z,(h e he).2⟩
theorem Snd.nil:Snd c D []:=λ_ h=>nomatch h
theorem Snd.cons (h:bn c D f ks F) (k:LC c.K (.ref f)=true) (h':Snd c D t):Snd c D ((f,ks,F)::t):=λe he=>by
 rcases G0.mp he with rfl|he
 ·exact ⟨h,k⟩
 exact h' e he
section
variable {P:Ko} {c:Cx} {D:Nat}
def aK (c:Cx):Prop:=∀(fn:FnT) (D:Nat) C vs,(gam fn).exc C=true->∀{g fr wr env A hd e ρ st s xs},PU c g fr hd D e A->10≤e->Inv c g fr wr env ρ st s->PH ρ vs xs->(gam fn).excOk C vs st.hp->∀{Q:Value->Ki->Prop} {E:Value->Ki->Prop},
  (∀x ox od fs h' tk,(∀b o,s.heap.get? b=some o->h'.get? b=some o)->s.heap.objs.size≤x->Lj h' x ox C od->ox.data=.fields fs->fs[1]?=some .none->fs[2]?=some .none->
   (∀d,ox.dict=some d->s.heap.objs.size≤d∧∃o,h'.get? d=some o)->Q (.ref x) {s with heap:=h',toks:=tk})->Kg c.M A (call (.ref C) xs) Q E s
theorem kX (hK:c.K=KH P) (h1:KS (KH P) (.ref C) "__bool__"=some none) (h2:KS (KH P) (.ref C) "__len__"=some none) (h3:hasDictIn (KH P) C=true) (h4:KS (KH P) (.ref C) "__setattr__"=some (some (.builtin "object.__setattr__"))) (h5:plainOver (KH P) C=true) (h6:KS (KH P) (.ref C) "__eq__"=some (some (.builtin "object.__eq__"))) (h7:Oq (KH P) C (.type "object")=some true):Q9 c C:=
 ⟨by rw [hK];exact h1,by rw [hK];exact h2,by rw [hK];exact h3,by rw [hK];exact h4,by rw [hK];exact h5,by rw [hK];exact h6,by rw [hK];exact h7⟩
theorem sw (hK:c.K=KH P):∀C f,(gam (λ_ _=>none)).init C=some f->makesIn c.K C=true∧KS c.K (.ref C) "__init__"=some (some (.ref f))∧isFn c.K (.ref f)=true∧LC c.K (.ref C)=true∧Q9 c C:=by
 intro C f h
 replace h:(if C=336 then some 279 else if C=204 then some 125 else if C=232 then some 125 else if C=86 then some 76 else none)=some f:=h
 rw [hK]
 by_cases h1:C=336
 ·subst h1;rw [RA rfl] at h;(replace h:=ay h;subst h)
  exact ⟨!0,!0,!0,!0,kX hK (!0) (!0) (!0) (!0) (!0) (!0) !0⟩
 by_cases h2:C=204
 ·subst h2;rw [Rz h1,RA rfl] at h;(replace h:=ay h;subst h)
  exact ⟨!0,!0,!0,!0,kX hK (!0) (!0) (!0) (!0) (!0) (!0) !0⟩
 by_cases h3:C=232
 ·subst h3;rw [Rz h1,Rz h2,RA rfl] at h;(replace h:=ay h;subst h)
  exact ⟨!0,!0,!0,!0,kX hK (!0) (!0) (!0) (!0) (!0) (!0) !0⟩
 by_cases h4:C=86
 ·subst h4;rw [Rz h1,Rz h2,Rz h3,RA rfl] at h;(replace h:=ay h;subst h)
  exact ⟨!0,!0,!0,!0,kX hK (!0) (!0) (!0) (!0) (!0) (!0) !0⟩
 rw [Rz h1,Rz h2,Rz h3,Rz h4] at h;exact nNS h
theorem kY (h:(C==59||C==100)=true):C=59∨C=100:=by simpa using h
theorem aT (hK:c.K=KH P) (hx:aK c) (h:Snd c D t):PJ c (gam (bk t)) D where
 glob:=λx v hx=>by
  have:=sk P _ (eL hx)
  rw [hK]
  refine ⟨this.1,this.2.imp id λz=>⟨z.1,z.2.1,λe=>?_⟩⟩
  have z3:=z.2.2
  dsimp only at z3
  rw [e] at z3
  exact absurd z3 (by decide+kernel)
 fn:=λf ks F e=>h.get e
 init:=sw hK
 akField:=λC x e=>by rw [hK];exact fu P e
 akVal:=λC x v e=>by rw [hK];exact fu P e
 akFn:=λC x f e=>by rw [hK];exact fu P e
 akProp:=λC x f e=>by rw [hK];exact fu P e
 akStat:=λC x f e=>by rw [hK];exact fu P e
 excCls:=λC e=>by
  rcases kY e with rfl|rfl
  ·exact ⟨⟨by rw [hK];kernel_rfl,by rw [hK];kernel_rfl⟩,by rw [hK];kernel_rfl⟩
  exact ⟨⟨by rw [hK];kernel_rfl,by rw [hK];kernel_rfl⟩,by rw [hK];kernel_rfl⟩
 subSelf:=λC _=>by show (C==C)=true;simp
 subOk:=λC' C e1 e2=>by
  rw [hK]
  rcases kY e1 with rfl|rfl<;>rcases kY e2 with rfl|rfl
  ·kernel_rfl
  ·kernel_rfl
  ·kernel_rfl
  kernel_rfl
 isaOk:=λC tv b e=>by
  replace e:(if C=336∧tv=.ref 364 then some false else none)=some b:=e
  split at e
  ·rename_i z
   obtain ⟨rfl,rfl⟩:=z
   (replace e:=ay e;subst e)
   rw [hK]
   exact ⟨!0,!0,!0,!0,!0,!0⟩
  exact nNS e
 cmOk:=λC x m e=>by
  replace e:(if C=204∧x="resolver" then some 117 else none)=some m:=e
  split at e
  ·rename_i z
   obtain ⟨rfl,rfl⟩:=z
   (replace e:=ay e;subst e)
   rw [hK]
   obtain ⟨rest,hr⟩:=nY (o:=Ob (KH P) 119 "staticmethod") (v:=.ref 117) !0
   exact ⟨!0,.type "type",119,rest,!0,!0,.inl ⟨!0,hr⟩⟩
  exact nNS e
 excNew:=λC vs h=>hx (bk t) D C vs h
 pureOk:=λok x v b {_ _ _ _ _ _ _ _} hpu I hv {_ _ _ _} hh hd _ k h=>uY hK ok x v b hpu I hv hh hd k h
end
section
variable {P:Ko} {c:Cx} {D:Nat}
theorem Ga (hK:c.K=KH P) (ok:c.Ok) (hx:aK c) (h:Snd c D t):bn c (D+2) 373 [] Rj:=
 (AL hK ok (aT hK hx h)).mono (GW _) λhd vs hp Q E z=>yO z
theorem Gb (hK:c.K=KH P) (ok:c.Ok) (hx:aK c) (h:Snd c D t):bn c (D+2) 378 [] QP:=
 (AM hK ok (aT hK hx h)).mono (GW _) λhd vs hp Q E z=>rL z
theorem Gc (hK:c.K=KH P) (ok:c.Ok) (hx:aK c) (h:Snd c D t):bn c (D+2) 392 [] Q0:=
 (AO hK ok (aT hK hx h)).mono (GW _) λhd vs hp Q E z=>uF z
theorem Gd (hK:c.K=KH P) (ok:c.Ok) (hx:aK c) (h:Snd c D t):bn c (D+2) 397 [] QB:=
 (AP hK ok (aT hK hx h)).mono (GW _) λhd vs hp Q E z=>pM z
theorem Ge (hK:c.K=KH P) (ok:c.Ok) (hx:aK c) (h:Snd c D t):bn c (D+2) 155 [] Re:=
 (Aw hK ok (aT hK hx h)).mono (GW _) λhd vs hp Q E z=>yQ z
theorem Gf (hK:c.K=KH P) (ok:c.Ok) (hx:aK c) (h:Snd c D t):bn c (D+2) 163 [] Qk:=
 (Ax hK ok (aT hK hx h)).mono (GW _) λhd vs hp Q E z=>ml z
theorem Gg (hK:c.K=KH P) (ok:c.Ok) (hx:aK c) (h:Snd c D t):bn c (D+2) 229 [] QF:=
 (AE hK ok (aT hK hx h)).mono (GW _) λhd vs hp Q E z=>pP z
theorem Gh (hK:c.K=KH P) (ok:c.Ok) (hx:aK c) (h:Snd c D t) (h59:bk t 59 []=none):bn c (D+2) 187 [] QU:=
 (AA hK ok (aT hK hx h)).mono (GW _) λhd vs hp Q E z=>rQ h59 z
theorem q35 (hK:c.K=KH P) (ok:c.Ok) (hx:aK c) (h:Snd c D t):bn c (D+2) 35 [] Q3:=
 (F6 hK ok (aT hK hx h)).mono (GW _) λhd vs hp Q E z=>uL z
theorem q28 (hK:c.K=KH P) (ok:c.Ok) (hx:aK c) (h:Snd c D t):bn c (D+2) 28 [] Qi:=
 (F5 hK ok (aT hK hx h)).mono (GW _) λhd vs hp Q E z=>mq z
theorem q83 (hK:c.K=KH P) (ok:c.Ok) (hx:aK c) (h:Snd c D t):bn c (D+2) 83 [] QH:=
 (F9 hK ok (aT hK hx h)).mono (GW _) λhd vs hp Q E z=>uQ z
theorem q76 (hK:c.K=KH P) (ok:c.Ok) (hx:aK c) (h:Snd c D t):bn c (D+2) 76 [] QA:=
 (F8 hK ok (aT hK hx h)).mono (GW _) λhd vs hp Q E z=>pS z
theorem Gi (hK:c.K=KH P) (ok:c.Ok) (hx:aK c) (h:Snd c D t):bn c (D+2) 286 [] Rk:=
 (AF hK ok (aT hK hx h)).mono (GW _) λhd vs hp Q E z=>yW z
theorem q42 (hK:c.K=KH P) (ok:c.Ok) (hx:aK c) (h:Snd c D t) (h35:bk t 35 []=some Q3) (h28:bk t 28 []=some Qi):bn c (D+2) 42 [] QR:=
 (F7 hK ok (aT hK hx h)).mono (GW _) λhd vs hp Q E z=>rS h35 h28 z
theorem Gj (hK:c.K=KH P) (ok:c.Ok) (hx:aK c) (h:Snd c D t) (h155:bk t 155 []=some Re):bn c (D+2) 180 [] QY:=
 (Az hK ok (aT hK hx h)).mono (GW _) λhd vs hp Q E z=>uK h155 z
theorem Gk (hK:c.K=KH P) (ok:c.Ok) (hx:aK c) (h:Snd c D t) (h286:bk t 286 []=some Rk):bn c (D+2) 294 [] Ri:=
 (AG hK ok (aT hK hx h)).mono (GW _) λhd vs hp Q E z=>yX h286 z
theorem Gl (hK:c.K=KH P) (ok:c.Ok) (hx:aK c) (h:Snd c D t) (h42:bk t 42 []=some QR):bn c (D+2) 147 [] QC:=
 (Av hK ok (aT hK hx h)).mono (GW _) λhd vs hp Q E z=>pR h42 z
theorem Gm (hK:c.K=KH P) (ok:c.Ok) (hx:aK c) (h:Snd c D t) (h180:bk t 180 []=some QY) (h187:bk t 187 []=some QU) (h229:bk t 229 []=some QF):bn c (D+2) 173 [] QE:=
 (Ay hK ok (aT hK hx h)).mono (GW _) λhd vs hp Q E z=>pQ h180 h187 h229 z
theorem Gn (hK:c.K=KH P) (ok:c.Ok) (hx:aK c) (h:Snd c D t) (h163:bk t 163 []=some Qk) (h173:bk t 173 []=some QE) (h147:bk t 147 []=some QC):bn c (D+2) 194 [] QM:=
 (AB hK ok (aT hK hx h)).mono (GW _) λhd vs hp Q E z=>rW h163 h173 h147 z
theorem Go (hK:c.K=KH P) (ok:c.Ok) (hx:aK c) (h:Snd c D t) (h194:bk t 194 []=some QM):bn c (D+2) 201 [] QG:=
 (AC hK ok (aT hK hx h)).mono (GW _) λhd vs hp Q E z=>yT h194 z
theorem Gp (hK:c.K=KH P) (ok:c.Ok) (hx:aK c) (h:Snd c D t) (h313c:bk t 313 []=some QZ):bn c (D+2) 318 [] Qp:=
 (AJ hK ok (aT hK hx h)).mono (GW _) λhd vs hp Q E z=>nU h313c z
theorem Gq (hK:c.K=KH P) (ok:c.Ok) (hx:aK c) (h:Snd c D t) (h294:bk t 294 []=some Ri) (h318:bk t 318 []=some Qp):bn c (D+2) 308 [] Q1:=
 (AH hK ok (aT hK hx h)).mono (GW _) λhd vs hp Q E z=>uT h294 h318 z
theorem Gr (hK:c.K=KH P) (ok:c.Ok) (hx:aK c) (h:Snd c D t) (h373:bk t 373 []=some Rj) (h378:bk t 378 []=some QP) (h385w:bk t 385 []=some (Qt 7)) (h392:bk t 392 []=some Q0) (h397:bk t 397 []=some QB):bn c (D+2) 402 [] QD:=
 (AQ hK ok (aT hK hx h)).mono (GW _) λhd vs hp Q E z=>pO h373 h378 h385w h392 h397 z
theorem Gs (hK:c.K=KH P) (ok:c.Ok) (hx:aK c) (h:Snd c D t) (hw:bk t 385 []=some (Qt n)):bn c (D+2) 385 [] (Qt (n+1)):=
 (AN hK ok (aT hK hx h)).mono (GW _) λhd vs hp Q E z=>uG hw z
theorem AW:bn c D 385 [] (Qt 0):=λg fr A hd ρ hp s vs ps kw Q E I S hfr hv hk q=>by
 obtain ⟨_,w,ps',k,r,_,_,_,_,hk0,_⟩:=q
 exact absurd hk0 (Io _)
theorem AX (hK:c.K=KH P) (ok:c.Ok) (hx:aK c):∀n,bn c (2*n) 385 [] (Qt n):=by
 intro n
 induction n with
 |zero=>exact AW
 |succ n ih=>exact Gs hK ok hx (t:=[(385,[],Qt n)]) (Snd.cons ih (by rw [hK];kernel_rfl) Snd.nil) rfl
theorem AY (hK:c.K=KH P) (ok:c.Ok) (hx:aK c) (h:Snd c D t) (h1:bk t 83 []=some QH) (h2:bk t 201 []=some QG) (h3:∀n',n=n'+1->bk t 132 []=some (Qr 204 n')) (h4:∀n',n=n'+1->bk t 222 []=some (Qr 232 n')):bn c (D+2) 125 [] (Qq n):=
 (At hK ok (aT hK hx h)).mono (GW _) λhd vs hp Q E z=>uR h1 h2 h3 h4 z
theorem Gu (hK:c.K=KH P) (ok:c.Ok) (hx:aK c) (h:Snd c D t) (n0:bk t 204 []=none) (h1:bk t 125 []=some (Qq n)):bn c (D+2) 132 [] (Qr 204 n):=
 (Au hK ok (aT hK hx h)).mono (GW _) λhd vs hp Q E z=>rX n0 h1 z
theorem Gv (hK:c.K=KH P) (ok:c.Ok) (hx:aK c) (h:Snd c D t) (n0:bk t 232 []=none) (h1:bk t 125 []=some (Qq n)):bn c (D+2) 222 [] (Qr 232 n):=
 (AD hK ok (aT hK hx h)).mono (GW _) λhd vs hp Q E z=>rY n0 h1 z
theorem AZ (hK:c.K=KH P) (ok:c.Ok) (hx:aK c) (h1:bn c D 83 [] QH) (h2:bn c D 201 [] QG):∀n,bn c (D+2+4*n) 125 [] (Qq n):=by
 have' k83:LC c.K (.ref 83)=true:=by rw [hK];kernel_rfl
 have' k201:LC c.K (.ref 201)=true:=by rw [hK];kernel_rfl
 have' k125:LC c.K (.ref 125)=true:=by rw [hK];kernel_rfl
 have k132:LC c.K (.ref 132)=true:=by rw [hK];kernel_rfl
 have k222:LC c.K (.ref 222)=true:=by rw [hK];kernel_rfl
 intro n
 induction n with
 |zero=>exact AY hK ok hx (t:=[(83,[],QH),(201,[],QG)]) (Snd.cons h1 k83 (Snd.cons h2 k201 Snd.nil)) rfl rfl (λ_ e=>nomatch e) (λ_ e=>nomatch e)
 |succ n ih=>
  have s1:=Gu hK ok hx (t:=[(125,[],Qq n)]) (Snd.cons ih k125 Snd.nil) rfl rfl
  have s2:=Gv hK ok hx (t:=[(125,[],Qq n)]) (Snd.cons ih k125 Snd.nil) rfl rfl
  have:=AY hK ok hx (n:=n+1) (t:=[(132,[],Qr 204 n),(222,[],Qr 232 n),(83,[],QH),(201,[],QG)]) (D:=D+2+4*n+2) (Snd.cons s1 k132 (Snd.cons s2 k222 ((Snd.cons h1 k83 (Snd.cons h2 k201 Snd.nil)).up (Dp)))) rfl rfl (λn' e=>by cases e;rfl) (λn' e=>by cases e;rfl)
  exact this
theorem bn.some {f:Nat} {ks:List Str} {F:Nat->FT} {N:Nat} (h:∀n≤N,bn c D f ks (F n)):bn c D f ks (λhd vs hp Q E=>∃n,n≤N∧F n hd vs hp Q E):=
 λg fr A hd ρ hp s vs ps kw Q E I S hfr hv hk q=>let ⟨n,hn,q⟩:=q;h n hn g fr A hd ρ hp s vs ps kw Q E I S hfr hv hk q
theorem A0 (hK:c.K=KH P) (ok:c.Ok) (hx:aK c) (h1:bn c D 83 [] QH) (h2:bn c D 201 [] QG):bn c (D+26) 125 [] mx:=
 bn.some λn hn=>(AZ hK ok hx h1 h2 n).mono (Di hn) λ_ _ _ _ _ z=>z
theorem Gw (hK:c.K=KH P) (ok:c.Ok) (hx:aK c) (h:Snd c D t) (n1:bk t 204 []=none) (n2:bk t 232 []=none) (n3:bk t 86 []=none) (h1:bk t 125 []=some mx) (h2:bk t 76 []=some QA):bn c (D+2) 117 [] dc:=
 (As hK ok (aT hK hx h)).mono (GW _) λhd vs hp Q E z=>z.elim (λz=>mA n1 n2 h1 z) λz=>kS n1 n3 h1 h2 z
theorem A1 (hK:c.K=KH P) (ok:c.Ok) (hx:aK c) (h:Snd c D t) (h1:bk t 117 []=some dc) (h2:bk t 201 []=some QG):bn c (D+2) 242 ["strict"] Rf:=
 (y8 hK ok (aT hK hx h)).mono (GW _) λhd vs hp Q E z=>by
  obtain ⟨x,s,rfl,z⟩:=yU h1 h2 z
  exact ⟨by show ([("C":Str),"strict","base_mros","log_changed_ro","use_legacy_ro"]:List Str).Nodup;decide+kernel,z⟩
theorem A2 (hK:c.K=KH P) (ok:c.Ok) (hx:aK c) (h:Snd c D t) (h1:bk t 117 []=some dc) (h2:bk t 201 []=some QG):bn c (D+2) 242 ["base_mros"] Rh:=
 (y9 hK ok (aT hK hx h)).mono (GW _) λhd vs hp Q E z=>by
  obtain ⟨x,s,rfl,z⟩:=yV h1 h2 z
  exact ⟨by show ([("C":Str),"strict","base_mros","log_changed_ro","use_legacy_ro"]:List Str).Nodup;decide+kernel,z⟩
theorem Gx (hK:c.K=KH P) (ok:c.Ok) (hx:aK c) (h:Snd c D t) (h1:bk t 242 ["base_mros"]=some Rh):bn c (D+2) 313 [] QZ:=
 (AI hK ok (aT hK hx h)).mono (GW _) λhd vs hp Q E z=>uS h1 z
theorem Gy (hK:c.K=KH P) (ok:c.Ok) (hx:aK c) (h:Snd c D t) (h1:bk t 242 ["strict"]=some Rf):bn c (D+2) 407 [] Q2:=
 (AR hK ok (aT hK hx h)).mono (GW _) λhd vs hp Q E z=>uU h1 z
theorem Gz (hK:c.K=KH P) (ok:c.Ok) (hx:aK c) (h:Snd c D t) (h1:bk t 308 []=some Q1):bn c (D+2) 279 [] QN:=
 (AU hK ok (aT hK hx h)).mono (GW _) λhd vs hp Q E z=>by
  obtain ⟨x,s,b,rfl,z⟩:=sf h1 z
  exact ⟨by show ([("self":Str),"key","bases","root"]:List Str).Nodup;decide+kernel,z⟩
theorem A3 (hK:c.K=KH P) (ok:c.Ok) (hx:aK c) (h:Snd c D t) (h336:bk t 336 []=none) (h279s:bk t 279 []=some QN) (h402:bk t 402 []=some QD) (h407t:bk t 407 []=some Q2):P0 c (D+2) 412 [] Rq:=
 (y7 hK ok (aT hK hx h)).mono (GW _) λhd vs hp Q E z=>yZ h336 h279s h402 h407t z
theorem pV (hK:c.K=KH P) (ok:c.Ok) (hx:aK c):P0 c 52 412 [] Rq:=by
 have kp:∀{f:Nat},LC (KH P) (.ref f)=true->LC c.K (.ref f)=true:=λh=>by rw [hK];exact h
 have s0:Snd c 0 []:=Snd.nil
 have r155:=Ge hK ok hx s0
 have r163:=Gf hK ok hx s0
 have r229:=Gg hK ok hx s0
 have r187:=Gh hK ok hx s0 rfl
 have r35:=q35 hK ok hx s0
 have r28:=q28 hK ok hx s0
 have r83:=q83 hK ok hx s0
 have r76:=q76 hK ok hx s0
 have r286:=Gi hK ok hx s0
 have r373:=Ga hK ok hx s0
 have r378:=Gb hK ok hx s0
 have r392:=Gc hK ok hx s0
 have r397:=Gd hK ok hx s0
 have r385:=AX hK ok hx 7
 have r42:=q42 hK ok hx (t:=[(35,[],Q3),(28,[],Qi)]) (Snd.cons r35 (kp !0) (Snd.cons r28 (kp !0) Snd.nil)) rfl rfl
 have r180:=Gj hK ok hx (t:=[(155,[],Re)]) (Snd.cons r155 (kp !0) Snd.nil) rfl
 have r294:=Gk hK ok hx (t:=[(286,[],Rk)]) (Snd.cons r286 (kp !0) Snd.nil) rfl
 have r147:=Gl hK ok hx (t:=[(42,[],QR)]) (Snd.cons r42 (kp !0) Snd.nil) rfl
 have r173:=Gm hK ok hx (D:=4) (t:=[(180,[],QY),(187,[],QU),(229,[],QF)]) (Snd.cons r180 (kp !0) ((Snd.cons r187 (kp !0) (Snd.cons r229 (kp !0) Snd.nil)).up !3)) rfl rfl rfl
 have r194:=Gn hK ok hx (D:=6) (t:=[(163,[],Qk),(173,[],QE),(147,[],QC)]) (Snd.cons (r163.mono (!3) λ_ _ _ _ _ z=>z) (kp !0) (Snd.cons r173 (kp !0) (Snd.cons r147 (kp !0) Snd.nil))) rfl rfl rfl
 have' r201:=Go hK ok hx (t:=[(194,[],QM)]) (Snd.cons r194 (kp !0) Snd.nil) rfl
 have r125:=A0 hK ok hx (r83.mono (D':=10) (!3) λ_ _ _ _ _ z=>z) r201
 have' r201':=r201.mono (D':=36) (!3) λ_ _ _ _ _ z=>z
 have r117:=Gw hK ok hx (D:=36) (t:=[(125,[],mx),(76,[],QA)]) (Snd.cons r125 (kp !0) (Snd.cons (r76.mono (!3) λ_ _ _ _ _ z=>z) (kp !0) Snd.nil)) rfl rfl rfl rfl rfl
 have' t117:Snd c 38 [(117,[],dc),(201,[],QG)]:=Snd.cons r117 (kp !0) (Snd.cons (r201.mono (!3) λ_ _ _ _ _ z=>z) (kp !0) Snd.nil)
 have r242s:=A1 hK ok hx t117 rfl rfl
 have r242b:=A2 hK ok hx t117 rfl rfl
 have k242:=kp (f:=242) !0
 have r313:=Gx hK ok hx (t:=[(242,["base_mros"],Rh)]) (Snd.cons r242b k242 Snd.nil) (by unfold bk;kernel_rfl)
 have r407:=Gy hK ok hx (t:=[(242,["strict"],Rf)]) (Snd.cons r242s k242 Snd.nil) (by unfold bk;kernel_rfl)
 have r318:=Gp hK ok hx (t:=[(313,[],QZ)]) (Snd.cons r313 (kp !0) Snd.nil) rfl
 have r308:=Gq hK ok hx (D:=44) (t:=[(294,[],Ri),(318,[],Qp)]) (Snd.cons (r294.mono (!3) λ_ _ _ _ _ z=>z) (kp !0) (Snd.cons r318 (kp !0) Snd.nil)) rfl rfl
 have r279:=Gz hK ok hx (t:=[(308,[],Q1)]) (Snd.cons r308 (kp !0) Snd.nil) rfl
 have r402:=Gr hK ok hx (D:=14) (t:=[(373,[],Rj),(378,[],QP),(385,[],Qt 7),(392,[],Q0),(397,[],QB)])
  (Snd.cons (r373.mono (!3) λ_ _ _ _ _ z=>z) (kp !0) (Snd.cons (r378.mono (!3) λ_ _ _ _ _ z=>z) (kp !0) (Snd.cons (r385.mono (!3) λ_ _ _ _ _ z=>z) (kp !0) (Snd.cons (r392.mono (!3) λ_ _ _ _ _ z=>z) (kp !0) (Snd.cons (r397.mono (!3) λ_ _ _ _ _ z=>z) (kp !0) Snd.nil))))) rfl rfl rfl rfl rfl
 have:=A3 hK ok hx (D:=50) (t:=[(279,[],QN),(402,[],QD),(407,[],Q2)]) (Snd.cons (r279.mono (!3) λ_ _ _ _ _ z=>z) (kp !0) (Snd.cons (r402.mono (!3) λ_ _ _ _ _ z=>z) (kp !0) (Snd.cons (r407.mono (!3) λ_ _ _ _ _ z=>z) (kp !0) Snd.nil))) rfl rfl rfl rfl
 exact this
end
section
variable {prog:Lb} {w:Lw} {A:Kw} {E:Value->Ki->Prop} {s:Ki} {K:Frag} {x C dx:Addr}
theorem sx (hdx:s.heap.get? dx=some (dictOf es n))
  (hl:(getL name es).isSome=true) (hz:(putL name (KY w.params name) (.str name s.toks) v es).length≤1000)
  (h:∀h' n',KF dx s.heap h'->h'.get? dx=some (dictOf (putL name (KY w.params name) (.str name s.toks) v es) n')->Q (.done (.ret .none)) {s with heap:=h',toks:=s.toks+1}):
  Kg (Ku prog w) A (Builtin.ObjectAttr.storeInDict dx (.str name tk) name v) Q E s:=by
 refine Ke (Kf (Ke ?_))
 unfold nsSet
 refine Ke (Ke (Lq (Kf (Ke (wpAny_mkText (Ke (Md hdx ?_)))))))
 have cnd:Mu name es.toArray=false:=by
  rw [aRefKeyMayBeTheName_at,<-IS,<-IS]
  show (!es.any (·.key.isStr name)&&es.any (·.refKey))=false
  unfold getL at hl
  split at hl
  ·rename_i en he
   rw [IR.mpr ⟨en,Ik he,Jb he⟩];rfl
  split at hl
  ·exact nFT hl
  rename_i q;rw [JO] at q;rw [q,Bool.and_false]
 show Kg _ _ (if Mu name es.toArray=true then _ else _) _ _ _
 rw [Rz (by rw [cnd];exact HG)]
 refine wpAny_updatePart hdx ?_
 have' e:Ny name (KY w.params name) (.str name s.toks) v (dictOf es n)=_:=putName_dict name (KY w.params name) (.str name s.toks) v es n
 have' g:=Kn (Ny name (KY w.params name) (.str name s.toks) v) hdx (by rw [e];rfl)
 rw [e] at g
 refine Ke (wpAny_lookBehind g (pastItsLine_dict (by rw [Iv,MJ];exact w78 hz)) ?_)
 exact Kf (h _ _ (Ks ..) g)
theorem mE (X:K.In s.heap) (I:Lj s.heap x ox C od) (hc:clsIn K C=some cd) (ne:cd.mro.isEmpty=false)
  (hm:cd.mro.contains (.type "object")=true) (hpass:∀self,Nr self "__setattr__" cd.mro=pure ()) (ht:KS K (.ref C) name=some none)
  (h:Kg (Ku prog w) A.in1 (Builtin.ObjectAttr.storeInOwnDict (.ref x) (.ref C) (.str name tk) name v false)
   (λfin s'=>match fin with|.done f=>R (.ok f) s'|.again c'=>c'.quiet=true∧Ly (Ku prog w) A c' R s') (λe s'=>R (.error e) s') s):
  Ly (Ku prog w) A (.call (.builtin "object.__setattr__") ⟨[.ref x,.str name tk,v],[]⟩) R s:=by
 have SF:=PySem.F.store_object
 have sub:MM (Ku prog w) s.heap (Nt (.ref x) (.type "object")) true:=I.type.andThen (looks_mroIn X (by unfold Oq;rw [hc,Option.bind_some,Rz (by rw [ne];decide),hm]))
 refine LP SF.slot.plain SF.entry (@check_slot (Ku prog w) _ _ s "object.__setattr__" "object" "__setattr__" (.ref x) [.str name tk,v] [] _ SF.kind SF.split sub (SF.args (.ref x) (.str name tk) v) ?_)
 have hmr:MM (Ku prog w) s.heap (mroOf (.ref C)) cd.mro:=(NO X hc).andThen .now
 rw [osa_eq,refuse_eq]
 refine Ke (Ke (I.type.here (Ke (hmr.here ?_))))
 rw [hpass]
 refine Kf (Ke (I.type.here (Ke ((Oh X ht).here (Ke (Kf ?_))))))
 exact h
theorem mF (X:K.In s.heap) (hx:s.heap.get? x=some ox) (h1:ox.cls=.ref C) (h2:ox.dict=none) (h3:ox.data=.fields vs) (hc:clsIn K C=some cd) (hdt:cd.hasDict=true) (ne:cd.mro.isEmpty=false)
  (hm:cd.mro.contains (.type "object")=true) (hpass:∀self,Nr self "__setattr__" cd.mro=pure ()) (ht:KS K (.ref C) name=some none) (hs:KS K (.ref C) "__setattr__"=some (some (.builtin "object.__setattr__")))
  (h:∀h' hs kt n tk,h'.get? x=some {ox with dict:=some s.heap.objs.size}->h'.get? s.heap.objs.size=some (dictOf [⟨hs,.str name kt,v⟩] n)->(∀b o,b≠x->s.heap.get? b=some o->h'.get? b=some o)->Q () {s with heap:=h',toks:=tk}):
  Kg (Ku prog w) A (NT (.ref x) name v) Q E s:=by
 have' I:Lj s.heap x ox C none:=⟨hx,h1,by unfold notCls;rw [h3],by rw [h2];trivial⟩
 refine set_plain X I hs (mE (s:={s with toks:=s.toks+1}) X I hc ne hm hpass ht ?_)
 refine Ke (Kf (Ke (Ke (Md hx ?_))))
 obtain ⟨oc,odi,oda,osl⟩:=ox
 dsimp only at h1 h2 h3
 subst h1 h2 h3
 refine Ke (N8 (s:={s with toks:=s.toks+1}) (NO X hc) ?_)
 rw [hdt]
 refine Ke (MH ?_)
 have' O1:(s.heap.push {cls:=.type "dict",data:=.dict #[]}).get? x=some ⟨.ref C,none,.fields vs,osl⟩:=Kh _ hx
 have hxs:x≠s.heap.objs.size:=Hb (Kj hx)
 refine Ke (wpAny_update O1 (Ke (Kf (Kf ?_))))
 have hgd:((s.heap.push {cls:=.type "dict",data:=.dict #[]}).update x λo=>{o with dict:=some s.heap.objs.size}).get? s.heap.objs.size=some (dictOf [] 0):=
  (Heap.get?_update_ne _ _ _ _ hxs.symm).trans (Heap.get?_push_at rfl rfl)
 have hgx:=Kn (λo:Obj=>{o with dict:=some s.heap.objs.size}) O1 rfl
 refine sx (s:={s with heap:=(s.heap.push {cls:=.type "dict",data:=.dict #[]}).update x λo=>{o with dict:=some s.heap.objs.size},toks:=s.toks+1}) hgd rfl (Nat.succ_le_of_lt (Nat.zero_lt_succ _)) λh' n' hsb hg=>?_
 exact h h' _ _ n' _ ((hsb.2 x hxs).trans hgx) hg λb o hb e=>(hsb.2 b (Hb (Kj e))).trans ((Heap.get?_update_ne _ _ _ _ hb).trans (Kh _ e))
theorem nZ (X:K.In s.heap) (hx:s.heap.get? x=some ox) (h1:ox.cls=.ref C) (h2:ox.dict=some dx) (h3:ox.data=.fields vs) (hdx:s.heap.get? dx=some (dictOf es n)) (hne:dx≠x) (hc:clsIn K C=some cd) (hdt:cd.hasDict=true) (ne:cd.mro.isEmpty=false)
  (hm:cd.mro.contains (.type "object")=true) (hpass:∀self,Nr self "__setattr__" cd.mro=pure ()) (ht:KS K (.ref C) name=some none) (hs:KS K (.ref C) "__setattr__"=some (some (.builtin "object.__setattr__")))
  (hl:(getL name es).isSome=true) (hz:∀hsh k,(putL name hsh k v es).length≤1000)
  (h:∀h' es n tk,h'.get? x=some ox->h'.get? dx=some (dictOf es n)->(∀b o,b≠dx->s.heap.get? b=some o->h'.get? b=some o)->Q () {s with heap:=h',toks:=tk}):
  Kg (Ku prog w) A (NT (.ref x) name v) Q E s:=by
 have' I:Lj s.heap x ox C (some (dictOf es n)):=⟨hx,h1,by unfold notCls;rw [h3],by rw [h2];exact hdx⟩
 refine set_plain X I hs (mE (s:={s with toks:=s.toks+1}) X I hc ne hm hpass ht ?_)
 refine Ke (Kf (Ke (Ke (Md hx ?_))))
 obtain ⟨oc,odi,oda,osl⟩:=ox
 dsimp only at h1 h2 h3
 subst h1 h2 h3
 refine Ke (N8 (s:={s with toks:=s.toks+1}) (NO X hc) ?_)
 rw [hdt]
 refine Kf (a:=some dx) (Ke (Kf ?_))
 refine sx (s:={s with toks:=s.toks+1}) (tk:=s.toks) hdx hl (hz _ _) λh' n' hsb hg=>?_
 exact h h' _ n' _ ((hsb.2 x (Ne.symm hne)).trans hx) hg λb o hb e=>(hsb.2 b hb).trans e
end
section
variable {prog:Lb} {w:Lw} {A:Kw} {E:Value->Ki->Prop} {h:Heap} {g:Array Ox} {d:Drawn} {t:Nat} {os:OsState}
variable {nm q:Str} {C N:Addr} {bs bm:List Value} {hdct:Bool} {sn:List Str} {sub:List Value} {ab:Bool} {col:Option Bool} {dd:Option Addr} {k0 k1 k2 k3 k5:Option Value} {B newId initId:String}
abbrev eM (C:Addr) (t:Addr):Obj:={cls:=.ref C,data:=.fields #[.ref t,.none,.none,.none,.bool false,.none]}
abbrev jf (xs:List Value):Obj:={cls:=.type "tuple",data:=.seq xs.toArray}
theorem gV (xs:List Value):((h.push (jf xs)).push (eM C h.objs.size)).get? (h.objs.size+1)=some (eM C h.objs.size):=by heap_get
theorem cp (e:h.get? b=some o):((h.push (jf xs)).push (eM C h.objs.size)).get? b=some o:=Kh _ (Kh _ e)
theorem mG (hn:h.Ns N m):((h.push (jf xs)).push (eM C h.objs.size)).Ns N m:=
 let ⟨o,es,ep,e,r⟩:=hn;⟨o,es,ep,cp e,r⟩
theorem ju (F:ExcBaseFacts B newId initId bm)
  (hC:h.get? C=some (NP nm q C N bs bm hdct sn sub ab col dd k0 k1 k2 k3 k5 newId)) (hn:h.Ns N mN)
  (hq:(mN "__init__"=none∧∀h',(∀b o,h.get? b=some o->h'.get? b=some o)->(∃tt,h'.get? (h.objs.size+1)=some (eM C tt))->Q (.done (.ret (.ref (h.objs.size+1)))) ⟨h',g,d,t,os⟩)∨
   (∃fI oI,mN "__init__"=some (.ref fI)∧h.get? fI=some oI∧oI.cls=.type "function"∧
    Kg (Ku prog w) A (call (.ref fI) (.ref (h.objs.size+1)::rest)) (λr s'=>r=.none∧Q (.done (.ret (.ref (h.objs.size+1)))) s') E ⟨(h.push (jf rest)).push (eM C h.objs.size),g,d,t,os⟩)) (hrest:rest.length≤Le:=by size_fits):
  Kg (Ku prog w) A (KV.«type.__call__» ⟨.ref C::rest,[]⟩) Q E ⟨h,g,d,t,os⟩:=by
 repeat (first|with_reducible refine NB hC ?_|with_reducible refine wpAny_madeBy_exc hC ?_|wp_step)
 refine codeAny_call_builtin_code (Mp _ F.quiet) (wpAny_check_new_sub F hC (codeAny_exc_new_sub F hC ?_ hrest))
 show Kg _ _ _ _ _ _
 have' Pd:=cp (C:=C) (xs:=rest) hC
 have' hget:=gV (h:=h) (C:=C) rest
 have hcC:(KI C::bm).contains (.ref C)=true:=by simp
 unfold Nt
 repeat (first|with_reducible refine NB hget ?_|(with_reducible refine wpAny_isSubtype_exc Pd ?_;rw [hcC])|wp_step)
 refine wpAny_typeLookup_exc (mN:=mN) Pd (mG hn) F.mroIs F.init.lookup ?_
 rcases hq with ⟨h0,hq⟩|⟨fI,oI,h0,hf,hfc,hq⟩
 ·rw [h0]
  refine Km (Ke (Ll (F.init.bind _) (Ke (LK (LP F.init.plain F.initEntry (wpAny_check_init_sub F Pd hget rfl ?_))))))
  wp_walk
  refine hq _ (λb o hb=>?_) ⟨h.objs.size+2,?_⟩
  ·rw [Kt _ _ (HE (Hz (Kj hb)))]
   exact Kh _ (cp hb)
  rw [Kn _ (Kh _ hget) rfl]
  simp only [Kv]
  rfl
 rw [h0]
 refine Km (Ke ?_)
 unfold bindSpecial
 refine Ke (Mb (T:="function") ⟨_,cp hf,hfc⟩ ?_)
 rw [RA !3]
 refine Kf (Ke (Kl hq (λr s' hr=>?_) λ_ _ x=>x))
 obtain ⟨rfl,hQ⟩:=hr
 wp_walk
 exact hQ
theorem mH (F:ExcBaseFacts B newId initId bm)
  (hC:h.get? C=some (NP nm q C N bs bm hdct sn sub ab col dd k0 k1 k2 k3 k5 newId)) (hn:h.Ns N mN)
  (hq:(mN "__init__"=none∧∀h',(∀b o,h.get? b=some o->h'.get? b=some o)->(∃tt,h'.get? (h.objs.size+1)=some (eM C tt))->Q (.ref (h.objs.size+1)) ⟨h',g,d,t,os⟩)∨
   (∃fI oI,mN "__init__"=some (.ref fI)∧h.get? fI=some oI∧oI.cls=.type "function"∧
    Kg (Ku prog w) (A.under (.builtin "type.__call__" ⟨.ref C::rest,[]⟩)) (call (.ref fI) (.ref (h.objs.size+1)::rest)) (λr s'=>r=.none∧Q (.ref (h.objs.size+1)) s') E ⟨(h.push (jf rest)).push (eM C h.objs.size),g,d,t,os⟩)) (hrest:rest.length≤Le:=by size_fits):
  Kg (Ku prog w) A (call (.ref C) rest) Q E ⟨h,g,d,t,os⟩:=by
 have f1:=tc_lookup
 have f2:=tc_bind (.ref C)
 have hT:(⟨h,g,d,t,os⟩:Ki).TypeIs (.ref C) "type":=⟨_,hC,rfl⟩
 refine LK (Mt ?_)
 show Kg _ _ (callAny (.ref C) _) _ _ _
 repeat (any_goals (first|assumption|with_reducible refine NB hC ?_|wp_step))
 refine ⟨rfl,codeAny_call_builtin_at (Mp _ (by decide+kernel)) entry_typeCall (wpAny_check_type_call_sub hC (ju (hrest:=hrest) F hC hn ?_))⟩
 exact hq
end
theorem gW (self:Value):Nr self "__setattr__" [.type "TypeError",.type "Exception",.type "BaseException",.type "object"]=pure ():=!0
def zb:Value->Bool
 |.str _ _=>true
 |_=>false
theorem vx {K:Frag} {h:Heap} {N:Nat} {p:Array Od->Prop} (X:K.In h) (e:∃c d es n sl,P8 (K.lookup N=some ⟨c,d,.dict es n,sl⟩) (es.all (λe=>zb e.key)=true) (p es)):∃es,h.Ns N (OA es)∧p es:=by
 obtain ⟨c,d,es,n,sl,hl,ha,hp⟩:=e
 rw [Array.all_eq_true] at ha
 refine ⟨es,⟨_,es,n,X _ _ hl,rfl,λen he=>?_,λ_=>rfl⟩,hp⟩
 obtain ⟨i,hi,rfl⟩:=Array.mem_iff_getElem.mp he
 replace ha:=ha i hi
 induction hk:es[i].key with
 |str n t=>exact ⟨n,t,rfl⟩
 |_=>rw [hk] at ha;exact nFT ha
theorem uZ {K:Frag} {a:Nat} {p:Obj->Bool} (h:(K.lookup a).any p=true):∃o,K.lookup a=some o∧p o=true:=by
 induction e:K.lookup a with
 |none=>rw [e] at h;exact nFT h
 |some o=>rw [e] at h;exact ⟨o,rfl,h⟩
theorem jW {c:Cx} {A:Kw} {s:Ki} {env:Env} {x n:Str} {v y:Value} {p q:Pos} {m:Str->Option Value} {Q:Unit->Ki->Prop} {E:Value->Ki->Prop} (hk:env.scope.kind=.function) (hl:env.kindOf n=some .local) (hn:s.heap.Ns env.locals m) (hm:m n=some v) (hd:(n==("__debug__":Str))=false)
  (h:Kg c.M A (NT v x y) (λ_ s'=>Q () s') E s):Kg c.M A (Nu (.Attribute (.Name n p) x q) env y) Q E s:=by
 rw [arm_assign_Attribute]
 refine Ke (Km (Np (LJ hk hl hn hm ?_) hd))
 exact Ke (Kq (Ke (Km (Kl h (λ_ _ hq=>Nb hq) λ_ _ h=>h))))
theorem zc (P:Ko):∃p1 p2 p3 p4 p5 p6 p7 p8 p9,
  an (KH P) 56=[.Assign [.Attribute (.Name "self" p1) "C" p2] (.Attribute (.Name "c3" p3) "leaf" p4) p5,.Assign [.Attribute (.Name "self" p6) "base_tree_remaining" p7] (.Name "base_tree_remaining" p8) p9]:=⟨_,_,_,_,_,_,_,_,_,rfl⟩
theorem A4 (P:Ko):(clsIn (KH P) 59).any (λcd=>cd.mro==[.ref 59,.type "TypeError",.type "Exception",.type "BaseException",.type "object"]&&cd.hasDict)=true:=!0
section
variable {c:Cx} {g:GP} {fr:List Env} {wr:Str->Bool} {env:Env} {A:Kw} {hd:Bool} {D e:Nat} {ρ:Rho} {st:AS} {s:Ki} {P:Ko} {Q:Value->Ki->Prop} {E:Value->Ki->Prop}
theorem zd (hK:c.K=KH P) (ok:c.Ok) (I:Inv c g fr wr env ρ st s)
  (hq:∀x ox od fs h' tk,(∀b o,s.heap.get? b=some o->h'.get? b=some o)->s.heap.objs.size≤x->Lj h' x ox 100 od->ox.data=.fields fs->fs[1]?=some .none->fs[2]?=some .none->
   (∀d,ox.dict=some d->s.heap.objs.size≤d∧∃o,h'.get? d=some o)->Q (.ref x) {s with heap:=h',toks:=tk}):Kg c.M A (call (.ref 100) []) Q E s:=by
 have' X:=I.X ok
 rw [hK] at X
 have' hC:(KH P).lookup 100=some (NP "_UseLegacyRO" "_UseLegacyRO" 100 99 [.type "Exception"] [.type "Exception",.type "BaseException",.type "object"] true [] [] false none none (some (.ref 91)) none (some (.str "_UseLegacyRO" 294)) (some (.str "_UseLegacyRO" 302)) (some (.bool true)) "Exception.__new__"):=!0
 obtain ⟨es,hn,h4⟩:=vx (K:=KH P) (N:=99) (p:=λes=>(OA es "__init__").isNone=true) X ⟨_,_,_,_,_,rfl,!0,!0⟩
 replace h4:OA es "__init__"=none:=by simpa using h4
 refine mH (prog:=c.prog) (w:=c.w) (A:=A) (E:=E) (g:=s.gens) (d:=s.drawn) (t:=s.toks) (os:=s.os) (Q:=Q) PySem.F.excBase_Exception (X _ _ hC) hn (rest:=[]) (.inl ⟨h4,λh' hk ht=>?_⟩)
 obtain ⟨tt,ht⟩:=ht
 exact hq _ _ none _ h' s.toks hk (IK _) ⟨ht,rfl,rfl,trivial⟩ rfl rfl rfl λd hd=>nomatch hd
theorem A5 (hK:c.K=KH P) (S:PU c g fr hd D e A) (he:10≤e) (I:Inv c g fr wr env ρ st s) {i C':Nat} {fs:List (Str×V)} {w:V} {x1 x2:Value} (hi:st.hp[i]?=some (.inst C' fs)) (hC':C'=204∨C'=232) (hl:(aj fs "leaf").isSome=true) (hv:PH ρ [.obj i,w] [x1,x2])
  (hq:∀x ox od fs h' tk,(∀b o,s.heap.get? b=some o->h'.get? b=some o)->s.heap.objs.size≤x->Lj h' x ox 59 od->ox.data=.fields fs->fs[1]?=some .none->fs[2]?=some .none->
   (∀d,ox.dict=some d->s.heap.objs.size≤d∧∃o,h'.get? d=some o)->Q (.ref x) {s with heap:=h',toks:=tk}):Kg c.M A (call (.ref 59) [x1,x2]) Q E s:=by
 have ok:=S.ok
 have X:=I.X ok
 rw [hK] at X
 have hC:(KH P).lookup 59=some (NP "InconsistentResolutionOrderError" "InconsistentResolutionOrderError" 59 58 [.type "TypeError"] [.type "TypeError",.type "Exception",.type "BaseException",.type "object"] true [] [] false none none (some (.ref 43)) none (some (.str "InconsistentResolutionOrderError" 224)) (some (.str "InconsistentResolutionOrderError" 232)) (some (.bool true)) "TypeError.__new__"):=!0
 obtain ⟨es,hn,h4⟩:=vx (K:=KH P) (N:=58) (p:=λes=>(OA es "__init__"==some (.ref 56))=true) X ⟨_,_,_,_,_,rfl,!0,!0⟩
 replace h4:OA es "__init__"=some (.ref 56):=beq_iff_eq.mp h4
 obtain ⟨o56,hf,hfc⟩:=uZ (K:=KH P) (a:=56) (p:=λo=>o.cls==.type "function") !0
 replace hfc:o56.cls=.type "function":=beq_iff_eq.mp hfc
 obtain ⟨cd,hcd,hcd'⟩:=any_some (A4 P)
 rw [Hs,beq_iff_eq] at hcd'
 obtain ⟨hmro,hdt⟩:=hcd'
 have' hpass:∀self,Nr self "__setattr__" cd.mro=pure ():=λself=>by rw [hmro,refuseLoop_ref];exact gW self
 have' hne:cd.mro.isEmpty=false:=by rw [hmro];rfl
 have' hobj:cd.mro.contains (.type "object")=true:=by rw [hmro];decide+kernel
 refine mH (prog:=c.prog) (w:=c.w) (A:=A) (E:=E) (g:=s.gens) (d:=s.drawn) (t:=s.toks) (os:=s.os) (Q:=Q) PySem.F.excBase_TypeError (X _ _ hC) hn (rest:=[x1,x2]) (.inr ⟨56,o56,h4,X _ _ hf,hfc,?_⟩)
 have k1:∀b o,s.heap.get? b=some o->((s.heap.push (jf [x1,x2])).push (eM 59 s.heap.objs.size)).get? b=some o:=λb o e=>cp e
 have' hex:=gV (h:=s.heap) (C:=59) [x1,x2]
 generalize (s.heap.push (jf [x1,x2])).push (eM 59 s.heap.objs.size)=OQ at k1 hex
 have hxlt:s.heap.objs.size+1<OQ.objs.size:=Kj hex
 have hdp:=S.depth
 refine LK (sr (s:=⟨OQ,s.gens,s.drawn,s.toks,s.os⟩) (f:=56) (ns:=["self","c3","base_tree_remaining"]) (binds:=[("self",.ref (s.heap.objs.size+1)),("c3",x1),("base_tree_remaining",x2)]) ((I.X ok).keeps k1) ((ok.T.keeps I.w.keep).nolimit.keeps k1) (by rw [hK];kernel_rfl) (by show A.depth+1<1000;exact Bw he hdp) ?_ ?_ ?_)
 ·have hb1:=gU (K:=c.K) (f:=56) (a:="self") (b:="c3") (d:="base_tree_remaining") λS x y z=>by rw [hK];kernel_rfl
  exact λfd hf S=>hb1 fd [.ref (s.heap.objs.size+1),x1,x2] [] S hf rfl rfl
 ·intro x hx
  rw [hK]
  rcases G0.mp hx with rfl|hx
  ·kernel_rfl
  rcases G0.mp hx with rfl|hx
  ·kernel_rfl
  rw [GY.mp hx]
  kernel_rfl
 intro env' OV tk q1 q2 q3 hns hkeep hlow
 obtain ⟨p1,p2,p3,p4,p5,p6,p7,p8,p9,hbody⟩:=zc P
 rw [hK,hbody]
 have' kl1:aF c.K 56 "self"=some .local:=by rw [hK];kernel_rfl
 have' kl2:aF c.K 56 "c3"=some .local:=by rw [hK];kernel_rfl
 have' kl3:aF c.K 56 "base_tree_remaining"=some .local:=by rw [hK];kernel_rfl
 have' n12:¬(("self":Str)="c3"):=by decide+kernel
 have' hm1:MB (aF c.K 56) [("self",.ref (s.heap.objs.size+1)),("c3",x1),("base_tree_remaining",x2)] (λ_=>none) "self"=some (.ref (s.heap.objs.size+1)):=by
  unfold MB;rw [RA kl1,gE (by show ¬("self":Str)∈[("c3":Str),"base_tree_remaining"];decide+kernel)];exact RA rfl
 have hm2:MB (aF c.K 56) [("self",.ref (s.heap.objs.size+1)),("c3",x1),("base_tree_remaining",x2)] (λ_=>none) "c3"=some x1:=by
  unfold MB;unfold MB;rw [RA kl2,gE (by show ¬("c3":Str)∈[("base_tree_remaining":Str)];decide+kernel)];exact RA rfl
 have hm3:MB (aF c.K 56) [("self",.ref (s.heap.objs.size+1)),("c3",x1),("base_tree_remaining",x2)] (λ_=>none) "base_tree_remaining"=some x2:=by
  unfold MB;unfold MB;unfold MB;rw [RA kl3];unfold MB;exact RA rfl
 have' k2:∀b o,s.heap.get? b=some o->OV.get? b=some o:=λb o e=>hkeep b o (k1 b o e)
 obtain ⟨m,F⟩:=I.frU ok (λa o e _=>k2 a o e)
 obtain ⟨pi,hρ,rfl,-⟩:=PF.get I hv.1 hi
 obtain ⟨es,n,J,hfs,hd',kc⟩:=dq (I.orU (λa o e _=>k2 a o e) hρ hi rfl)
 have' hlf:nW (KH P) C' "leaf":=fu P (C:=C') (x:=("leaf":Str)) (a:=AK.field) (by rcases hC' with rfl|rfl<;>rfl)
 rw [<-hK] at hlf
 obtain ⟨g1,g2,g3⟩:=hlf
 rcases dE (x:=("leaf":Str)) hfs with ⟨e1,_⟩|⟨v',y',e1,e2,e3⟩
 ·rw [e1] at hl;exact nFT hl
 refine NK (Lp (fL q1 ((q2 _).trans kl2) hns hm2 (!3) (Oi F ok.X J g1 kc.dict g2 rfl e2 (d2 e3) ?_)) (cO rfl) d7)
 refine jW q1 ((q2 _).trans kl1) hns hm1 (!3) ?_
 have hx2:OV.get? (s.heap.objs.size+1)=some (eM 59 s.heap.objs.size):=hkeep _ _ hex
 have' X2:(KH P).In OV:=by rw [<-hK];exact ok.X.keeps F.keep
 refine mF (C:=59) (cd:=cd) X2 hx2 rfl rfl rfl hcd hdt hne hobj hpass (!0) (!0) λOS hs kt PA Pn r1 r2 r3=>?_
 have L2:env'.locals<OV.objs.size:=hns.lt
 have nL:env'.locals≠s.heap.objs.size+1:=λz=>by rw [z] at hlow;exact absurd hxlt (Hr.mpr hlow)
 have hns3:OS.Ns env'.locals _:=let ⟨o,es,ep,e,r⟩:=hns;⟨o,es,ep,r3 _ _ nL e,r⟩
 refine NK (Lp (Np (LJ q1 ((q2 _).trans kl3) hns3 hm3 ?_) !3) (cO rfl) d7)
 refine jW q1 ((q2 _).trans kl1) hns3 hm1 (!3) ?_
 have X3:(KH P).In OS:=λb o e=>r3 b o (λz=>absurd (Kj (X _ _ e)) (by rw [z];exact Hr.mpr (IK _))) (X2 _ _ e)
 have ndx:OV.objs.size≠s.heap.objs.size+1:=λz=>by have:=Kj hx2;rw [z] at this;exact absurd this (Hl _)
 refine nZ (C:=59) (cd:=cd) (dx:=OV.objs.size) X3 r1 rfl rfl rfl r2 ndx hcd hdt hne hobj hpass (!0) (!0) ?_ ?_ λPb PB PC Py u1 u2 u3=>?_
 ·unfold getL
  rw [IL,dL]
  rfl
 ·intro hsh k
  unfold putL
  dsimp only
  rw [dL]
  exact (by decide:2≤1000)
 refine Mr ?_
 refine ⟨rfl,?_⟩
 refine hq _ _ (some _) _ Pb Py (λb o e=>u3 b o (λz=>?_) (r3 b o (λz=>?_) (k2 b o e))) (IK _) ⟨u1,rfl,rfl,u2⟩ rfl rfl rfl λd hd=>?_
 ·exact absurd (Kj e) (by rw [z];exact Hr.mpr (Hk (Nat.lt_of_succ_lt (Kj hx2))))
 ·exact absurd (Kj e) (by rw [z];exact Hr.mpr (IK _))
 (replace hd:=ay hd;subst hd)
 exact ⟨Hk (Nat.lt_of_succ_lt (Kj hx2)),_,u2⟩
theorem n4 (hK:c.K=KH P):aK c:=by
 intro fn D C vs hC g fr wr env A hd e ρ st s xs S he I hv hx Q E hq
 have ok:=S.ok
 rcases hx with ⟨rfl,rfl⟩|⟨rfl,i,w,fs,C',rfl,hi,hC',hl⟩
 ·rw [hv.none_of]
  exact zd hK ok I hq
 induction xs using Lc with
 |nil=>exact hv.elim
 |cons x1 xs=>
  induction xs using Lc with
  |nil=>exact hv.2.elim
  |cons x2 xs=>
   induction xs using Lc with
   |nil=>exact A5 hK S he I hi hC' hl hv hq
   |cons _ _=>exact hv.2.2.elim
end
def cT (K:Frag):List (Addr×Addr):=K.filterMap λp=>match p.2.data with
 |.func fd=>(match fd.code,gY K fd.code with
  |.ref cc,some P=>some (cc,P)
  |_,_=>none)
 |_=>none
theorem sy (P:Ko):(cT (KH P)).all (λq=>N0 (KH P) q.1 q.2)=true:=!0
theorem jX (P:Ko):(cT (KH P)).map (·.2)=de (KH P):=!0
theorem u0 (P:Ko):noTabs (KH P)=true:=!0
theorem sz (P:Ko):((KH P).lookup 412).isSome=true:=!0
theorem ze (P:Ko):nsIn (KH P) Lv "law"=some (some (.ref 412)):=!0
theorem sA {prog q:Lb} {w:Lw} {loose:List Str} {mean:ExcName->Option Value} {mg mb:Str->Option Value} {s:Ki} {fa sc:Addr} {ns:List Int} {items:List Value} (X:(KH w.params).In s.heap) (hT8:∀P∈de (KH w.params),s.heap.get? P=some (Oe #[]))
  (T:Top q loose mean mg mb s.heap) (hmg:mg "law"=some (.ref fa)) (hg:s.gens=#[])
  (hL:s.heap.IsList sc items.toArray) (hI:IntsAre items ns) (hl:ns.length≤63) {Q:Value->Ki->Prop} {E:Value->Ki->Prop}
  (hQ:∀s',OldK s.heap s'.heap->s'.os=s.os->NV s'.gens->Q (.bool true) s'):Kg (Ku prog w) callerA (call (.ref fa) [.ref sc]) Q E s:=by
 have hfa:fa=412:=by
  have':=mg_of X T.g (n:="law") (ze w.params)
  rw [hmg] at this;cases this;rfl
 subst hfa
 obtain ⟨o412,ho412⟩:∃o,s.heap.get? 412=some o:=by
  have:∃o,(KH w.params).lookup 412=some o:=by
   induction e:(KH w.params).lookup 412 with
   |none=>exact absurd (sz w.params) (by rw [e];decide)
   |some o=>exact ⟨o,rfl⟩
  obtain ⟨o,h⟩:=this
  exact ⟨o,X _ _ h⟩
 have hsz:412<s.heap.objs.size:=Kj ho412
 have' hTb:TabsAt (cT (KH w.params)) s.heap:=λq hq=>
  ⟨codeHd_of_K X (Hd.mp (sy w.params) q hq),hT8 _ (by rw [<-jX];exact List.mem_map_of_mem hq)⟩
 have hbz:(NU s.heap (cT (KH w.params))).objs.size=s.heap.objs.size:=hideAll_size _ _
 have hmem:∀b,b∈(cT (KH w.params)).map (·.2)↔b∈de (KH w.params):=λb=>by rw [jX]
 let c:Cx:={prog:=prog,w:=w,K:=KH w.params,p:=q,loose:=loose,mg:=mg,mb:=mb,base:=NU s.heap (cT (KH w.params)),os:=s.os,h1:=s.heap}
 have' ok:c.Ok:={
  X:=ghost_K hTb X (u0 w.params)
  T:=⟨ghost_ns hTb T.g,ghost_ns hTb T.b,let ⟨mc,a,r⟩:=T.nolimit;⟨mc,ghost_ns hTb a,r⟩,T.builtins,T.free⟩
  sm:=by show _<(NU s.heap (cT (KH w.params))).objs.size;rw [hbz];exact IY (by decide:Oz<412) hsz
  cs:=by show _<(NU s.heap (cT (KH w.params))).objs.size;rw [hbz];exact IY (by decide:cStatics<412) hsz
  tb:=λP hP=>hideAll_none _ ((hmem P).mpr hP)
  bm:=let ⟨a,b,h⟩:=bmod_of_top (ghost_top hTb T);⟨a,b,h⟩}
 have snd:=pV (c:=c) (P:=w.params) rfl ok (n4 rfl)
 obtain ⟨osc,hosc,_⟩:=id hL
 have hscl:sc<s.heap.objs.size:=Kj hosc
 have' hscb:sc<c.base.objs.size:=by show _<(NU s.heap (cT (KH w.params))).objs.size;rw [hbz];exact hscl
 have W:PP c (λb=>if b∈de (KH w.params) then none else s.heap.get? b) [] [(sc,sc)] [.ro ns] s:={
  rep:={
   len:=rfl
   obj:=λ{i p o} h1 h2=>by
    induction i using Hn with
    |zero=>(replace h1:=ay h1;subst h1);(replace h2:=ay h2;subst h2);exact ⟨items.toArray,hL,by simpa using hI⟩
    |succ i=>simp at h1
   low:=λ{i p o} h1 h2 h3=>by
    induction i using Hn with
    |zero=>(replace h2:=ay h2;subst h2);exact nTF h3
    |succ i=>simp at h1
   sep:=λ{i j p q'} h1 h2 hn=>by
    induction i using Hn with
    |zero=>induction j using Hn with
     |zero=>exact absurd rfl hn
     |succ j=>simp at h2
    |succ i=>simp at h1
   self:=λ{i p C fs} h1 h2=>by
    induction i using Hn with
    |zero=>exact gr h2 rfl
    |succ i=>simp at h1
   inb:=λ{i p} h1=>by
    induction i using Hn with
    |zero=>(replace h1:=ay h1;subst h1);exact ⟨⟨_,hosc⟩,⟨_,hosc⟩⟩
    |succ i=>simp at h1
   rolow:=λ{i p o} h1 h2 _=>by
    induction i using Hn with
    |zero=>(replace h1:=ay h1;subst h1);exact ⟨hscb,hscb⟩
    |succ i=>simp at h1}
  keep:=λb o h=>of_hideAll _ h
  prot:=λb o h=>by
   dsimp only at h
   split at h
   ·exact nNS h
   exact ⟨o.slots,h,λ_=>rfl⟩
  gfoot:=λa ⟨i,p,o,h1,h2,h3,_⟩=>by
   induction i using Hn with
   |zero=>(replace h2:=ay h2;subst h2);exact nTF h3
   |succ i=>simp at h1
  ffun:=trivial
  fro:=λi p h=>⟨(λz=>nomatch z),(λz=>nomatch z)⟩
  bg:=λb o h=>by
   rw [Rz λm=>by
    replace h:=h
    rw [show c.base.get? b=none from hideAll_none _ ((hmem b).mpr m)] at h;exact nNS h]
   exact of_hideAll _ h
  os:=rfl
  bare:=.of_eq hg
  size:=HN hbz
  tab:=λP h=>⟨#[],hT8 P h,trivial⟩
  tlow:=λP h=>by show _<(NU s.heap (cT (KH w.params))).objs.size;rw [hbz];exact Kj (hT8 P h)
  gtab:=λP h=>RA h}
 have S:PU c (λb=>if b∈de (KH w.params) then none else s.heap.get? b) [] true 52 10 callerA:=⟨ok,rfl,!3,!3,λ_=>rfl,.inl rfl⟩
 refine LK (KO (snd _ [] callerA true [(sc,sc)] [.ro ns] s [.obj 0] [.ref sc] [] (λv _=>v=.bool true) (λ_ _=>False) W S ⟨⟨(sc,sc),rfl,rfl⟩,trivial⟩ rfl ⟨rfl,0,ns,rfl,rfl,hl,λ_=>rfl⟩) λr s' h=>?_)
 unfold om at h
 split at h
 ·obtain ⟨ρ',hp',v,h1,J,hv,rfl⟩:=h
  cases hv
  have' grown:∀b o,b∈de (KH w.params)->s.heap.get? b=some o->isCodeTable s.heap b∧o=Oe #[]∧∃ps,s'.heap.get? b=some (Oe ps):=λb o hb e=>by
   obtain ⟨q',hq,rfl⟩:=G1.mp ((hmem b).mpr hb)
   have e2:=(hTb q' hq).2
   rw [e] at e2
   obtain ⟨ps,h3,_⟩:=J.tab _ hb
   exact ⟨((hTb q' hq).1.tab (hTb q' hq).2).isCodeTable,Hm.inj e2,ps,h3⟩
  refine hQ s' ⟨λb o e=>?_,λb o e=>?_⟩ J.os J.bare
  ·by_cases hb:b∈de (KH w.params)
   ·obtain ⟨ht,rfl,ps,hP⟩:=grown b o hb e
    exact .inr (.inl ⟨ht,rfl,#[],ps,rfl,by rw [Array.empty_append];exact hP⟩)
   exact .inl (J.prot.at (by rw [Rz hb];exact e) (λz=>nomatch z))
  by_cases hb:b∈de (KH w.params)
  ·obtain ⟨_,_,ps,hP⟩:=grown b o hb e
   exact ⟨_,hP⟩
  exact ⟨o,J.prot.at (by rw [Rz hb];exact e) (λz=>nomatch z)⟩
 ·exact h.elim
 obtain ⟨ρ',hp',C,h1,J,hx,hE⟩:=h
 exact hE.elim
theorem u4 (P:Ko):de (KH P)=[16,23,30,37,51,71,78,112,122,127,134,142,150,160,168,175,182,189,196,217,224,237,251,274,281,289,296,303,310,315,320,328,349,356,368,375,380,387,394,399,404,409]:=!0
theorem vy (P:Ko):[2,3,15,17,18,20,21,22,24,25,27,28,29,31,32,34,35,36,38,39,41,42,43,50,52,53,55,56,57,58,59,60,70,72,73,75,76,77,79,80,82,83,84,85,86,87,88,91,98,99,100,101,111,113,114,116,117,118,119,120,121,124,125,126,128,129,131,132,133,135,136,138,139,140,141,143,144,146,147,148,149,151,152,154,155,156,157,158,159,162,163,164,165,166,167,169,170,172,173,174,176,177,179,180,181,183,184,186,187,188,190,191,193,194,195,197,198,200,201,202,203,204,205,206,209,216,218,219,221,222,223,225,226,228,229,230,231,232,235,236,238,239,241,242,250,252,253,255,256,257,258,259,260,261,264,271,272,273,275,276,278,279,280,282,283,285,286,287,288,290,291,293,294,295,297,298,300,301,302,304,305,307,308,309,312,313,314,317,318,319,321,322,324,325,326,327,329,330,332,333,334,335,336,339,346,347,348,350,351,353,354,355,357,358,360,361,362,363,364,367,369,370,372,373,374,377,378,379,381,382,384,385,386,388,389,391,392,393,396,397,398,401,402,403,406,407,408,411,412]=(hk.heap_1 P).map (·.1):=!0
theorem sB (q:Lb) (loose:List Str) (XP:(Str->Option Value)->Heap->Prop) (d:DefRec) (kwd:List (Str×Expr)) (hdn:d.name="law"):
  WalkO q loose XP (kmHook hk.heap_1 [2,3,15,17,18,20,21,22,24,25,27,28,29,31,32,34,35,36,38,39,41,42,43,50,52,53,55,56,57,58,59,60,70,72,73,75,76,77,79,80,82,83,84,85,86,87,88,91,98,99,100,101,111,113,114,116,117,118,119,120,121,124,125,126,128,129,131,132,133,135,136,138,139,140,141,143,144,146,147,148,149,151,152,154,155,156,157,158,159,162,163,164,165,166,167,169,170,172,173,174,176,177,179,180,181,183,184,186,187,188,190,191,193,194,195,197,198,200,201,202,203,204,205,206,209,216,218,219,221,222,223,225,226,228,229,230,231,232,235,236,238,239,241,242,250,252,253,255,256,257,258,259,260,261,264,271,272,273,275,276,278,279,280,282,283,285,286,287,288,290,291,293,294,295,297,298,300,301,302,304,305,307,308,309,312,313,314,317,318,319,321,322,324,325,326,327,329,330,332,333,334,335,336,339,346,347,348,350,351,353,354,355,357,358,360,361,362,363,364,367,369,370,372,373,374,377,378,379,381,382,384,385,386,388,389,391,392,393,396,397,398,401,402,403,406,407,408,411,412] vy [16,23,30,37,51,71,78,112,122,127,134,142,150,160,168,175,182,189,196,217,224,237,251,274,281,289,296,303,310,315,320,328,349,356,368,375,380,387,394,399,404,409]).says PySem.Challenge.rw_jb0048_01.row.toRowW d kwd (λf vs=>PySem.call f vs):=by
 intro w O2 OG mg mb G Y fa o pm cd doc dV kV ho hd' hcd hD hmg hg args vals as hpre hlay hrd hwl hlo
 rw [hdn] at hmg
 have KX:=km_in_of Y
 have KT:=km_tabs_of Y
 have T0:=G.T
 clear Y ho hd' hcd hD
 wrow_args hpre hlay hrd hwl hlo
 rename_i ns _ _ _ _ _ _ _ sc items _ hL _ _ _ hI _ hc _
 refine sA KX (λP hP=>KT P (by rw [<-u4 (P:=w.params)];exact hP)) T0 hmg hg hL hI (Ex hc) λs' h1 h2 h3=>?_
 exact ⟨.inl ⟨_,.bool true,[],rfl,λ_=>rfl,.bool true,!0,λ_=>⟨List.Pairwise.nil,λ_ h=>nomatch h⟩⟩,h1,h2,h3⟩
end Internal
def hd.tw (tw14514996853120130799 tw10012880186880212623 tw10024716035694756283 tw10030107230732127627 tw10111801491309104144 tw1013155817946168525 tw10216474801634566288 tw10246146449241189800 tw10258999931320997221 tw10403243965636340961 tw10424393626065333798 tw10458740792067480800 tw10583446816852156582 tw10601615944963115059 tw10603584201595350602 tw10678649693572172417 tw1071684520917879115 tw10752148897807903841 tw10784824025267889561 tw10792051664901133789 tw10879034167726328663 tw10949625832625181284 tw1097998534492414930 tw11011131195910976488 tw11032806212648032379 tw11054480109507316185 tw11128854368766332075 tw11151547217846952531 tw11232374478483605306 tw11251137523995926341 tw1129884963351977449 tw11319097763535126812 tw11319892378374348655 tw11402939732021071671 tw11465210709893060100 tw11513968764499736323 tw11631869004601391166 tw11631947586910100387 tw11652457597714270106 tw11660266114150955751 tw11713075325732132258 tw11754176132448286083 tw11893437276241958245 tw11917015161858427179 tw11953376511379268794 tw1197925565968671727 tw12023040214023829324 tw12050417470231563642 tw12070051907170230399 tw12088105487498058993 tw12092154237167983948 tw12112201142124510154 tw12113243949977362033 tw1222794163293265305 tw12271959270614036898 tw12399718760709695909 tw1241404454085649124 tw12487502673411948298 tw12588582704262371052 tw12602439190401603521 tw12614811148066621264 tw12629568148972539762 tw12647368939536790636 tw12715402060735579648 tw12901994302517312135 tw12923183920290404411 tw12936449754285732098 tw12949589719889679912 tw13047593935725612058 tw13220430256171166289 tw13225837485096350037 tw13267510147771200024 tw13289513938125300765 tw13315533130655954831 tw13321331477185743149 tw13330244855972007585 tw13372043803930879067 tw13409441903868389331 tw13431754692932380062 tw13466754112058979494 tw13483081372092288885 tw13518370688599389936 tw1359830224848277088 tw13609717118414637909 tw13638418597567726942 tw13699044414388791291 tw13783031573616600631 tw13790719812936386609 tw1382963296337349011 tw13855881374063213867 tw13855946660403688772 tw13866372431405929976 tw13893168526513508166 tw13903934854276604550 tw13919464512627920130 tw14060154772996877548 tw1409312971732116557 tw14103535550066685397 tw1413172679324656950 tw14168552714766633299 tw14246236162039180721 tw14294001040229213422 tw14353793391729792155 tw1438991610255065474 tw1439246655266547700 tw14400467628812073631 tw14457593812595234344 tw14478148883734587675 tw1452849714261714991 tw14553816603554493358 tw14560493823538711346 tw14705683404202351889 tw14727110085682223627 tw14768889098011018680 tw14892549342360969540 tw14896477498954680388 tw14906377314874228009 tw14955159897011116063 tw14960593345356199642 tw14980023328507725902 tw15042006015671813226 tw15043168886218598503 tw1506431575118746342 tw15089522573102190283 tw15103106377680225435 tw15166520500009309586 tw15220180469806662145 tw15279998641719260112 tw15344866539931968096 tw15368132723985388332 tw15411387601460861337 tw15416985209724490359 tw15422856539912107476 tw15463257786427224491 tw15508949281206285077 tw15527848837575444561 tw15529170255622000948 tw15595854959937240912 tw15615537253650120727 tw15616948245753086127 tw15642763164714097627 tw15673258824015622330 tw15759970867653108152 tw1580110805410547442 tw15833661619300960221 tw15837987909243819085 tw15852365999677673905 tw15948780112781908787 tw15967140613478806237 tw1600037746751723098 tw16007149819294483003 tw16029623286316568529 tw16037735763661986305 tw16091413853298234908 tw16154546982801380032 tw16155205043701107222 tw16157073509204512506 tw16171809288044610508 tw16194383521188589630 tw16211521421427940678 tw16259696140248634718 tw162610821266807592 tw16299908979028503884 tw16345102440705955213 tw16412773359747925120 tw16432713993328977331 tw16477043939570097188 tw1656537784543397195 tw16640546478005224243 tw16649331688326792143 tw16713699803418581334 tw16722109127936396110 tw16772102934027710169 tw16781597205703756006 tw16794629799341752650 tw16853341256802265648 tw16868993833207775613 tw16904818350239718627 tw16920754564084929960 tw16945582573551092051 tw16970440968685349367 tw1699103778626983548 tw17001982702790524580 tw17047115858639842297 tw17062030032774818151 tw17087091549796120035 tw17172524214590788102 tw17183224562656869120 tw17213754286329925777 tw17252143746492648416 tw17258206423299326598 tw17330945745186091897 tw17387473266821786944 tw17420951861521290806 tw17447410573909459338 tw17542962492245011380 tw17562767543260142214 tw17574625026820762457 tw1760603350576429475 tw17606422857730326317 tw17672654358674132775 tw17681399029576232318 tw17711083657039698284 tw17714235663813219645 tw17739348878880393726 tw17811195616094107523 tw17893044597097874663 tw17901334829092211166 tw17903497710992402801 tw17919194246423945575 tw17950676927832955104 tw17975533764899295144 tw17986969038992634876 tw1800889605409440832 tw18103342009636024947 tw18166333605607142505 tw18185175575083235020 tw18219297243305740317 tw18241275227582772068 tw18245042118932799458 tw18264374347568628810 tw18291419657060728153 tw18293732401869909652 tw18293851220164018083 tw18300207936620678264 tw18322514126500204803 tw18343703819029505601 tw1847840615245081061 tw1848646778235469078 tw1865391376527767206 tw1882180444382439491 tw189712035060473897 tw190519026028168232 tw1997569388931296116 tw2068664650715991707 tw2101469004524951375 tw2114630138375439770 tw2167537188350426706 tw2195365466389143174 tw2252305205657439004 tw22551697357593593 tw226724450230711188 tw2274498078352570744 tw2287590429203783052 tw2302011250016517275 tw2315301623876862497 tw2327210489368252092 tw2329189449893159454 tw2391449824757734642 tw2442259710966052079 tw2457190517430149469 tw2502866573005156581 tw2603259988358896889 tw2608437505485318709 tw2708950531961675432 tw2788664435532181463 tw2845679848157327705 tw2867327485932766208 tw2887051446865420828 tw2999033326186475339 tw3008623586974134963 tw3039998526598829958 tw3085183777334472315 tw3143712602261400420 tw3219085151875037572 tw3229955645248102723 tw3309697970292668127 tw3381375190539634487 tw3429492842335990350 tw3442329435671937591 tw3443669649825651883 tw3451239065008710300 tw3452082135128663414 tw3493717111155160527 tw3571134770919094901 tw3646829019195819677 tw3673089383077640791 tw3694398316872202419 tw3759623122121258479 tw3789350110615891812 tw3795277891434052102 tw3915529967508079626 tw3919010098100093602 tw395138700845864316 tw402640490398009360 tw4065347644161347641 tw4086058157674990017 tw4115565904173853331 tw4172343393113369950 tw4225703048834024713 tw4272726840584523970 tw4315991029959535628 tw432457690288141553 tw4382473783012875800 tw4383666589626881386 tw4402725079659364252 tw4478964076566166474 tw4494801613693538912 tw4702841417184801058 tw4706079058837389440 tw4851647983119433812 tw4856431653887292112 tw4870687313549177768 tw4971549296188076032 tw5054737718236178183 tw5130813555471234732 tw5148922909946612681 tw5174551420813472067 tw5190246844813560578 tw519851828213033955 tw5245234834050458271 tw5278057926702712004 tw5282504435634884242 tw5292301768408028288 tw5363116716869082496 tw5363564295841288755 tw5366084841770067474 tw5373601922739893978 tw5416991563250132298 tw5480042469492414594 tw5511420028821071320 tw5562173858411828344 tw5567388512258382067 tw5608270528595127837 tw5629675986466331604 tw5635641802508607975 tw5657824000916062451 tw5716766192118558609 tw5732804406350252772 tw5781342201191254626 tw5902613922787404954 tw5961118342813265553 tw5978321128707920903 tw5987830557187376847 tw6019021122589006684 tw6038821095411175016 tw6060742912462422084 tw6164396464334811476 tw6184460063843016694 tw6196171512934965099 tw6264232113106981867 tw6276725880618359904 tw6291416237084387574 tw6293948785866598258 tw6305734824756694309 tw6394381022753523788 tw6407587892757256292 tw6411954120941647267 tw6423634429210846174 tw6438293893037913957 tw6528754448969337418 tw6529220759360494435 tw6547078798241139092 tw6555240042291301478 tw6598312636042714100 tw6759412095888398321 tw6767318904944593275 tw6785817131721698500 tw6804821044290156842 tw6819123309680001836 tw6830512106363814048 tw6838551448383532254 tw6882427118574961969 tw6931407450589930559 tw697623264460660564 tw6982297934935202809 tw6990203504111849199 tw6998783941825042932 tw701787995468756871 tw7023726343779634624 tw7028611270464810887 tw7068711184596962023 tw7082855905992002993 tw7085514621470718492 tw7270182246851987180 tw728884934406724761 tw7289634563603522867 tw7296583596125217682 tw7355570028127101125 tw7366208706002141716 tw740920337575284248 tw7494724483528729301 tw7512474625130614241 tw7534799579077118603 tw7540655947842036084 tw7540741092611519060 tw758273949599710562 tw7610815399733428385 tw7613322435384674090 tw7628703163842673926 tw7654286748164834634 tw7721951785955056133 tw7751791981175770698 tw7752216883906862206 tw7754304195085646258 tw7763873220885509757 tw7891253978561527248 tw7914949630228597729 tw8004679753235328684 tw8025032847418708242 tw8047900516022102942 tw8068729725432388964 tw8112040973832200146 tw8117029840178788049 tw8134915037123179040 tw8184699220007379433 tw8226494294326810461 tw8228950375871286339 tw8268277133935991078 tw8343274005884668182 tw8356816923877370021 tw8381844023166312768 tw8428860471423672150 tw8457440626546761165 tw8545014587354053640 tw8609351116199087170 tw8684328023851190084 tw8716120427605611371 tw8727321023445011275 tw8735263284916673568 tw8770205317985620760 tw8789358453043137523 tw8879563391730754479 tw8934143017859847078 tw8959176491354863721 tw8960069828448710407 tw8977307856219701671 tw9130167290188110802 tw9170477692918782315 tw922143313871775805 tw9244321171653502345 tw9277588360372424766 tw9345929723534960622 tw9386895884608548742 tw9421340871869096474 tw9427301549700849589 tw9430268157657104642 tw9533747618267967006 tw9557236495431379559 tw9641152695372364146 tw9657781627882305391 tw9673543361469618366 tw9719896912496429819 tw9741134391959003819 tw9748044761591592747 tw9763420282994701918 tw9908193460736022307 tw991583007596301734 tw9932287769889038123:Nat):Nat:=0
end Mine
open Mine.Internal in
set_option Elab.async true in
theorem Mine.hd:PySem.Challenge.rw_jb0048_01.Holds:=by
 w_on;o_law;o_head (kmHook hk.heap_1 [2,3,15,17,18,20,21,22,24,25,27,28,29,31,32,34,35,36,38,39,41,42,43,50,52,53,55,56,57,58,59,60,70,72,73,75,76,77,79,80,82,83,84,85,86,87,88,91,98,99,100,101,111,113,114,116,117,118,119,120,121,124,125,126,128,129,131,132,133,135,136,138,139,140,141,143,144,146,147,148,149,151,152,154,155,156,157,158,159,162,163,164,165,166,167,169,170,172,173,174,176,177,179,180,181,183,184,186,187,188,190,191,193,194,195,197,198,200,201,202,203,204,205,206,209,216,218,219,221,222,223,225,226,228,229,230,231,232,235,236,238,239,241,242,250,252,253,255,256,257,258,259,260,261,264,271,272,273,275,276,278,279,280,282,283,285,286,287,288,290,291,293,294,295,297,298,300,301,302,304,305,307,308,309,312,313,314,317,318,319,321,322,324,325,326,327,329,330,332,333,334,335,336,339,346,347,348,350,351,353,354,355,357,358,360,361,362,363,364,367,369,370,372,373,374,377,378,379,381,382,384,385,386,388,389,391,392,393,396,397,398,401,402,403,406,407,408,411,412] vy [16,23,30,37,51,71,78,112,122,127,134,142,150,160,168,175,182,189,196,217,224,237,251,274,281,289,296,303,310,315,320,328,349,356,368,375,380,387,394,399,404,409]);(case hw=>w_witness2);exact sB _ _ _ _ _ rfl
theorem PySem.Challenge.cw_jb0048_01_holds : PySem.Challenge.rw_jb0048_01.Holds := by
 exact Mine.hd
