import PyProof.Rows.All
import PyProof.RulesTry
import PyProof.Methods
import PyProof.AutoRange
import PyProof.MeetsStr
import PyProof.PlainList
import PyProof.MeetsDict
import PyProof.DictIter
import PyProof.DictItems
import PyProof.FactsAll.dict_valueiterator
import PyProof.DictValues
import PyProof.EnumFor
import PyProof.EqAt
import PyProof.EqKinds
import PyProof.NeKinds
import PyProof.StationsW
import PyProof.StrLawsIn
import PyProof.ListIndexNeg
import PyProof.Rows.SetObj
import PyProof.SliceMore
import PyProof.Rows.StrCountLaw
import PyProof.RulesAssignMore
import PyProof.Rows.SortShell
import PyProof.Rows.SortWalk
import PyProof.Rows.SortStr
import PyProof.SetRoads
import PyProof.Rows.SetFrom
import KE.KxPercentT
import Wide.FinOn
import OpenK.AllK
import Wide.All
import Lean
import PySem.Challenge.RW_ox0144_01
set_option maxRecDepth 100000
set_option maxHeartbeats 0
set_option Elab.async false
set_option linter.all false
set_option genInjectivity false
set_option genSizeOf false
set_option compiler.extract_closed false
set_option backward.match.sparseCases false
set_option backward.linearNoConfusionType false
set_option genCtorIdx false
set_option compiler.reuse false
set_option bootstrap.genMatcherCode false
namespace Mine
noncomputable section
open PySem renaming Str->U
open Array renaming length_toList->Ba,getElem?_toList->Bt,getElem?_eq_getElem->CR,findIdx?_eq_some_iff_getElem->Dr,empty_append->DX,size_append->Ga,size_setIfInBounds->Gf,any_toList->Gm,getElem?_eq_none->GG,toList_append->HC,ext'->Ir,toList_push->IS
open Bool renaming true->J,false->O,false_ne_true->A9,and_eq_true_iff->Bv,or_eq_true->D7,eq_false_iff->FW,eq_iff_iff->Jv
open Classical renaming byContradiction->CA,propDecidable->DT,not_not->IC,choose->I3,choose_spec->Kk
open Eq renaming trans->Ku
open Except renaming ok->DO,error->FG
open False renaming elim->BQ
open Function renaming comp->LK
open Inhabited renaming default->Bs
open Int renaming natCast_nonneg->BH,toNat_natCast->Ca,add_sub_cancel->Dm,not_lt->DE,add_assoc->D8,toNat_lt'->Et,natCast_add->EA,ofNat_le->EJ,add_comm->EK,add_zero->ES,negSucc->Fj,ofNat_lt->Gy,toNat_of_nonneg->Ht,lt_of_le_of_lt->Ig,sub_pos_of_lt->ID,le_trans->IE,le_antisymm->Jm,not_le->JC,add_nonneg->JD,ofNat_inj->JV,sub_sub->KP
open Int.ofNat renaming inj->Gb
open LawfulBEq renaming eq_of_beq->BX
open LawfulMonad renaming bind_assoc->K0
open List renaming mem_append_left->Ao,length_map->Ap,mem_append_right->Aq,mem_cons->Ar,mem_singleton->Au,mem_map_of_mem->Av,length_append->Ay,append_nil->Az,mem_append->AB,nodup_cons->AC,append_assoc->AD,map_append->AE,getElem?_map->AG,length_cons->AI,mem_map->AM,count_append->AQ,nodup_nil->AS,mem_flatten_of_mem->AT,casesOn->A8,getElem?_drop->Bb,cons->Bc,mem_of_getElem?->Br,nodup_append->Bu,not_mem_nil->BF,length_nil->BJ,count->BO,count_pos_iff->BR,append_of_mem->BS,drop_drop->BU,map_map->BW,count_cons->B4,getElem?_eq_getElem->Cc,length_singleton->Ci,nil->Ck,flatMap_cons->Cn,map_cons->Cv,eq_nil_iff_forall_not_mem->Cz,flatMap_append->CC,perm_append_comm->CG,count_nil->CJ,getD_eq_getElem?_getD->CQ,eq_nil_of_length_eq_zero->CX,count_eq_zero_of_not_mem->C4,exists_cons_of_length_eq_add_one->C9,filterMap_cons->Dd,filter_cons->Dk,count_singleton_self->Dv,getElem?_eq_some_iff->Dw,nil_append->Dy,forall_mem_cons->DC,count_le_length->DD,map_eq_nil_iff->DG,map_congr_left->DH,mem_flatMap->DJ,cons_append->DS,flatMap_singleton->D1,map->D6,getElem?_eq_none->D9,length->Eh,nodup_iff_count->Ek,perm_middle->El,flatten_append->Eo,length_reverse->Er,filter_cons_of_neg->EH,reverse_cons->ET,getElem?_toArray->EY,count_cons_of_ne->E8,map_flatten->Fe,any_eq_true->Ff,count_cons_self->Fp,head?_drop->Fv,mem_filter->Fx,zip_eq_zipWith->FA,toList_toArray->FD,getElem?_append_right->FO,find?_eq_none->FQ,exists_cons_of_ne_nil->FR,getElem?_eq_none_iff->FT,mem_of_find?_eq_some->FU,size_toArray->FZ,range'->F8,eraseIdx_cons_succ->Gn,pairwise_mergeSort->Gt,flatMap_map->Gw,filter_cons_of_pos->Gx,flatMap->GH,any_map->GL,of_mem_zip->GO,forIn_cons->GP,zip_append->GQ,take_append_drop->GW,length_filter_le->G1,map_id->Hf,filterMap->Hg,range'_append_1->Hi,map_eq_cons_iff->Hj,drop_eq_nil_iff->Hk,getLast?_concat->Hl,mem_of_mem_take->Ho,mergeSort_perm->HD,filter_sublist->HE,map_take->H4,map_drop->Ia,le_trans->Ic,map_inj_left->IG,flatten_cons->IT,flatten_nil->I7,length_take->I8,Perm->Jc,isEmpty_nil->Jd,map_reverse->Jf,mem_reverse->Ji,mem_range'->Jt,find?_some->Jw,nil_suffix->Jx,suffix_rfl->Jy,filter_nil->JA,le_total->J3,map_nil->Ki,filter->KO,range->KY
open List.IsSuffix renaming trans->FC
open List.Perm renaming append_left->GY,of_eq->Ln,trans->Lp,refl->LI
open List.Sublist renaming count_le->Ko,refl->Le
open List.cons renaming inj->DF,injEq->Lm
open Nat renaming le_trans->Ax,le_refl->AA,lt_of_le_of_lt->AV,not_lt->AX,le_of_eq->AY,zero_le->Bd,zero_add->Bh,sub_add_cancel->Bo,add_zero->Bp,le_succ_of_le->Bz,casesOn->BE,le_add_right->BG,le_add_left->BI,eq_zero_of_not_pos->BM,succ_le_succ->BY,lt_succ_self->B6,lt_succ_of_lt->B9,not_le_of_gt->Ce,le_of_ble_eq_true->Cf,eq_of_beq_eq_true->Cg,lt_irrefl->Cs,beq->CD,le_succ->CE,le_of_succ_le_succ->CO,mul_le_mul_right->CV,le_of_succ_le->C5,lt_trans->Dj,lt_of_lt_of_le->Dl,ble_eq_true_of_le->Ds,ne_of_gt->Dz,ne_of_lt->DA,add_comm->DB,add_le_add->DI,one_mul->DU,ble->DW,add_right_cancel->Eg,add_le_add_left->Em,mul_assoc->Es,add_assoc->Ew,lt_of_le_of_ne->EB,add_right_comm->ED,mul_comm->EI,succ_pos->EN,blt->Fg,add_le_add_right->Fo,le_antisymm->Fq,mul_le_mul_left->Fy,sub_self->FE,pos_of_ne_zero->FM,mul_add->FV,add_sub_cancel_left->Gq,add_mul->G3,sub_eq_of_eq_add->Hh,not_succ_le_zero->Hn,add_sub_cancel'->Hu,le_of_lt_succ->IF,mul_zero->IK,lt_of_succ_lt->IU,le_of_not_lt->IZ,one_le_of_lt->I0,not_lt_of_le->Jg,succ_ne_zero->Jh,mul_one->Jk,div_add_mod->Jl,mul_add_mod->Jo,mul_add_div->Jp,strongRecOn->Jz,beq_refl->Ka,le_of_lt->Kj,le_zero->Kr,one_pos->KL
open Nat.succ renaming inj->Cj
open Option renaming some->Y,none->As,map_eq_some_iff->Bj,map->CS,map_eq_none_iff->EM,bind_some->Fa,map_some->Js
open Option.some renaming inj->B3
open Prod renaming fst->IB,snd->KI
open Prod.mk renaming inj->DV,injEq->HM
open PyProof.Rows renaming entry_list_iadd'->Gr,listItems_at->GI,StrsAre->IP,setObjOf_fresh->JS,seqObj->JT,listUpdate_at->J2,sortedAll_old->J4,cnt_cons->Kl,count_is->Km
open PySem renaming wpAny_bind->Al,wpAny_pure->Aw,Value->AF,wpOwn_of_wpAny->AH,Shared->AJ,Params->AK,Addr->AL,model->AN,sizeLine->AO,wpOwn_bind->AR,World->AW,codeAny_builtin->AZ,wpAny->A0,codeAny->Be,wpAny_field->Bf,wpOwn_mono->Bk,wpOwn->Bq,wpAny_setField_rec->BA,Code->BC,codeAny_mono->BK,Result->BL,wpAny_mono->BN,wpAny_holding->BP,wpAny_dictEntries->B1,DictEntry->B5,wpAny_callSpecial?_slot->B7,rawInt->Co,wpAny_dictEpoch->Cw,wpAny_standAt->Cy,Around->CB,Heap->CF,markedBehindIn->CI,noteFrame->CL,execs->CM,wpAny_setField->CP,wpAny_call_entry->CT,wpAny_typeNameOfWhole_itemiter->CU,wpAny_typeNameOfWhole_keyiter->CY,wpAny_typeNameOfWhole_valiter->CZ,plainId->C8,wpAny_newObj_type->Db,entry_listiter_next->Df,Program->Dg,theTreesLotGoes->Dx,recursionLimit->DK,denote->DM,entryFor->DN,wpAny_seqItems->DQ,wpAny_fieldsOf->DR,importedModules->D2,setField->D3,letOwnedTupleGo->D5,Expr->Ea,wpAny_notOrdered_dict->Eb,table->Ei,slot_listiter_next->EG,Builtin->EL,wpAny_isOneOf_itemiter->EQ,wpAny_isOneOf_valiter->E0,wpAny_rule->E9,setFlight->Fb,gives_str_add->Fh,pyNext->Fu,treeTable->FJ,fromIndex->FL,wpAny_letGo->FY,dictGet->F4,wpAny_truthy_bool->F5,Stmt->Gc,isExactStrKey->Gd,wpAny_attempt->Gh,behindInMarks->Gk,wpAny_pyHash_str->Gl,wpAny_listSubscript_int->Go,raiseNew->Gp,enterFrame->Gz,callFunction->GA,wpAny_pendingKey_other->GC,forTurn->GD,field->GN,wpAny_isOneOf_keyiter->GV,wpAny_setAddHashed_of->G0,newFunctionEnv->G4,GenState->G5,mainGlobals->G6,wpAny_mkInt->G7,wpAny_point->G9,handleBy->Ha,wpAny_operateT->Hb,wpAny_updateDictKeys->Hc,wpAny_newTuple->Hd,wpAny_listPart->Hm,OsState->Hp,whileTurn->Hr,seqItems?->Hs,Args->Hw,meets_str_join_list->HB,ExceptHandler->HF,sysModules->Iq,wpAny_load->Iv,args_listiter_next->Iy,cStatics->IJ,pushEnvs->IN,gives_str_replace->IQ,wpAny_typeOf->IV,cLine->IW,strValues->I4,step->I6,wpAny_isInstance->Ja,Scope->Jj,wpAny_execs_nil->Jq,FuncData->JE,Thread->JF,wpAny_runValue->JP,newExc->JQ,isSubtype_stop->JR,importedNames->JW,slot_list_len->JZ,wpAny_newList->J1,entry_len->J7,Data->Kb,callSpecial?->Ke,Model->Kq,bindArgs->Ks,moduleNames->Kz,richCompare->KC,unsupported->KD,importEnds->KS,Flow->KW,typeIs_str->KX,callAny->K5,again->K6,Gives->La,leaving->Lb,standAt->Lc,dictSet->Ld,code->Lh,start->Ls,Drawn->Lu,Meets->LB,retInt->LC,assign->LD,setAdd->LH,IsPart->LJ,rule->LN
open PySem.Around renaming under_plainId->Bx
open PySem.AutoIntG4 renaming int___floordiv___int_int_1->Hy
open PySem.AutoIntG6 renaming int___mod___int_int_1->IY
open PySem.AutoListH renaming list_append_list_val_0->IR
open PySem.AutoSeq1 renaming list___iadd___list_list_0->Iw,list___add___list_list_0->IA,list_clear_list_0->JO
open PySem.Builtin renaming divisionGoesByPylong->Dc
open PySem.Builtin.Deque renaming state->KH
open PySem.Builtin.DequeIter renaming advance->EP,raw->J0
open PySem.Builtin.Dict renaming showsAll->EX,missed->Hz,pendingKey?->JY,takeOut->KG
open PySem.Builtin.Dict_items renaming ownedTupleIsFree->Ex,pairFromOwner->ER,newIterator->Jb,ownsTuple->Ju,dictOf->JU
open PySem.Builtin.Frozenset renaming oneOther->FP,addrOf->Gj,withSetAsKey->Je
open PySem.Builtin.List renaming listSubscript?->Ee,listItems->EO,listExtendWith->FI
open PySem.Builtin.SmallTypes renaming stopIteration->Gg,ownedTupleIsFree->Ie
open PySem.Builtin.Str renaming strSliceIndices->By,occurrences->Ej,tooLong->FF,glued->JK
open PySem.Challenge renaming rw_ox0144_01->Ft,pw_ox0144_01->Jn
open PySem.Code renaming block->JM,builtin->Kg,frames->KA,func->Ll
open PySem.Code.frames renaming match_1->KQ
open PySem.Data.dict renaming inj->LL
open PySem.EntryCells renaming newEntry->KR
open PySem.F renaming slot_dict_itemiterator_next->C0,slot_enumerate_next->Ec,entry_str_add->Ez,entry_dict_valueiterator_next->EU,args_dict_itemiterator_next_1->EV,entry_list_contains->EW,entry_dict_itemiterator_next->Fd,entry_list_getitem->Fk,entry_dict_keyiterator_next->Fn,entry_tuple_iterator_next->FH,args_enumerate_next_1->Gv,entry_enumerate_next->GK,entry_dict_contains->GS,entry_dict_getitem->G8,entry_str_replace->HA,entry_dict_get->I2,entry_str_join->I5,entry_list_add->I9,slot_str_len->JJ
open PySem.Fin renaming casesOn->IM
open PySem.Flow renaming cont->Lk,brk->LF
open PySem.Heap renaming lt_size->AP,get?_push_of_some->AU,get?_update_self->Bg,get?_push_size->BB,size_push->Cq,get?_update_other->Dh,SameBut->GB,ExtBut->KJ,get?->Lj
open PySem.Heap.SameBut renaming update->Bn
open PySem.MeetsSeq renaming list_contains->Kf
open PySem.Obj renaming mapFields->CN,mapSeq->DY
open PySem.Sem renaming pure->Bw,wp_bind'->B2,wp_mono->Cb,bind->CK,wp->Iu,casesOn->IL,unsupported->Jr,wp_onRaise->JL,load->Lq
open PySem.SeqAt renaming EqAt->GJ,list_containsAt->G2,RcAt->JN,RcNeAt->Kh
open PySem.SeqAt.EqAt renaming same->Fw,of_refs->Ix,str_str->Iz,of_in1->IX,tuple_str->KN
open PySem.SeqAt.RcAt renaming lists->Gu,lists_lengths->J5,tuples->Lg
open PySem.SeqAt.RcNeAt renaming lists->K3
open PySem.Shared renaming TypeIs->Ib
open PySem.Str renaming ofString->BV,append->Ik
open PySem.StrLaws renaming strSliceIndices_plain->GZ,occBody->JB,found_one->J8
open PySem.Value renaming ref->BZ,none->B8,isStrOf->Ey,type->EF,int->FK
open PySem.Value.ref renaming inj->LM
open PySem.W renaming SharedT->Ed,fencedOpening->HL,readsAllW_cons_inv->Ip,builtinNamed->IH,readsAllW_nil_inv->II,namesMeet->I1,namesBound->JG,staticsOk->J6,stepT->Kv,gensDone->Kw,laidKept->Kx,stepT_spec->KU,through->K7,opening->K8,topFrom->K9,stepOk->Lr
open PySem.W.BT renaming get_ins->JH,get_set->JI,get->Lz
open PySem.W.Fast renaming tw11113344188204177931->Eu,tw11892475500146522536->HG,tw14364793385576792824->HH,te11892475500146522536->HI,te14364793385576792824->HJ,te11113344188204177931->HK,tw12563942051412417395->HN,tw12362719219628433562->HO,tw15207555903498437823->HP,tw11471732733879165300->HQ,te12563942051412417395->HR,te12362719219628433562->HT,te15207555903498437823->HU,te11471732733879165300->HV,tw17772580674575903948->HW,te17772580674575903948->HX,tw14044960220447912780->HY,te14044960220447912780->H0,tw15418851999007992765->H1,te15418851999007992765->H3,tw2956504954644400088->Ih,tw9782568553167038054->Ii,tw6609576154772507232->Ij,te2956504954644400088->Il,te9782568553167038054->Im,te6609576154772507232->Io
open PySem.W.R renaming bindR->BD,bindR_eq->Cr
open PySem.W.WShape renaming hasAll->JX,has->KV
open PySem.W.WTm renaming value->Hq
open PySem.W.X renaming postC->CH,postE->C7,y_code->FN,y_pure->Kd,okMark->Ly,y_load->LA
open PySem.W.X.KT renaming get_node->FX,Holds->Ky
open PySem.W.X.KT.Holds renaming get->Kc
open PySem.W.X.KT.node renaming inj->LO
open PySem.W.ZFast renaming zw17772548960776305114->Hv,ze17772548960776305114->Hx
open PySem.World renaming withFollow_self->GU
open ToString renaming toString->CW
open PySem PySem.W PySem.W.X PySem.Calls PyProof.Rows PySem.Builtin.Str
section
universe u v w
@[elab_as_elim] theorem rwTo{α:Sort u}{a b:α}{motive:α->Prop}(h:a=b)(x:motive b):motive a:=h▸x
@[elab_as_elim] theorem rwFr{α:Sort u}{a b:α}{motive:α->Prop}(h:b=a)(x:motive b):motive a:=h▸x
@[elab_as_elim] theorem rwIf{a b:Prop}{motive:Prop->Prop}(h:a<->b)(x:motive b):motive a:=propext h▸x
@[elab_as_elim] theorem rwFi{a b:Prop}{motive:Prop->Prop}(h:b<->a)(x:motive b):motive a:=propext h▸x
def as2{α:Type}{M:Kq}{A:CB}{m n:PySem.Sem α}{Q:α->AJ->Prop}{E:AF->AJ->Prop}{s:AJ}(h:m=n)(k:A0 M A n Q E s):A0 M A m Q E s:=h▸k
def as3{α:Type}{M:Kq}{A:CB}{c:BC}{m n:PySem.Sem α}{Q:α->AJ->Prop}{E:AF->AJ->Prop}{s:AJ}(h:m=n)(k:Bq M A c n Q E s):Bq M A c m Q E s:=h▸k
variable{a b c d e G:Prop}
def toE1{p:α->Prop}(k:∀a,p a->G):(∃a,p a)->G:=λh=>Exists.elim h k
def toE2{p:α->β->Prop}(k:∀a b,p a b->G):(∃a b,p a b)->G:=toE1 λa=>toE1<|k a
def toE3{p:α->β->γ->Prop}(k:∀a b c,p a b c->G):(∃a b c,p a b c)->G:=toE1 λa=>toE2<|k a
def toA2(k:a->b->G):a/\b->G:=And.rec k
def toE1A2{p q:α->Prop}(k:∀a,p a->q a->G):(∃a,p a/\q a)->G:=toE1 λa=>toA2<|k a
def toA3(k:a->b->c->G):a/\b/\c->G:=toA2 λx=>toA2<|k x
def toA4(k:a->b->c->d->G):a/\b/\c/\d->G:=toA2 λx=>toA3<|k x
def toA5(k:a->b->c->d->e->G):a/\b/\c/\d/\e->G:=toA2 λx=>toA4<|k x
def toOr(k:a->G)(l:b->G):a\/b->G:=Or.rec k l
def aE{α:Type u}{a:α}{l:List α}:a∈a::l:=.head _
def ce{α:Type u}{a b:α}{l:List α}:b∈a::b::l:=.tail _ aE
def iW{α:Type u}{a b c:α}{l:List α}:c∈a::b::c::l:=.tail _ ce
def q9{α:Type u}{a b c d:α}{l:List α}:d∈a::b::c::d::l:=.tail _ iW
def vX{α:Type u}{a b c d e:α}{l:List α}:e∈a::b::c::d::e::l:=.tail _ q9
def noMem{α:Type u}{a:α}(h:a∈[]):G:=absurd h BF
end
def Z9:=@trivial
def Z8:=@congrArg
def Z7:=@if_neg
def Z0:=@if_pos
def ZZ:=@absurd
def ZY:=@beq_self_eq_true
def ZX:=@beq_false_of_ne
def ZW:=@congrFun
def ZV:=@decide_eq_true_eq
def ZU:=@decide_eq_false
def ZT:=@decide_eq_true
section
open Lean
def mqp(s:Syntax):List Char→Syntax
  | []=>s
  | c::r=>mqp s[c.toNat-48] r
def mqA(l r:List Syntax):List Syntax:=
  match r with
  | y::r=>y.setArgs (y.getArgs++l)::r
  | _=>[]
def mqC(x s:Syntax):List String→List Syntax→List Syntax
  | w::v,l=>
    let r:=w.toList.tail
    let t:=String.ofList r
    mqC x s v (match w.front with
    | '>'=>mqA [l.head!] l.tail
    | '<'=>.node .none t.toName #[]::l
    | c=>mqA (if c=='@' then (mqp s r).getArgs.toList else if c=='#' then x.getArgs.toList else [if c=='$' then mqp s r else if c=='`' then mkIdent t.toName else mkAtom w]) l)
  | _,l=>l
def mqV(s:Syntax):List String→Bool
  | w::l=>
    let y:=mqp s w.toList.tail
    (if w=="t2101" then y.isOfKind ``Parser.Term.tuple else y.getNumArgs+48==w.front.toNat)&&mqV s l
  | _=>true
def mqS(t:String):List String→String
  | k::v::l=>mqS (v.intercalate (t.splitOn k)) l
  | _=>t
def mqf(x s:Syntax):List String→Syntax
  | c::t::l=>if mqV s (c.splitOn " ") then (mqC x s ((mqS t ("O:!F: { R: ~app `toOr ¬ ~syntheticHole ? `inl > ~syntheticHole ? `inr > > > > ; C:inr > ¬ > > => T: P: $21002 :P > > > > ; C:inl > ¬ > > => T: P: $21000 :P > > > > } > >!Q:!R: ~app S: ~syntheticHole ? _ > : ¬ ~arrow ~hole _ > → ~hole _ > > > ) > ¬!N:!R: ~app `!:N!¬ ~app $1 ¬ ~ellipsis .. > > > ~syntheticHole ? _ > > > >!W:!{ ^rewriteSeq rewrite ^optConfig ¬ > > ^rwRuleSeq [ ¬ $ > ] > ¬ > > } > >!J:!^withReducible with_reducible T:!L:!^rcasesPatMed ¬ ^rcasesPat.!I:!^injection injection!D:!^induction induction ¬ ^elimTarget ¬ >!C:!^case' case' ^caseArg ^binderIdent `!P:!^rintro rintro ¬ ^rintroPat.one!:P!> > ¬ > >!S:!~typeAscription ~hygienicLParen ( <hygieneInfo ` > >!%!; ^cases cases ¬ ^elimTarget ¬ > `!&! > > ¬ > ¬ > >!R:!^refine refine!F:!^first first ¬!{!¬ | T:!T:!^tacticSeq ^tacticSeq1Indented ¬!}!> > > >!^!<Lean.Parser.Tactic.!~!<Lean.Parser.Term.!¬!<null".splitOn "!")).splitOn " ") [mkNullNode]).head![0] else mqf x s l
  | _=>.missing
def mqg(x s:Syntax)(t:String):Syntax:=mqf x s (t.splitOn "!")
def mqG(x s:Syntax)(t:String):MacroM Syntax:=
  let y:=mqg x s t
  if y.isMissing then Macro.throwUnsupported else pure y
def mqJ(c:String)(l:List Syntax):Syntax:=mkNullNode (l.intersperse (mkAtom c)).toArray
def mqm(f:Syntax→Syntax):List Syntax→List Syntax
  | a::l=>f a::mqm f l
  | _=>[]
def mqT(p:List Syntax):Syntax:=mqg .missing (mkNullNode #[mqJ "," p,p.head?.getD .missing]) "10 1100!P: $1000 :P!10!P: ^rcasesPat.paren ( $1 ) > :P!2!P: ^rcasesPat.tuple ⟨ ¬ @0 > ⟩ > :P"
def mqQ(l:List Syntax):List String→List Syntax
  | w::r=>
    let k:=w.front.toNat-48
    mqg (mkNullNode #[mkIdent (String.ofList w.toList.tail).toName]) (mkNullNode #[mqJ ";" (mqm (fun p=>mqT [p]) (l.take k)++[mqT (l.drop k)])]) "1!{ R: ~app # ¬ ~syntheticHole ? _ > > > > ; @0 }"::mqQ l r
  | _=>[]
def mqO(s:Syntax):Syntax:=
  let l:=s.getSepArgs.toList
  let z:=l.length.repr
  let y:=(l.length-1).repr
  mkNullNode #[mqg (mkNullNode (mqQ l ((y++"toA"++z++" "++y++"toB"++z++" 3toX2A2 1toX1 2toX2 3toX3 4toX4 5toX5 6toX6 3toE3 2toE2 2toE1A2 1toE1 1toB2 2toB3 3toB4 4toB5 5toB6 6toB7 1toA2 "++y++"toE"++z).splitOn " ")).toArray) .missing "0!F: # > >"]
def mqR(s:Syntax):Syntax:=mqJ ";" (mqm (fun r=>mqg .missing r "00!F: { N:toAnyM :N } { N:toOwnM :N } { J: N:Eq.trans :N > > > > } { N:rwTo :N } { N:rwIf :N } W:!2!F: { N:rwFr :N } { N:rwFi :N } W:") s.getSepArgs.toList)
def mqM(t:Syntax):List Syntax:=if t.isOfKind ``Parser.Term.tuple then t[1][0]::t[1][2].getSepArgs.toList else t[1].getSepArgs.toList
def mqL:Nat→Syntax→Syntax
  | 0,t=>t
  | n+1,t=>mkNullNode #[mqg (mqJ "," (mqm (fun t=>mqg (mqL n t) .missing "0!^rcasesPatLo # ¬ > >") (mqM t))) t "0!L:one $ > > >!1!L:ignore _ > > >!3!L:tuple ⟨ ¬ # > ⟩ > > >"]
end
local macro_rules (kind:=«term-_»)
  | s=>mqG .missing s "01!<«term_+_» $1 + <num 902 > >!21!<«term_+_» $1 + <num 902 > >!31!<«term_+_» $1 + <num 902 > >"
local macro_rules (kind:=Lean.Parser.Tactic.rwSeq)
  | s=>mqG (mqR s[2][1]) s "03 121 02100 t2101!R: ~anonymousCtor ⟨ ¬ $210110 , @210112 > ⟩ > >!03 121 02100!R: $2101 >!03!F: { # ; J: F: { ^tacticRfl rfl > } { ^skip skip > } > > > > > > } > >"
local macro_rules (kind:=Lean.Parser.Tactic.cases)
  | s=>mqG .missing s "03 02 11 0100 0101!F: { ^subst subst ¬ S: $101 : ¬ <«term_=_» ~hole _ > = ~hole _ > > > ) > > > } { I: $101 ¬ > > ; ^done done > } { I: $101 ¬ with ¬ `a `b `c `d > > > %a& %b& %c& %d& } { I: $101 ¬ with ¬ `a `b `c > > > %a& %b& %c& } { I: $101 ¬ with ¬ `a `b > > > %a& %b& } { I: $101 ¬ with ¬ `a > > > %a& } > >!11 0100 0101!D: $101 > > $2 ¬ > $3 >!11 0100 1101!F: { ^intro intro ¬ `q > > ; D: `q > > $2 ¬ > $3 > } > >"
local macro_rules (kind:=Lean.Parser.Term.nomatch)
  | s=>mqG .missing s "11 010!~byTactic by T: F: { ^exact exact ~app `noMem ¬ $10 > > > } { I: $10 ¬ > > ; ^done done > } { ^cases cases ¬ ^elimTarget ¬ > $10 > > ¬ > ¬ > > } > > > > > >"
local macro_rules (kind:=Lean.Parser.Tactic.show)
  | s=>mqG .missing s "2!R: S: ~syntheticHole ? _ > : ¬ $1 > ) > >"
local macro_rules (kind:=Lean.Parser.Tactic.rintro)
  | s=>mqG (mqO s[1][0][0][1]) s "11 02 3100!#"
local macro_rules (kind:=Lean.Parser.Tactic.obtain)
  | s=>mqG (mqO s[1][0][0][0][1]) s "02 1100 31000 131 0310!F: { ^revert revert ¬ $310 > > ; # } { Q: $310 > > > ; # } > >!02 1100 31000 131!F: { Q: $310 > > > ; # } > >"
local macro_rules (kind:=Lean.Parser.Tactic.rcases)
  | s=>mqG .missing s "11 0100 0211 32100 0101!F: { ^revert revert ¬ $101 > > ; O: } { Q: $101 > > > ; O: } > >!11 0100 0211 32100!F: { Q: $101 > > > ; O: } > >"
local macro_rules (kind:=Lean.Parser.Tactic.tacticLet__)
  | s=>mqG (mqL 9 s[2][0][0]) s "3200!^obtain obtain ¬ # > ¬ > ¬ := ¬ $204 > > >!3!^tacticHave__ have $1 $2 >"
local macro_rules (kind:=«term!_»)
  | s=>mqG .missing s "2!~app `List ¬ $1 > >"
namespace Li
inductive Tm where
 |a (i:Nat)
 |k (n:Nat)
 |p (s t:Tm)
 |m (n:Nat) (t:Tm)
 |r (t:Tm) (n:Nat)
noncomputable def Tm.ev(c:!Nat):Tm->Nat
 |.a i=>c.getD i 0
 |.k n=>n
 |.p s t=>s.ev c+t.ev c
 |.m n t=>n*t.ev c
 |.r t n=>t.ev c*n
noncomputable def Tm.cf(j:Nat):Tm->Nat
 |.a i=>(CD j<|i+1).toNat
 |.k n=>(CD j 0).toNat*n
 |.p s t=>s.cf j+t.cf j
 |.m n t=>n*t.cf j
 |.r t n=>t.cf j*n
noncomputable def sm(f:Nat->Nat):Nat->Nat
 |0=>0
 |n+1=>sm f n+f n
noncomputable def vl(c:!Nat):Nat->Nat
 |0=>1
 |j+1=>c.getD j 0
def ai7 f g:∀n,sm (λj=>f j+g j) n=sm f n+sm g n:=by
 cases _ with
 |zero=>rw[rfl]
 |succ n i=>rw[(Z8 (·+_)<|i).trans (Nat.add_add_add_comm ..)]
def ado m f:∀n,sm (λj=>m*f j) n=m*sm f n:=by
 cases _ with
 |zero=>rw[rfl]
 |succ n i=>rw[(Z8 (·+_)<|i).trans (FV ..).symm]
def rx{k n:Nat}(h:¬k<n):Fg k n=O:=FW.mpr λe=>h<|Cf e
theorem op(f:Nat->Nat)(k:Nat):∀n,sm (λj=>(CD j k).toNat*f j) n=bif Fg k n then f k else 0
 |0=>rfl
 |n+1=>by
  show sm _ n+(CD n k).toNat*f n=_;rw[op f k n,];rcases Nat.lt_trichotomy k n with h|h|h
  .let e:=FW.mpr λe=>Dz h<|Cg e
   let b:Fg k n=J:=Ds h;let E:Fg k (n+1)=J:=Ds<|B9 h;rw[e,b,E];simp
  .subst h;let E:Fg k (k+1)=J:=Ds<|AA _;let c:=Ka k;rw[rx<|Cs k,E,c];simp
  .let e:=FW.mpr λe=>DA h<|Cg e
   rw[e,rx<|Nat.lt_asymm h,rx<|AX.mpr h];simp
theorem Tm.ev_is(c:!Nat):∀t:Tm,t.ev c=sm (λj=>t.cf j*vl c j) (c.length+1)
 |.a i=>by
  rw[((op (vl c) (i+1) _).trans ?_).symm];show cond (Fg (i+1)<|c.length+1) (c.getD i 0) 0=c.getD i 0;cases h:Fg (i+1) (c.length+1)
  .let h:=AX.mp λg=>by rw[show Fg (i+1) (c.length+1)=J from Ds<|BY g]at h;cases h
   show 0=(c[i]?).getD 0;rw[D9 h,];rfl
  .rfl
 |.k n=>by rw[((op (λQ=>n) 0<|c.length+1).symm.trans ?_:n=_)];congr 1;funext j;induction j<;>simp[Tm.cf,vl,CD]
 |.p s t=>by show s.ev c+t.ev c=_;rw[ev_is c s,ev_is c t,<-ai7];congr 1;funext j;rw[(G3 ..).symm]
 |.m n t=>by show n*t.ev c=_;rw[ev_is c t,<-ado];congr 1;funext j;rw[(Es ..).symm]
 |.r t n=>by show t.ev c*n=_;rw[ev_is c t,EI,<-ado];congr 1;funext j;show n*_=t.cf j*n*_;rw[EI (t.cf j) n,Es]
noncomputable def yJ(s t:Tm):Nat->Bool
 |0=>J
 |n+1=>DW (s.cf n) (t.cf n)&&yJ s t n
def alQ{s t:Tm}(f:Nat->Nat):∀{n},yJ s t n=J->sm (λj=>s.cf j*f j) n<=sm (λj=>t.cf j*f j) n:=by
 cases _ with
 |zero=>intro _;rw[AA _]
 |succ n i=>intro h;rw[DI (i (Bv.mp h).2)<|CV _<|Cf (Bv.mp h).1]
def rl(a b:Nat):Nat->Prop
 |0=>a<=b
 |1=>a<b
 |2=>a=b
 |3=>¬a<=b
 |4=>¬a<b
 |5=>¬a=b
 |_=>False
def rz(a b:Nat):Nat->Prop
 |0=>(a:Int)<=b
 |1=>(a:Int)<b
 |2=>(a:Int)=b
 |3=>¬(a:Int)<=b
 |4=>¬(a:Int)<b
 |5=>¬(a:Int)=b
 |_=>False
def alR{a b:Nat}:∀r,rz a b r=rl a b r
 |0=>propext EJ
 |1=>propext Gy
 |2=>propext JV
 |3=>Z8 Not<|propext EJ
 |4=>Z8 Not<|propext Gy
 |5=>Z8 Not<|propext JV
 |_+6=>rfl
structure Fc where
 r:Nat
 s:Tm
 t:Tm
 z:Bool:=O
def Fc.e0(c:!Nat)(f:Fc):Prop:=rl (f.s.ev c) (f.t.ev c) f.r
def Fc.ev(c:!Nat)(f:Fc):Prop:=match f.z with
 |false=>f.e0 c
 |true=>rz (f.s.ev c) (f.t.ev c) f.r
def Fc.ev_is{c:!Nat}(f:Fc):f.ev c=f.e0 c:=by
 let(r,s,t,z):=f;cases z
 .rfl
 .rw[alR r]
noncomputable def Fc.iq(f:Fc):List<|Tm×Tm:=match f.r with
 |0=>[(f.s,f.t)]
 |1=>[(.p f.s<|.k 1,f.t)]
 |2=>[(f.s,f.t),(f.t,f.s)]
 |3=>[(.p f.t<|.k 1,f.s)]
 |4=>[(f.t,f.s)]
 |_=>[]
def six{motive:Nat->Prop} n (a:motive 0)(b:motive 1)(c:motive 2)(d:motive 3)(e:motive 4)(f:motive 5)(g:∀n,motive (n+6)):motive n:=Nat.rec a (λn Q=>Nat.rec b (λn Q=>Nat.rec c (λn Q=>Nat.rec d (λn Q=>Nat.rec e (λn Q=>Nat.rec f (λn Q=>g n) n) n) n) n) n) n
def Fc.iq_ok{c:!Nat}{f:Fc}(h:f.e0 c):∀q∈f.iq,q.1.ev c<=q.2.ev c:=by
 let(r,s,t,z):=f;let fS:∀{q x:Tm×Tm},q∈[x]->x.1.ev c<=x.2.ev c->q.1.ev c<=q.2.ev c:=λm e=>Au.mp m▸e
 rw[six (motive:=λr=>(⟨r,s,t,z⟩:Fc).e0 c->∀q∈(⟨r,s,t,z⟩:Fc).iq,q.1.ev c<=q.2.ev c) r (λh q m=>fS m h) (λh q m=>fS m h) (λh q m=>(Ar.mp m).elim (λe=>e▸AY h) λm=>fS m<|AY<|Eq.symm h) (λh q m=>fS m<|Nat.gt_of_not_le h) (λh q m=>fS m<|IZ h) (λQ Q m=>nomatch m) (λQ Q Q m=>nomatch m) h]
noncomputable def wi(f:Tm×Tm->Tm):!(Tm×Tm)->!Nat->Tm
 |q::l,m::M=>.p (.m m<|f q)<|wi f l M
 |_,_=>.k 0
def ai8{c:!Nat}:∀{l M},(∀q∈l,Tm.ev c (IB q)<=q.2.ev c)->(wi (·.1) l M).ev c<=(wi (·.2) l M).ev c:=by
 cases _ with
 |nil=>intro _ _;rw[AA _]
 |cons _ _ i=>
  cases _ using A8 with
  |nil=>intro _;rw[AA _]
  |cons _ _=>intro h;rw[DI (Fy _<|h _<|.head _)<|i λq m=>h q<|.tail _ m]
noncomputable def yK(n:Nat)(l:List<|Tm×Tm)(M:!Nat):Bool:=yJ (.p (wi (·.2) l M)<|.k 1) (wi (·.1) l M) n
def ai9{c:!Nat}{l M}(b:yK (c.length+1) l M=J)(h:∀q∈l,Tm.ev c (IB q)<=q.2.ev c):False:=by let e:=alQ (vl c) b;rw[<-Tm.ev_is,<-Tm.ev_is]at e;rw[Cs _<|Dl e<|ai8 h]
noncomputable def yL(g:Fc):!Fc:=match g.r with
 |0=>[{g with r:=3}]
 |1=>[{g with r:=4}]
 |2=>[{g with r:=1},⟨1,g.t,g.s,g.z⟩]
 |3=>[{g with r:=0}]
 |4=>[{g with r:=1}]
 |5=>[{g with r:=2}]
 |_=>[⟨0,.k 0,.k 0,O⟩]
def aja{c:!Nat}{g:Fc}(h:∀f∈yL g,¬f.e0 c):g.e0 c:=by let(r,s,t,z):=g;rw[six (motive:=λr=>(∀f∈yL ⟨r,s,t,z⟩,¬f.e0 c)->(⟨r,s,t,z⟩:Fc).e0 c) r (λh=>IC.mp<|h _<|.head _) (λh=>IC.mp<|h _<|.head _) (λh=>Fq (AX.mp<|h _<|.tail _<|.head _)<|AX.mp<|h _<|.head _) (λh=>h _<|.head _) (λh=>h _<|.head _) (λh=>h _<|.head _) (λQ h=>h _ (.head _)<|AA _) h]
noncomputable def yM(n:Nat)(h:!Fc):!Fc->!(!Nat)->Bool
 |[],_=>J
 |f::b,m::M=>yK n (f.iq++h.flatMap Fc.iq) m&&yM n h b M
 |_,_=>O
theorem adp{c:!Nat}{H:!Fc}:∀{fs d},yM (c.length+1) H fs d=J->(∀h∈H,h.e0 c)->∀f∈fs,¬f.e0 c
 |[],_,_,_=>λQ m=>nomatch m
 |f::fs,m::d,e,k=>λq M x=>(Ar.mp M).elim (λE=>by
  subst E;rw[ai9 (Bv.mp e).1 λp b=>(AB.mp b).elim (Fc.iq_ok x p) λb=>?_]
  let(h,i,j):=DJ.mp b
  rw[Fc.iq_ok (k h i) p j]) λM=>adp (Bv.mp e).2 k q M x
def yN(c:!Nat)(g:Fc):!Fc->Prop
 |[]=>g.ev c
 |h::H=>h.ev c->yN c g H
def ajb{c:!Nat}{g:Fc}:∀{H:!Fc},((∀h∈H,h.e0 c)->g.e0 c)->yN c g H:=by
 cases _ with
 |nil=>intro k;rw[(Fc.ev_is g).mpr (k λw m=>nomatch m)]
 |cons f _ i=>intro k;rw[λx=>i λa=>k λq m=>(Ar.mp m).elim (λe=>e▸(Fc.ev_is f).mp x)<|a q]
noncomputable def ny(n:Nat):Nat:=16^(n%16+n%16/15)
noncomputable def tk:Nat->Nat->Tm×Nat
 |0,n=>(.k 0,n)
 |f+1,n=>match n%16 with
  |0=>match tk f (n/16)with
   |(s,n)=>match tk f n with
    |(t,n)=>(.p s t,n)
  |1=>(.k<|n/256%ny (n/16),n/256/ny (n/16))
  |2=>match tk f (n/256/ny (n/16))with
   |(t,m)=>(.m (n/256%ny (n/16)) t,m)
  |3=>match tk f (n/256/ny (n/16))with
   |(t,m)=>(.r t<|n/256%ny (n/16),m)
  |15=>(.a<|11+n/16%16,n/256)
  |i+4=>(.a i,n/16)
def fk(n:Nat):Fc×Nat:=match tk 20 (n/16)with
 |(s,m)=>match tk 20 m with
  |(t,m)=>(⟨n%16%8,s,t,Fg 7<|n%16⟩,m)
noncomputable def fks:Nat->Nat->!Fc×Nat
 |0,n=>([],n)
 |k+1,n=>match fk n with
  |(f,m)=>match fks k m with
   |(l,m)=>(f::l,m)
noncomputable def nks:Nat->Nat->!Nat
 |0,_=>[]
 |k+1,n=>n/16%ny n::nks k (n/16/ny n)
noncomputable def spl(k:Nat):Nat->!Nat->!!Nat
 |0,_=>[]
 |n+1,l=>l.take k::spl k n (l.drop k)
structure Pb where
 hs:!Fc
 g:Fc
 ms:List<|!Nat
def pk(n:Nat):Pb:=match fks (n%16) (n/16)with
 |(h,m)=>match fk m with
  |(g,m)=>⟨h,g,spl ((h.flatMap Fc.iq).length+(CD g.r 5).toNat+1) 2<|nks 20 m⟩
def Pb.st(p:Pb)(c:!Nat):Prop:=match yM (c.length+1) p.hs (yL p.g) p.ms with
 |true=>yN c p.g p.hs
 |false=>True
def ln c n:(pk n).st c:=by
 unfold Pb.st;split
 .rename_i e;rw[ajb λh=>aja<|adp e h]
 .trivial
end Li
def aD(c:!Nat) n {P:Prop}(e:(Li.pk n).st c=P:=by kernel_rfl):P:=e▸Li.ln c n
def om1{a:Nat}:¬a<=63->63<(a:Int):=aD [a] 0x111143f2193f21431
def om2{a b:Nat}:a=b->b<=63->a<=63:=aD [a,b] 0x11011113f21403f21505422
def om3{a b c:Nat}:a<b+1+c->a<b+(c+1):=aD [a,b,c] 0x11111116050416111500411
def om4{a b:Nat}:a<0+b->a<b:=aD [a,b] 4804127431394321
def om5{a b:Nat}:a+1<=b->¬b=a:=aD [a,b] 0x1101145551114001
def om6{a:Nat}:1<=a->¬a=0:=aD [a] 76579890819830017
def om7{a:Nat}:a%2=1->a=2*(a/2)+1:=λh=>(Jl a 2).symm.trans<|Z8 (2*(a/2)+·) h
def om8{a b c:Nat}:2*a*b+(a+c)=2*a*b+a+c:=aD [a,b,c,2*a*b] 0x1111647006407020
def om9{a:Nat}:¬a=0->¬a%2=1->a=2*(a/2-1)+2:=λh k=>by let e:=Jl a 2;rw[Nat.mod_two_ne_one.mp k]at e;cases H:a/2 with|zero=>(rw[H]at e;rw[ZZ e.symm h])|succ q=>(rw[H]at e;rw[e.symm])
def alS{a b c:Nat}:2*a*b+(2*a+c)=2*a*b+2*a+c:=aD [a,b,c,2*a*b] 0x1111642127006421207020
def to{a b:Nat}:a<2^20->b=a->b<=16777216:=aD [a,b] 0x1111111000000715045210000061412
def as4{a b c d e:Nat}:a<=b+c->d<=e->a+d<=b+(c+e):=aD [a,b,c,d,e] 0x111111860507400870650402
def as5{a b c d e:Nat}:a=b+1->c<=d+5*b->e<=5->c+e<=d+5*a:=aD [a,b,c,d,e] 0x1111510114512708600511805512706011150423
def as6{a b c:Nat}:a<=b+5*c->c<=21->b+400<1000+220->a+70<1000:=aD [a,b,c] 0x115111113e8314621401dc213e831019031501152160651250403
def as7{a:Nat}:a+70<1000->a+5<1000:=aD [a] 0x11113e8315114013e83146214011
def as8{a b:Nat}:a+70<1000->b<=5->a+b<1000:=aD [a,b] 0x1111113e8315401511503e83146214012
def as9{a b c d e:Nat}:a=b+1->c<=d+10*b->e<=10->c+e<=d+10*a:=aD [a,b,c,d,e] 0x1111a10114a12708600a11805a12706011150423
def ata{a:Nat}:902<=a->a+1-902+902=a+1:=λh=>Bo<|Bz h
def avM{a:Nat}:a<=a+1-902+902:=C5<|Nat.sub_le_iff_le_add.mp<|AA _
def avN{a:Int}:0<a->¬a<=0:=JC.mpr
def avO{a b c:Nat}:a=b->c=a+2->b<=c:=aD [a,b,c] 0x1101101165021140625422
def atb{a b:Nat}:a<=16777216->b=a->b<=16777216:=aD [a,b] 0x11111110000007150452100000071402
def atc{a:Nat}:a<=100000->a<=16777216:=aD [a] 0x111110000007140186a051401
def atd{a b:Nat}:a<=100000->b=a->b<=16777216:=aD [a,b] 0x11111110000007150452186a051402
def ate{a b:Nat}:a<2^63->b=a->¬(b:Int)>=2^63:=aD [a,b] 0x11111158000000000000000f1b4528000000000000000f1412
def atf{a b c:Nat}:a=b->b=c+1->¬a=0:=aD [a,b,c] 0x110110011014511160525422
def atg{a b c:Nat}:a<2^20->b=a->c<=b->c<=16777216+1:=aD [a,b,c] 0x11011111111110000007106056045210000061413
def avP:0+1+1+1+1<=16777216+2:=aD [] 0x11211100000071011111111111101000000
def avQ:0+1<=16777216+2:=aD [] 0x11211100000071011101000
def avR{a b c:Nat}:a=b->c<b->c<a:=aD [a,b,c] 0x11110114615615422
def ath{a b c d:Nat}:a<=b+c->d+a<=b+(d+c):=aD [a,b,c,d] 0x1111670504700650401
def alT{a b c d e:Nat}:a+b=c->d+c=e->d+a+b=e:=aD [a,b,c,d,e] 0x110111111011011854700286702654022
def ati{a b c d e:Nat}:a<=b+(c+(d+e))->e=0->a<=d+b+c:=aD [a,b,c,d,e] 0x111111657004001828706050402
def atj{a b c d e:Nat}:a<=b+c->c<=d+e->a<=d+b+e:=aD [a,b,c,d,e] 0x111111857004087060650402
def atk{a b c d e f:Nat}:a+b=c+d->e+c=f->e+a+b=f+d:=aD [a,b,c,d,e,f] 0x1101111110110117905480029680276054022
def atl{a b c d e f:Nat}:a+b=c+d->e=f->e+a+b=c+(f+d):=aD [a,b,c,d,e,f] 0x1101111110110117906054800298276054022
def atm{a b c d e f:Nat}:a<=b+c->d+b=e+f->d+a<=e+(f+c):=aD [a,b,c,d,e,f] 0x1111116908047009805702650402
def atn{a b c d e:Nat}:a=b->c<=d+e->d<=1->b+e=0->a+c<=1:=aD [a,b,c,d,e] 0x11111101111111640001850211170870605424
def ato{a b c d e:Nat}:a=b->c<=d+e->b+e<=1->d=0->a+c<=1:=aD [a,b,c,d,e] 0x11111101111111640001721118500870605424
def uF{a b c d:Nat}:a+b<=1->a=c+d->0<c->0<d->False:=aD [a,b,c,d] 0x111111011001016701160117604211154004
def atp{a b c d:Nat}:a<=b+610->c+611<=d+1->b<=c+1->a<=d+1:=aD [a,b,c,d] 0x111111111117040111605011170263316002623150403
def atq{a b c:Nat}:a=b->b<=1->c=0->a+c<=1:=aD [a,b,c] 0x11110111111164000162111505423
def atr{a b c:Nat}:a+b<=1->c=0->c+a<=1:=aD [a,b,c] 0x1111111114600016211154002
def ats{a b c d e:Nat}:a+b<=c->d<=e+a->e+c<1220->d+b<1220:=aD [a,b,c,d,e] 0x111111114c43157014c431680148070654003
def att{a b c:Nat}:a<=b+10*c->c<=21->a<=b+610:=aD [a,b,c] 0xa111112623150401521606a1250402
def atu{a b c d:Nat}:a+b<=1->a=c+d->c+(d+b)<=1:=aD [a,b,c,d] 0x11011111115706007604211154002
def atv{a b c:Nat}:a+(b+c)<=1->b<=1:=aD [a,b,c] 0x1111111501116504001
def alU{a b:Nat}:a+b<=1->0<a->0<b->False:=aD [a,b] 0x1111110010165011401111154003
def atw{a b c:Nat}:a+(b+c)<=1->0<c->0<a->False:=aD [a,b,c] 0x111111001016401160111116504003
def atx{a b c:Nat}:a+(b+c)<=1->0<c->0<b->False:=aD [a,b,c] 0x111111001016501160111116504003
def aty{a b c d e:Nat}:a<=b+c->d+(e+b)<=1->c=0->a<=1:=aD [a,b,c,d,e] 0x11111111111400162111580700650403
def atz{a b c d:Nat}:a<=b+c->d+c<=1->b=0->a<=1:=aD [a,b,c,d] 0x111111111114001521116700650403
def atA{a b:Nat}:a+b<=1->a<=1:=aD [a,b] 0x11111114011154001
def atB{a b c:Nat}:400<=a->b+c<1220->a<=c->b+400<1220:=aD [a,b,c] 0x111111114c431190315016404c431650141903103
def atC{a b:Nat}:a+b<=1->b<=1:=aD [a,b] 0x11111115011154001
def atD{a b c:Nat}:a+b<=c->c<=1->a<=1:=aD [a,b,c] 0x1111111114011160654002
def atE{a b c:Nat}:0<a->0<b->a+b<=c->c<=1->False:=aD [a,b,c] 0x111111110010161116065400501140114
def atF{a b c:Nat}:a+b<=c->c<=1->b<=1:=aD [a,b,c] 0x1111111115011160654002
def atG{a b c:Nat}:a<=b+c->b=0->c<=1->a<=1:=aD [a,b,c] 0x11011111111140111600152650403
def atH{a b c:Nat}:a<=b+c->b<=1->c=0->a<=1:=aD [a,b,c] 0x1111111111140016211150650403
def atI{a b c d:Nat}:a+b+(c+d)=a+c+b+d:=aD [a,b,c,d] 0x11117564000760540020
def atJ{a b c:Nat}:0<a->b+1+c+a<=1->False:=aD [a,b,c] 0x1111001016111461115000040112
def atK{a b c:Nat}:0<a->1+b+c+a<=1->False:=aD [a,b,c] 0x1111001016111465111000040112
def atL{a b c d e f:Nat}:a+b+c+(d+(e+f))<=1->a+d+(b+(c+e))+f<=1:=aD [a,b,c,d,e,f] 0x11111119860507400001119807065400001
def atM{a b c d e f:Nat}:a+b+(c+(d+e))+f<=1->a+c+d+(b+(e+f))<=1:=aD [a,b,c,d,e,f] 0x11111119805076400001119870605400001
def atN{a b c:Nat}:a≠b->-c=-b->-a≠-c:=λh e k=>h<|Eg<|k.trans e
def atO{a b c:Nat}:-a=-b->b≠c->-c≠-a:=λe h k=>h<|Eg<|e.symm.trans k.symm
def atP{a b:Nat}:a+1+1+b<=1->False:=aD [a,b] 0x110010161115111111400001
def atQ{a:Nat}:a=11->3<a:=aD [a] 0x1101143111b11421
def atR{a b c d:Nat}:a+b+c+d<=1->a+b+d<=1:=aD [a,b,c,d] 0x1111111754000111765400001
def atU{a b c:Nat}:a+b+1+c<=1->0<c->False:=aD [a,b,c] 0x1111001016601111161115400002
def atV{a b:Nat}:1+a+1+b<=1->False:=aD [a,b] 0x110010161115111411100001
def atW{a b c d e:Nat}:a+b+(c+d)+e<=1->a+c+(b+(d+e))<=1:=aD [a,b,c,d,e] 0x1111111870506400011187605400001
def atX{a:Nat}:1+1+a<=1->False:=aD [a] 0x1100101611141111110001
def atY{a b:Nat}:a+1+b<=1->0<b->False:=aD [a,b] 0x11110010165011111511140002
def atZ{a b c d e f g h:Nat}:a+b+c=d+b+e+f->a+(b+g+h)+c=d+(b+g+h)+e+f:=aD [a,b,c,d,e,f,g,h] 0x11111101198ba50070006ba500400298570006540021
def at0{a b:Nat}:0<a->0<b->a+b<=1->False:=aD [a,b] 0x1111110010161115400501140113
def at1{a b c:Nat}:a=0->b+c<=1->a+c<=1:=aD [a,b,c] 0x11011111116400111650001422
def at2{a b:Nat}:a<=1->b=0->a+b<=1:=aD [a,b] 0x11111111154000152111402
def at3{a b c d:Nat}:a<=1->b+1<=c->d+c<1220->d+a+b<1220:=aD [a,b,c,d] 0x111111114c4315470014c43167016111500111403
def at4{a:Nat}:(a:Int)<2^63->¬(a:Int)>=2^63:=aD [a] 0x111148000000000000000f1b8000000000000000f1491
def alV{a:Nat}:a<1000->a<2^63:=aD [a] 0x11118000000000000000f1413e831411
def at5{a:Nat}:a<1000->a<=100000:=aD [a] 0x1111186a051403e831411
def rA{a:Nat}:a<1000->a<2^20:=aD [a] 0x111110000061413e831411
def at6{a b:Nat}:a<2^20->a-b+(0+1)<=16777216:=λh=>Ax (BY<|Nat.sub_le a b)<|Ax h (by decide)
def tp{a b:Nat}:a+1+b=a+(b+1):=aD [a,b] 0x11111115040511140020
def nA{a b:Nat}:a+(b+1)<2^20->a+b<2^20:=aD [a,b] 0x111110000061540110000061111504011
def lE{a b:Nat}:a+(b+1)<2^20->a<2^20:=aD [a,b] 0x1111100000614110000061111504011
def lF{a b:Nat}:a+(b+1)<2^20->a+1+b<2^20:=aD [a,b] 0x1111100000615111400110000061111504011
def at7{a:Nat}:a<2^20->a<2^63:=aD [a] 0x11118000000000000000f14110000061411
def at8{a:Nat}:0<a->a=a-1+1:=λh=>(Bo h).symm
def alW{a:Nat}:-a=1->False:=aD [a] 0x11001016111386314021
def rB{a:Nat}:a<=5->a<2^20:=aD [a] 0x11111000006141511401
def alX{a b:Nat}:a+(b+1)<1000->a+b<1000:=aD [a,b] 0x11113e83154013e831111504011
def alY{a b:Nat}:a+(b+1)<1000->a<2^20:=aD [a,b] 0x111110000061413e831111504011
def ahE{a b:Nat}:a+(b+1)<1000->a+1+b<1000:=aD [a,b] 0x11113e831511140013e831111504011
def alZ{a:Nat}:a<=16777216->0+a<=16777216+1:=aD [a] 0x1111111100000071040100100000071401
def avE{a:Nat}:a<64->a<=16777216:=aD [a] 0x1111100000071404021411
def al0{a b:Nat}:a<64->b=a->b<64:=aD [a,b] 0x1111114021514524021412
def al1{a:Nat}:a<2^20->a<=16777216:=aD [a] 0x11111000000714010000061411
def al2{a b:Nat}:a<2^20->b=a->0+b<=16777216+1:=aD [a,b] 0x11111111110000007105010045210000061412
def ahF{a b:Nat}:a<b->0<(b:Int):=aD [a,b] 18766055953425
def al3{a b:Nat}:a<b->(b:Int)-1=((b-1:Nat):Int):=λh=>(Int.ofNat_sub<|I0 h).symm
def al4{a:Nat}:a<=5->a<1000:=aD [a] 0x11113e83141511401
def al5{a:Nat}:a<=5->a<64:=aD [a] 0x1111402141511401
def al6{a b:Nat}:a+b<1000->a<2^20:=aD [a,b] 0x111110000061413e83154011
def al7{a b:Nat}:a+1<b->a<b-1:=Nat.lt_sub_of_add_lt
def al8{a:Nat}:a+720<1220->a+714<1220:=aD [a] 0x11114c4312ca314014c4312d0314011
def ahG{a:Nat}:a+720<1220->a+510<1220:=aD [a] 0x11114c4311fe314014c4312d0314011
def al9{a:Nat}:a<9->0+a<1000:=aD [a] 0x11113e83140101911411
def ama{a:Nat}:a+720<1220->a+610<1220:=aD [a] 0x11114c431262314014c4312d0314011
def amb{a b c:Nat}:a+2*b<=100->c<=a+1->c<2^20:=aD [a,b,c] 0x11111110000061611114060642152124002
def amc{a b:Nat}:a+2*(b+1)<=100->a+2+2*b<=100:=aD [a,b] 0x11116421521221140006421111502124001
def amd{a:Nat}:a<=2->92+2*a<=100:=aD [a] 0x2111642142125c2100211401
def ame{a:Nat}:a<2^20->0+a<=16777216+1:=aD [a] 0x111111110000007104010010000061411
def amf{a:Nat}:a<=2->a<2^20:=aD [a] 0x11111000006141211401
def amg{a b:Nat}:a<=2->b+1+1+2*a<=b+6:=aD [a,b] 0x211161150421211111150000211401
def amh{a b:Nat}:a+6*(b+1)<=90->a+6+6*b<=90:=aD [a,b] 0x11115a21561261140005a21111506124001
def ami{a b:Nat}:a+6*b<=90->a<=90:=aD [a,b] 0x11115a21405a2156124001
def amj{a:Nat}:a<=10->0+6*a<=90:=aD [a] 0x61115a2146120100a11401
def amk{a b c d:Nat}:a+b+c+d=a+c+d+b:=aD [a,b,c,d] 0x11115764000765400020
def ahH{a:Nat}:a<=60->501+5*a<=801:=aD [a] 0x51113213145121f531003c21401
def ahI{a b c:Nat}:a+(b+1+c)<2^20->a+b+1+c<2^20:=aD [a,b,c] 0x11111000006161115400011000006161115004011
def ahJ{a b:Nat}:a+(b+1)=a+1+b:=aD [a,b] 0x11115111400111504020
def nB{a:Nat}:0<((a+1:Nat):Int):=aD [a] 1172815479184
def p9{a b c:Nat}:a+(b+1+c)<2^20->a+b<2^20:=aD [a,b,c] 0x11111000006154011000006161115004011
def nC{a:Nat}:((a+1:Nat):Int)-1=(a:Int):=Dm a 1
def aml{a:Nat}:a<=1001->a+8<=2000:=aD [a] 0x11117d0318114003e931401
def amm{a b:Nat}:a<=20->b<=1001->b+8+a<=2000:=aD [a,b] 0x1111117d031481150003e931501421402
def amn{a b:Nat}:a<=20->b<=1001->b+8+a+2<=2000:=aD [a,b] 0x1111117d0312114811500003e931501421402
def amo{a:Nat}:a<=1000->1+a<=1001:=aD [a] 0x11113e9314111003e831401
def amp{a b c d e f:Nat}:a+b+(c+(d+e)+f)=a+(0+e)+b+f+(c+d):=aD [a,b,c,d,e,f] 0x1111760958010400009870600540020
def ahK{a b:Nat}:a+(0+1+b)<2^20->a<2^20:=aD [a,b] 0x1111100000614110000061511101004011
def ahL{a b:Nat}:a+(0+1+b)<2^20->a+1+b<2^20:=aD [a,b] 0x1111100000615111400110000061511101004011
def ahM{a b:Nat}:a+b<=4->a<=4:=aD [a,b] 0x11114114041154001
def amq{a b:Nat}:a+(0+1+1+b)<2^20->a<2^20:=aD [a,b] 0x11111000006141100000615111111010004011
def amr{a b:Nat}:a+(0+1+1+b)<2^20->a+1<2^20:=aD [a,b] 0x111110000061111401100000615111111010004011
def ams{a b:Nat}:a+(0+1+1+b)<2^20->a+1+1+b<2^20:=aD [a,b] 0x111110000061511111140001100000615111111010004011
def amt{a b:Nat}:a+(b+1)<=4->a+1+b<=4:=aD [a,b] 0x111141151114000411111504001
def amu{a b:Nat}:a+(b+1)<=4->a<=4:=aD [a,b] 0x111141140411111504001
def amv{a b c:Nat}:a+(b+1+c)<2^20->a<2^20:=aD [a,b,c] 0x111110000061411000006161115004011
def amw{a b c:Nat}:a+(b+1+c)<2^20->a+1+b<2^20:=aD [a,b,c] 0x111110000061511140011000006161115004011
def amx{a b c:Nat}:a+(b+1+c)<2^20->a+1+b+c<2^20:=aD [a,b,c] 0x11111000006165111400011000006161115004011
def amy{a:Nat}:a<2^20->0+a+2<=16777216:=aD [a] 0x111110000007121140100010000061411
def amz{a:Nat}:a≠1->¬1=a:=λh e=>h e.symm
def amA{a b:Nat}:a+1<b->(a:Int)+1<(b:Int):=aD [a,b] 0x1111511140951114011
def qa{a:Nat}:a<2^20->(a:Int)<2^63:=aD [a] 0x11118000000000000000f14910000061411
def amB{a b:Nat}:a<b->¬a+1<b->b=a+1:=aD [a,b] 0x1101101111111405251114045412
def amC{a b:Nat}:a≠1->b<a->¬b+1<a->¬b=0:=λh k n e=>h<|Fq (by subst e;rw[IZ n])<|I0 k
def amD{a b:Nat}:¬a+1<b->(b:Int)<=(a:Int)+1:=aD [a,b] 0x1111111405851114041
def amE{a b c:Nat}:a=b+(c+1)->c<a:=aD [a,b,c] 0x110114611116050421
def rC{a b c:Nat}:a+(b+(c+1))=a+b+1+c:=aD [a,b,c] 0x111161115400011160504020
def amF{a b c:Nat}:0<a->¬b+1=a+b+1+c:=aD [a,b,c] 0x1111061115400011150540111
def amG{a b c d:Nat}:a<2^20->a=b+c+1+d->c+1<=16777216:=aD [a,b,c,d] 0x11011111000000711116007111650004210000061412
def ahN{a:Nat}:a+2<9900->a<9900:=aD [a] 0x111126ac414126ac412114011
def ahO{a:Nat}:a+20<9900->a+2<9900:=aD [a] 0x111126ac4121140126ac4114214011
def amH{a:Nat}:a+20<9900->a+1+1+2<9900:=aD [a] 0x111126ac412111111114000126ac4114214011
def amI{a:Nat}:a<=8000->a+1+20<9900:=aD [a] 0x111126ac41142111140011f4041401
def amJ{a b:Nat}:a=1->b<=100->a+b+a<=200:=aD [a,b] 0x1102111c821454000642150111422
def amK{a b:Nat}:a=1->b<=100->a+b<=200:=aD [a,b] 0x1101111c8215400642150111422
def amL{a:Nat}:a<=100->(a:Int)<2^63:=aD [a] 0x11118000000000000000f1496421401
def amM{b:Nat}{a:Int}:a.toNat<b->b<=100->a<2^63:=by omega
def ahP{a:Int}:a<3->a.toNat<3:=λh=>(Et (by decide)).mpr h
def ahQ{a:Int}:a<4->a.toNat<5:=λh=>B9<|(Et (n:=4) (by decide)).mpr h
def rD{a:Int}:a<5->a.toNat<5:=λh=>(Et (by decide)).mpr h
def amN{a:Int}:a<7->a.toNat<7:=λh=>(Et (by decide)).mpr h
def amO{a b c:Nat}:a<=20->b<=9->c+a+b<=c+60:=aD [a,b,c] 0x1111113c2160546000911501421402
def amP{a:Int}:a<4->4-a≠0:=λh=>Int.ne_of_gt<|ID h
def amQ{a:Int}:a<4->0<4-a:=ID
def amR{a b:Int}:0<=a->0<=b->0<=a+1+b:=λh k=>JD (JD h (by decide)) k
def amS{a b:Int}:a<4-b->(b+1+a).toNat<5:=by omega
def adt{a b c d:Nat}:a<=20->b<=20->c<=9->d<=1000->d+a+c+b+c<=d+60:=aD [a,b,c,d] 0x211111113c217065647000003e83170911601421501421404
def adu{a b c d:Nat}:a<=20->b<=20->c<=9->d<=1000->d+a+c+b<=100000:=aD [a,b,c,d] 0x1111111111186a051564700003e83170911601421501421404
def adv{a b c d:Nat}:a<=20->b<=20->c<=9->d<=1000->a+c<=16777216:=aD [a,b,c,d] 0x110111110000007164003e83170911601421501421404
def adw{a b c d:Nat}:a<=20->b<=20->c<=9->d<=1000->d+(a+c)<=16777216:=aD [a,b,c,d] 0x1111011111000000716407003e83170911601421501421404
def avF{a b c d:Nat}:a<=20->b<=20->c<=9->d<=1000->d+a+c+b+c<=d+60/\d+a+c+b<=100000/\a+c<=16777216/\d+(a+c)<=16777216:=λh H e i=>⟨adt h H e i,adu h H e i,adv h H e i,adw h H e i⟩
def gw{a:Nat}:a+1+1+1+1<4->False:=aD [a] 0x110010164111111111111114000011
def amT{a b c d e f g h i j k l:Nat}:a=b+c+d+e->f+(0+a+g+h+i+j+k)+l=0+(b+0)+(f+c)+d+e+g+h+i+j+l+k:=aD [a,b,c,d,e,f,g,h,i,j,k,l] 0x111111011e0fdcba8769001500100000000000fedcba40100000090028765000421
def amU{a b c d e f g h i j k l m:Nat}:a=b+c+d+e->0+(0+e)+(b+0)+(f+c)+d+g+h+i+j+k+l+m=f+(0+a+h+i+j+k+m)+(0+g+l):=aD [a,b,c,d,e,f,g,h,i,j,k,l,m] 0x11011011110fa01001fedcb4010000009001f0fedcba769001508010010000000000028765000421
def amV{a:Int}:a<4->a.toNat<4:=λh=>(Et (by decide)).mpr h
def amW{a b:Nat}:a<=4->b<=60*a->b<=1000:=aD [a,b] 0x113c2113e8315043c2250411402
def amX{a b c:Nat}:a<=4->b<=60*a->a≠4->c<=b+60->a+1<=4/\c<=60*(a+1):=λh k n l=>⟨EB h n,(aD [a,b,c] 0x111111111403c22603c21506043c22502:b<=60*a->c<=b+60->c<=60*(a+1)) k l⟩
def amY{a b c d e f g h:Nat}:a+(0+b)+(0+c+d+(e+(f+(g+(h+0)))))=0+b+c+d+(a+(e+(f+(g+h)))):=aD [a,b,c,d,e,f,g,h] 0x1111ba090804076501000001b0a090807601000501040020
def amZ{a b c:Nat}:a+1+1+1+1<4->b=c:=aD [a,b,c] 0x1101106524111111111111114000011
def am0{a b:Nat}:a<2^20->b<=a->1+b<=16777216:=aD [a,b] 0x11111110000007151110045010000061412
def am1{a:Nat}:a<5->(a:Int)<2^63:=aD [a] 0x11118000000000000000f149511411
def am2{a:Nat}:a<=8000->a<9900:=aD [a] 0x111126ac41411f4041401
def am3{a b c d e f g h:Nat}:0+a+b+c+d+(0+e+f)+(g+(h+0))=0+b+c+d+(g+(h+(0+e+a)+f)):=aD [a,b,c,d,e,f,g,h] 0x11119480100b00a076501000001b0a098010076540100000020
def am4{a b c d e f g h:Nat}:0+a+b+c+d+e+(0+f)+(g+(h+0))=0+c+d+e+(g+(h+(0+a+b)+f)):=aD [a,b,c,d,e,f,g,h] 0x11119540100b00a087601000001b0a090108765401000000020
def nD{a:Nat}:a+870<1220->a+860<1220:=aD [a] 0x11114c43135c314014c431366314011
def am5{a:Nat}:a<=1400->a+0<=8000:=aD [a] 0x11111f40410140057831401
def ahR{a b c:Nat}:a+(b+1)=c->a+1+b=c:=aD [a,b,c] 0x1111110116511140026111504021
def am6{a b:Nat}:a+b<1220->b=450->a+440<1220:=aD [a,b] 0x11011114c4311b8314011c231524c43154012
def am7{a:Nat}:a+450<1220->a+440<1220:=aD [a] 0x11114c4311b8314014c4311c2314011
def am8{a b:Nat}:a+(b+1)<64->a+1<65:=aD [a,b] 0x111141211114014021111504011
def am9{a b:Nat}:a<100->b<a->(b:Int)<2^63:=aD [a,b] 0x1111118000000000000000f1594516421412
def ana{a b c:Nat}:a+1=0\/b+1+(a+1)=c->b+1<c:=λh=>h.elim (λz=>nomatch z) (aD [a,b,c] 0x1111611150161114011150021:b+1+(a+1)=c->b+1<c)
def rE{a b c:Nat}:a+1=0\/b+1+(a+1)=c->b<c:=λh=>h.elim (λz=>nomatch z) (aD [a,b,c] 0x111165161114011150021:b+1+(a+1)=c->b<c)
def anb{a b c:Nat}:a+1=0\/b+1+(a+1)=c->b+1+1+a=c:=λh=>h.elim (λz=>nomatch z) (aD [a,b,c] 0x111111011641111115000261114011150021:b+1+(a+1)=c->b+1+1+a=c)
def anc{a b:Nat}:1+a=b->0+1+a=b:=aD [a,b] 0x111111011541110100254111021
def and{a b:Nat}:1+a=b->b<100->0+a<2^20:=aD [a,b] 0x1101111100000614010164215154111022
def ane{a:Nat}:a<64->0+a<64:=aD [a] 0x11114021401014021411
def ahS{a:Nat}:a<=2100->a+3<9900:=aD [a] 0x111126ac4131140183431401
def anf{a:Nat}:a+520<1220->a+460<1220:=aD [a] 0x11114c4311cc314014c431208314011
def ajc{a:Nat}:a<=4->1<=a+1:=aD [a] 0x11111401110411401
def ajd{a:Nat}:a<=4->a+1<=5:=aD [a] 0x1111511111400411401
def ang{a:Nat}:a<=4->1<=a+1/\a+1<=5:=λh=>⟨ajc h,ajd h⟩
def anh{a b:Nat}:a+520<1220->b<=500->a+b<1220:=aD [a,b] 0x1111114c43154011f431504c431208314012
def ahT{a:Nat}:a<=4->a+1+1<2^63:=aD [a] 0x11118000000000000000f11111114001411401
def ahU{a b:Nat}:a=b+1+1->1+(b+1)=a:=aD [a,b] 0x110110111141115011102111111500421
def ani{a:Nat}:a<=4->a+1<2^63:=aD [a] 0x11118000000000000000f1111401411401
def anj{a b:Nat}:a<=4->b=a+1+1->b<64:=aD [a,b] 0x11111140215111111140052411402
def ank{a:Nat}:a<=4->a+1<100:=aD [a] 0x11116421111401411401
def ahV{a b:Nat}:a+(b+1)=4->a<4:=aD [a,b] 0x111141141411111504021
def ahW{a b:Nat}:a+(b+1)=4->a+1+b=4:=aD [a,b] 0x11111101141151114002411111504021
def anl{a:Nat}:a<=63->a+14<=16777216:=aD [a] 0x1111100000071e114003f21401
def anm{a:Nat}:a<=63->a+14<2^20:=aD [a] 0x111110000061e114013f21401
def ann{a:Nat}:a+20<9900->a<9900:=aD [a] 0x111126ac414126ac4114214011
def ano{a:Nat}:a+20<9900->a+1+2<9900:=aD [a] 0x111126ac41211111400126ac4114214011
def anp{a:Nat}:a+20<9900->a+1+1+1+2<9900:=aD [a] 0x111126ac4121111111111140000126ac4114214011
def anq{a:Nat}:a<=4->a+1+1<100:=aD [a] 0x111164211111114001411401
def anr{a:Nat}:a<=700->a+3+20<9900:=aD [a] 0x111126ac41142131140012bc31401
def ans{a b:Nat}:a+900<1220->b<=890->a+b<1220:=aD [a,b] 0x1111114c431540137a31504c431384314012
def ant{a b c d:Nat}:a<=2->b<=2->c<=2->d<=2->a+(b+(c+(d+0)))<2^20:=aD [a,b,c,d] 0x11111111111000006101706050401211702116021150211404
def anu{a b c:Nat}:a+(b+c)<2^20->a+b+c<2^20:=aD [a,b,c] 0x111110000061654001100000616504011
def anv{a b c:Nat}:a+(b+c)<2^20->a+b<2^20:=aD [a,b,c] 0x1111100000615401100000616504011
def anw{a:Nat}:a<=8000->a+1<9900:=aD [a] 0x111126ac411114011f4041401
def anx{a b c d e:Nat}:a+b=c->a+d+(e+b)=e+d+c:=aD [a,b,c,d,e] 0x1111110116780058074002654021
def anz{a b c d:Nat}:a+b=c->d+(a+0)+b=d+(c+0):=aD [a,b,c,d] 0x111111011016070501407002654021
def anA{a b c d e:Nat}:a+b=c->d+(c+(e+0))=d+(a+(e+0))+b:=aD [a,b,c,d,e] 0x11011011115018040700018060702654021
def anB{a:Nat}:a<524288->0+a<2^20:=aD [a] 0x111110000061401018000051411
def anC{a:Nat}:a+1<524288->1+a<2^20:=aD [a] 0x11111000006141110180000511114011
def anD{a b c d e:Nat}:a=b+c->d+(e+a)=d+e+b+c:=aD [a,b,c,d,e] 0x1111110116587000480702650421
def anE{a b c d e f:Nat}:a+b+(c+d+e)=f->a+b+c+d+e=f:=aD [a,b,c,d,e,f] 0x11111101198765400002987600540021
def anF{a b:Nat}:1+(a:Int)+(b:Int)=1+((a+b:Nat):Int):=aD [a,b] 0x111154011105411100a0
def anG{a b c d:Nat}:a+b+(0+c+d)=a+(b+c+d):=aD [a,b,c,d] 0x11117650040760100540020
def anH{a b c:Nat}:a+b+(0+c+0)=a+(b+c):=aD [a,b,c] 0x1111650400160100540020
def anI{a b c d e f:Nat}:1+((a+b+(c+(d+e)+f+d):Nat):Int)=1+(a:Int)+((b+c+d:Nat):Int)+((e+f+d:Nat):Int):=aD [a,b,c,d,e,f] 0x11117980076500411100079870600054001110a0
def ahX{a b c:Nat}:a<=b+c->a+1<=b+(c+1):=aD [a,b,c] 0x11111116050111400650401
def ahY{a:Nat}:0<=1+(a:Int):=aD [a] 1185697235328
def anJ{a b c d e:Nat}:a<=b->b<2^20->c+d+e=a->1+(c:Int)<10000000000:=aD [a,b,c,d,e] 0x111111112540be40091611109487600210000061515403
def anK{a b c:Nat}:a*b+1+c<=0->False:=aD [a,b,c,a*b] 0x1100101601611170001
def anL{a b c d:Nat}:a*b+1+c<=d+1->c<=d:=aD [a,b,c,d,a*b] 0x111176011170611180001
def anM{a b c:Nat}:a+b+(c+1)<2^20->a+(b+1)+c<2^20:=aD [a,b,c] 0x11111000006161115040011000006111160540011
def anN{a b:Nat}:a+b+1<2^20->a+b<2^20:=aD [a,b] 0x111110000061540110000061111540011
def anO{a b c d:Nat}:a*b+b+1+c<=d+1->1<=b->a*b+1+c<=d:=aD [a,b,c,d,a*b] 0x111111761118000511101117061115800002
def qb{a b c d:Nat}:a+b+(c+d)<2^20->a+b<2^20:=aD [a,b,c,d] 0x111110000061540110000061760540011
def anP{a b c:Nat}:a<=b->b<=4->a=c+2->c<=2:=aD [a,b,c] 0x110111111211602116042411505403
def anQ{a:Nat}:a<=2->3-a=3-(a+1)+1:=λh=>(Nat.succ_sub h).trans<|Z8 (·+1) (Nat.succ_sub_succ 2 a).symm
def anR{a b c d e:Nat}:a=2+2*b->c*b<=2*b->c*b+1+(d*a+1+e)+1<=d*a+a+1+e:=aD [a,b,c,d,e,c*b,d*a] 0x111101181114a0001118111a001119000052129052122110422
def anS{a b c d e:Nat}:a+b+c=d->d<=e->e<2^20->1+(a:Int)<10000000000:=aD [a,b,c,d,e] 0x1111011112540be40091411109100000618187076540023
def anT{a:Nat}:a+2<=0->False:=aD [a] 0x11001016012114001
def rH{a b:Nat}:a+b<2^20->a+0+b<2^20:=aD [a,b] 0x11111000006150140011000006154011
def ahZ{a b c:Nat}:a+(b+1)+2<=c+1->b+2<=c:=aD [a,b,c] 0x11116211500111602111115040001
def anU{a b:Nat}:a≠4->b<=4->a=b->b+1<=4:=λn h e=>EB h (e▸n)
def anV{a b:Nat}:a<=2->b=a->b≠2->a+1<=2:=λh e n=>EB h (e▸n)
def anW{a:Nat}:a<=2->a+0<=2:=aD [a] 0x111121101400211401
def anX{a b c:Nat}:a<=4*b->c<=4->c+a<=4*(b+1):=aD [a,b,c] 0x111111111504124600411605412402
def aje{a b c:Nat}:a=b+2->b<=4*c->2<=a:=aD [a,b,c] 0x110114211064125021150422
def ajf{a b c:Nat}:a=b+2->b<=4*c->a<=2+4*c:=aD [a,b,c] 0x1101111641221104064125021150422
def ah0{a b c:Nat}:a=b+2->b<=4*c->2<=a/\a<=2+4*c:=λh H=>⟨aje h H,ajf h H⟩
def ajg{a b c:Nat}:a=2+b->b<=4*c->2<=a:=aD [a,b,c] 0x110114211064125052110422
def ajh{a b c:Nat}:a=2+b->b<=4*c->a<=2+4*(c+1):=aD [a,b,c] 0x11011111116041221104064125052110422
def anY{a b c:Nat}:a=2+b->b<=4*c->2<=a/\a<=2+4*(c+1):=λh H=>⟨ajg h H,ajh h H⟩
def anZ{a b:Nat}:a<=9->b<=14->b+a<=23:=aD [a,b] 0x11111117214500e1150911402
def aji{a b c d:Nat}:a<=4->2<=b->b<=2+4*a->c<=9->d<=23->2<=d+(b+c):=aD [a,b,c,d] 0x1101165070211017217091160441221105052110411405
def ajj{a b c d:Nat}:a<=4->2<=b->b<=2+4*a->c<=9->d<=23->d+(b+c)<=60:=aD [a,b,c,d] 0x111111041113c2165070017217091160441221105052110411405
def an0{a b c d:Nat}:a<=4->2<=b->b<=2+4*a->c<=9->d<=23->2<=d+(b+c)/\d+(b+c)<=60:=λh H e i j=>⟨aji h H e i j,ajj h H e i j⟩
def ajk{a b c:Nat}:2<=a->a<=60->b<=60*c->a+b≠1:=aD [a,b,c] 0x11011111540563c22503c2140421103
def ajl{a b c:Nat}:2<=a->a<=60->b<=60*c->a+b<=60*(c+1):=aD [a,b,c] 0x1111011111603c22540063c22503c2140421103
def an1{a b c:Nat}:2<=a->a<=60->b<=60*c->a+b≠1/\a+b<=60*(c+1):=λh H e=>⟨ajk h H e,ajl h H e⟩
def an2{a b:Nat}:a<=60*b->b<=4->a<900:=aD [a,b] 0x3c2111138431414115053c22402
def avG{a b:Nat}:a=b+1->b<a:=aD [a,b] 0x1101145111150421
def an3{a b c d:Nat}:a<=b*c+d->1+a<=b*c+(d+1):=aD [a,b,c,d,b*c] 0x11111117080411100780401
def an4{a b c d e:Nat}:a<=b*c+d->e<=c->e+a<=b*c+c+(d+1):=aD [a,b,c,d,e,b*c] 0x1111111117069004800680790402
def an5{a b c d:Nat}:a<=b*c+d->b*c<=2*c->d<=4->a+1<=1+(2*c+4):=aD [a,b,c,d,b*c] 0x1111111141162120111011140041170621280780403
def an6{a b c d:Nat}:a<=b*c+d->b*c<=2*c->d<=4->c=51->a<=106:=aD [a,b,c,d,b*c] 0x21111111116a214033216241170621280780404
def an7{a b:Nat}:a<=4->4<=b+0->b+1<=a->False:=aD [a,b] 0x111111001016411150001504110411403
def an8{a b:Nat}:4<=a+(b+1)->4<=a+1+b:=aD [a,b] 0x111151114004110111504041101
def ajm{a b:Nat}:a<=b->0<=(a:Int):=aD [a,b] 74089780225
def ajn{a b:Nat}:a<=b->(a:Int)<=(b:Int):=aD [a,b] 1172883133441
def an9{a b:Nat}:a<=b->0<=(a:Int)/\(a:Int)<=(b:Int):=λh=>⟨ajm h,ajn h⟩
def aoa{a b c d e:Nat}:a=b+c->1+(d+b)<=1+(d+(a+e)):=aD [a,b,c,d,e] 0x1101184070111057011100650421
def aob{a b c d:Nat}:a<=1+(b+c+d)->a<=1+(b+(c+d)):=aD [a,b,c,d] 0x111176050111040765001110401
def aoc{a b c:Nat}:a<=1+(0+b)->b<=c->c<900->a<1000:=aD [a,b,c] 0x111111113e83141384316165050101110403
def aod{a b:Nat}:a<=106->b=a+2->b<2^20:=aD [a,b] 0x111111100000615121140526a21402
def aoe{a b:Nat}:a*b<=2*b->b=22->a*b+1<=60:=aD [a,b,a*b] 0x2111113c211116001621525212602
def aof{a:Nat}:a<=106->a+2<=200:=aD [a] 0x1111c8212114006a21401
def aog{a:Nat}:a<900->1+a<1000:=aD [a] 0x11113e83141110138431411
def aoh{a:Nat}:a<=106->a+2<2^20:=aD [a] 0x1111100000612114016a21401
def aoi{a:Int}:a<=((4:Nat):Int)->a.toNat<5:=λh=>(Et (by decide)).mpr<|Ig h (by decide)
def aoj{a:Int}:0<=a->a=(a:Int).toNat:=λh=>(Ht h).symm
def aok{a b c:Nat}:a<b->b-(a+1)+c+1<=b-a+c:=λh=>AY (by rw[ED,Nat.sub_add_eq,Bo<|Nat.sub_pos_of_lt h])
def aol{a b c d:Nat}:a+1<=b->a+1<=c-d+b:=λh=>Ax h (BI ..)
def aom{a b c:Nat}:a=b+c->b<a->c-1<c:=λe h=>Nat.sub_lt (FM λz=>Cs b (by subst z;subst e;rw[h])) (by decide)
def aon{a b c:Nat}:a=b+c->b<a->a=b+1+(c-1):=λe h=>by cases(c) with|zero=>rw[ZZ h (e▸Cs _)]|succ c=>rw[e.trans (aD [a,b,c] 0x11116111500111605020:b+(c+1)=b+1+c)]
def ah1{a b:Nat}:a<=90->b<a->b<90:=aD [a,b] 0x1111115a21514515a21402
def aoo{a b:Nat}:a<=0->¬b+1<=a:=aD [a,b] 0x1111411150301401
def aop{a b c:Nat}:a<=b+1->c+1<=a->c<=b:=aD [a,b,c] 0x111111560411160011150402
def aoq{a b:Nat}:a<=b->b=a+(b-a):=λh=>(Hu h).symm
def aor{a b c:Nat}:¬a<b->c<b->c<a+1:=aD [a,b,c] 0x11111111140615615442
def aos{a b:Nat}:a<a+(b+1):=aD [a,b] 18765064700944
def ah2{a b c:Nat}:a<b->(c:Int)+1<=(c:Int)+(b:Int):=aD [a,b,c] 0x11115601116085411
def aot{a b c:Nat}:a<b->b<=c->a<=c:=aD [a,b,c] 0x1111116406505412
def aou{a b d:Nat}{c:Int}:a<b->c+1<=((d+1:Nat):Int)+(a:Int)->c+1<=(d:Int)+(b:Int):=by omega
def aov{a b:Nat}:((a+1+b:Nat):Int)-1=((a+b:Nat):Int):=(Z8 (λx:Nat=>(x:Int)-1)<|ED a 1 b).trans<|Dm ((a+b:Nat):Int) 1
def aow{a b:Nat}:((a+(b+1):Nat):Int)-1=((a+b:Nat):Int):=Dm ((a+b:Nat):Int) 1
def aox{a b:Int}:a>b->a<=b->False:=λh k=>JC.mpr h k
def aoy{a b:Int}:a<=b->¬b>a->a=b:=λh k=>Jm h<|DE.mp k
def aoz{b:Nat}{a:Int}:a+1<=((1:Nat):Int)+(b:Int)->a<=(b:Int):=λh=>Int.le_of_add_le_add_right<|IE h<|Int.le_of_eq<|EK 1 b
def aoA{a:Nat}:((1+a:Nat):Int)-1=(a:Int):=(Z8 (λx:Nat=>(x:Int)-1)<|DB 1 a).trans<|Dm (a:Int) 1
def aoB{a b:Nat}:a+b<=a+(b+1):=aD [a,b] 4803856563519488
def aoC{a b c d:Nat}:a+100*(b+1)<1000->c<=100->d<=a+c->d+100*b<1000:=aD [a,b,c,d] 0x111111113e83156422701640706421603e8311115064224013
def aoD{a b c:Nat}:a+100*(b+1)<1000->c<=100->a+c<1000:=aD [a,b,c] 0x1111113e83164016421603e8311115064224012
def ah3{a:Int}:a=a-((0:Nat):Int):=(Int.sub_zero a).symm
def aoE{b:Nat}{a:Int}:a<1->1<=a/\a<=(b:Int)->False:=λh k=>JC.mpr h k.1
def aoF{a:Int}:1<=a/\a<=((0:Nat):Int)->False:=λk=>ZZ (IE k.1 k.2) (by decide)
def aoG{b c:Nat}{a:Int}:1<=a/\a<=(b:Int)->¬(1<=a-(b:Int)/\a-(b:Int)<=(c:Int)):=by omega
def aoH{b c:Nat}{a:Int}:1<=a/\a<=(b:Int)->1<=a/\a<=((b+c:Nat):Int):=λk=>⟨k.1,IE k.2<|EJ.mpr<|BG b c⟩
def aoI{b c:Nat}{a:Int}:¬(1<=a/\a<=(b:Int))->1<=a/\a<=((b+c:Nat):Int)->1<=a-(b:Int)/\a-(b:Int)<=(c:Int):=by omega
def aoJ{b c:Nat}{a:Int}:¬(1<=a/\a<=((b+c:Nat):Int))->¬(1<=a-(b:Int)/\a-(b:Int)<=(c:Int)):=by omega
def aoK{a:Int}:a-1=0->a=1:=Int.eq_of_sub_eq_zero
def aoL{a:Int}:¬a-1=0->1<=a/\a<=((1:Nat):Int)->False:=λn k=>n<|Int.sub_eq_zero.mpr<|Jm k.2 k.1
def rI{b:Nat}{a:Int}:a<1->a-(b:Int)<1:=λh=>Ig (Int.sub_le_self a<|BH b) h
def aoM{a:Nat}:1+a=0->False:=aD [a] 0x11001016014111021
def aoN{a b c:Nat}:a<b+1->c<a->c<b:=aD [a,b,c] 0x11111156146111150412
def aoO{a b:Nat}:a<b->b=a->False:=aD [a,b] 0x11110010164525412
def aoP{a:Nat}:a+1=a->False:=aD [a] 0x1100101641114021
def aoQ{a b:Nat}:a<b->b+1=a->False:=aD [a,b] 0x111100101641115025412
def aoR{a b c:Nat}:a≠0->a=b+c->b=0->1<=(a:Int)/\(a:Int)<=(c:Int):=λh e z=>⟨EJ.mpr<|FM h,EJ.mpr<|AY<|e.trans (z▸Bh c)⟩
def aoS{a b c:Nat}:a=b+c->¬b=0->¬(1<=(a:Int)/\(a:Int)<=(c:Int)):=by omega
def aoT{a b c d:Nat}:a<=b+1->a=c+d->d≠0->c<=b:=λh e n=>CO<|Ax (Nat.lt_of_lt_of_eq (Nat.lt_add_of_pos_right<|FM n) e.symm) h
def aoU{a:Nat}:a<=5->0+100*a<1000:=aD [a] 0x642113e831464220101511401
def aoV{a b:Nat}:a<=5->b=a->b<=5:=aD [a,b] 0x11111151150452511402
def aoW{b:Nat}{a:Int}:a=0->a=(b:Int)->b=0:=λh k=>Gb<|k.symm.trans h
def aoX{a b c d e:Nat}:a<=b*c->d=e+a->e<=b->d<=b*c+b:=aD [a,b,c,d,e,b*c] 0x11011111159070580480729403
def aoY{a:Nat}:a<=5->2*a<=100:=aD [a] 0x2111642142120511401
def aoZ{a:Nat}:a<=0->¬a=0->False:=λh n=>n<|Kr.mp h
def ao0{a b:Nat}:a<=b+1->¬a=b+1->a<=b:=λh n=>IF<|EB h n
def ao1{a:Nat}:a<=5->a<=90:=aD [a] 0x11115a2140511401
def ao2{a:Nat}:a<=5->a<9:=aD [a] 76870230542980097
def ao3{a b:Nat}:a=b->b<=4->a<2^20:=aD [a,b] 0x11011111000006141411505422
def ao4{a b:Nat}:a=b->b<=5->a<1000:=aD [a,b] 0x11011113e83141511505422
def ao5{a b:Nat}:a<=b->b<=5->a+1<1000:=aD [a,b] 0x1111113e831111401511505402
def ao6{a b c:Nat}:a<=1->b<=c->c=4->a+b<64:=aD [a,b,c] 0x111111114021540141162650111403
def ao7{a b:Nat}:a+1<=b->b<=5->a<=4:=aD [a,b] 0x111111411405115051114002
section
universe u v w x y z
inductive dK{α:Sort u}{β:Sort v}(p:α->β->Prop):Prop|mk (a:α) (b:β) (h:p a b)
inductive n9{α:Sort u}{β:Sort v}{γ:Sort w}(p:α->β->γ->Prop):Prop|mk (a:α) (b:β) (c:γ) (h:p a b c)
inductive lG{α:Sort u}{β:Sort v}{γ:Sort w}{δ:Sort x}(p:α->β->γ->δ->Prop):Prop|mk (a:α) (b:β) (c:γ) (d:δ) (h:p a b c d)
inductive uH{α:Sort u}{β:Sort v}{γ:Sort w}{δ:Sort x}{ε:Sort y}(p:α->β->γ->δ->ε->Prop):Prop|mk (a:α) (b:β) (c:γ) (d:δ) (e:ε) (h:p a b c d e)
inductive xm{α:Sort u}{β:Sort v}{γ:Sort w}{δ:Sort x}{ε:Sort y}{ζ:Sort z}(p:α->β->γ->δ->ε->ζ->Prop):Prop|mk (a:α) (b:β) (c:γ) (d:δ) (e:ε) (f:ζ) (h:p a b c d e f)
structure A3(a b c:Prop):Prop where
 (i:a) (j:b) (k:c)
structure A4(a b c d:Prop):Prop where
 (i:a) (j:b) (k:c) (l:d)
structure A5(a b c d e:Prop):Prop where
 (i:a) (j:b) (k:c) (l:d) (m:e)
structure A6(a b c d e f:Prop):Prop where
 (i:a) (j:b) (k:c) (l:d) (m:e) (n:f)
structure A7(a b c d e f g:Prop):Prop where
 (i:a) (j:b) (k:c) (l:d) (m:e) (n:f) (o:g)
variable{a b c d e f g G:Prop}
def toX2{p:α->β->Prop}(k:∀a b,p a b->G):dK p->G:=dK.rec k
def toX3{p:α->β->γ->Prop}(k:∀a b c,p a b c->G):n9 p->G:=n9.rec k
def toX4{p:α->β->γ->δ->Prop}(k:∀a b c d,p a b c d->G):lG p->G:=lG.rec k
def toX5{p:α->β->γ->δ->ε->Prop}(k:∀a b c d e,p a b c d e->G):uH p->G:=uH.rec k
def toX6{p:α->β->γ->δ->ε->ζ->Prop}(k:∀a b c d e f,p a b c d e f->G):xm p->G:=xm.rec k
def toX2A2{p q:α->β->Prop}(k:∀a b,p a b->q a b->G):dK (λa b=>p a b/\q a b)->G:=toX2 λa b=>toA2<|k a b
def toB3(k:a->b->c->G):A3 a b c->G:=A3.rec k
def toB4(k:a->b->c->d->G):A4 a b c d->G:=A4.rec k
def toB5(k:a->b->c->d->e->G):A5 a b c d e->G:=A5.rec k
def toB6(k:a->b->c->d->e->f->G):A6 a b c d e f->G:=A6.rec k
def toB7(k:a->b->c->d->e->f->g->G):A7 a b c d e f g->G:=A7.rec k
end
section
open PySem
structure Sp where
 e:!Ea
 k:!Gc
 o:!Gc
 sc:Jj
 ar:Arguments
 h:!HF
 p:Pos
noncomputable def sp:Gc->Sp
 |.FunctionDef _ a b _ _ _ s _ _ p=>⟨[],b,[],s,a,[],p⟩
 |.ClassDef _ _ _ b _ _ s _ _ _ p=>⟨[],b,[],s,Bs,[],p⟩
 |.While t b o p=>⟨[t],b,o,Bs,Bs,[],p⟩
 |.For t i b o p=>⟨[t,i],b,o,Bs,Bs,[],p⟩
 |.If t b o p=>⟨[t],b++o,o,Bs,Bs,[],p⟩
 |.Try b h o _ p=>⟨[],b,o,Bs,Bs,h,p⟩
 |.Assign _ v p=>⟨[v],[],[],Bs,Bs,[],p⟩
 |.Return v p=>⟨v.toList,[],[],Bs,Bs,[],p⟩
 |.Expr v p=>⟨[v],[],[],Bs,Bs,[],p⟩
 |_=>⟨[],[],[],Bs,Bs,[],Bs⟩
structure Ep where
 e:!Ea
 q:!Ea
 sc:Jj
 p:Pos
 c:Bool
noncomputable def ep:Ea->Ep
 |.ListComp _ _ s p=>⟨[],[],s,p,J⟩
 |.DictComp _ v _ s p=>⟨[v],[],s,p,O⟩
 |.Call f a _ p=>⟨a,[f],Bs,p,O⟩
 |.Compare l _ r p=>⟨r,[l],Bs,p,O⟩
 |.BinOp l _ r p=>⟨[r],[l],Bs,p,O⟩
 |.BoolOp _ l p=>⟨l,[],Bs,p,O⟩
 |.Subscript v i p=>⟨[v],[i],Bs,p,O⟩
 |.Attribute v _ p=>⟨[v],[],Bs,p,O⟩
 |_=>⟨[],[],Bs,Bs,O⟩
noncomputable def e0(l:!Ea):Ea:=l.headD Bs
noncomputable def bf:!Nat->!Gc->Option Gc
 |[],_=>As
 |i::l,b=>match b[i]? with
  |some st=>match l with
   |[]=>Y st
   |_=>bf l (sp st).k
  |none=>As
end
noncomputable def jc:Nat:=DK+220
abbrev cX:=List<|Nat×AL
noncomputable def bG:cX->Nat->AL
 |[],_=>0
 |p::l,i=>match DW p.1 i with
  |true=>p.2+(i-p.1)
  |false=>bG l i
noncomputable abbrev dQ:=HG
noncomputable abbrev fz:=HH
noncomputable abbrev fA:=Ih
noncomputable abbrev aaq:=Ii
noncomputable abbrev adx:=Ij
noncomputable abbrev jQ:=Hv
noncomputable def lH(b:FuncBody)(env:Env):BC:=match b with
 |.stmts b=>.func b env
 |.expr e=>.expr e env
set_option backward.match.sparseCases true in
def uI(b:AL)(fd:JE)(args:Hw):Sem Fin:=
 BD (match fd.code with
  |.none=>Bw fd.qualname
  |c=>BD (adx c 1) λx=>match x with
   |.str q _=>Bw q
   |_=>Bw fd.qualname) λcompiled=>
 BD (aaq fd args) λB=>
 BD (@Eu fd.scope fd.globals fd.closure B (Ik compiled ⟨#[46,60,108,111,99,97,108,115,62,46]⟩) (Y b) fd.code As fd.builtins) λenv=>
 Bw (.again<|lH fd.body env)
noncomputable def fC:Fin->Sem Fin
 |.again c=>match c with
  |.func b e=>CK Gz λQ=>.pure<|.again<|.func b e
  |.expr x e=>CK Gz λQ=>.pure<|.again<|.expr x e
  |c=>.pure<|.again c
 |fin=>.pure fin
def gD:@DM=dQ:=HI
def iy:@FJ=fz:=HJ
def aac:@K5=fA:=Il
def aaG:@Ks=aaq:=Im
def acH:@GN=adx:=Io
def acJ:@Code.quiet=jQ:=Hx
def abq:@G4=@Eu:=HK
def cY m (f:α->Sem β)(g:β->Sem γ):CK (CK m f) g=CK m λa=>CK (f a) g:=by
 cases m with
 |pure a=>rfl
 |raise e=>rfl
 |unsupported w=>rfl
 |finish e=>rfl
 |rule t k i=>rw[Z8 (Sem.rule t)<|funext i]
 |«at» p k i=>rw[Z8 (Sem.«at» p)<|funext i]
 |load a p k i=>rw[Z8 (Lq a p)<|funext i]
 |update a p g k i=>rw[Z8 (Sem.update a p g)<|funext i]
 |alloc o k i=>rw[Z8 (Sem.alloc o)<|funext i]
 |loadIfAlive a k i=>rw[Z8 (Sem.loadIfAlive a)<|funext i]
 |point l k i=>rw[Z8 (Sem.point l)<|funext i]
 |register a k i=>rw[Z8 (Sem.register a)<|funext i]
 |fresh k i=>rw[Z8 (Sem.fresh)<|funext i]
 |ask k i=>rw[Z8 (Sem.ask)<|funext i]
 |choose s n k i=>rw[Z8 (Sem.choose s n)<|funext i]
 |os q l k i=>rw[Z8 (Sem.os q l)<|funext i]
 |call c h g l k i=>rw[Z8 (Sem.call c h g l)<|funext i]
 |handled o k i=>rw[Z8 (Sem.handled o)<|funext i]
 |newGen c k i=>rw[Z8 (Sem.newGen c)<|funext i]
 |genState g k i=>rw[Z8 (Sem.genState g)<|funext i]
 |resume g r l k i=>rw[Z8 (Sem.resume g r l)<|funext i]
 |«yield» v g l k i=>rw[Z8 (Sem.yield v g l)<|funext i]
 |stack k i=>rw[Z8 (Sem.stack)<|funext i]
 |fork c k i=>rw[Z8 (Sem.fork c)<|funext i]
 |thread k i=>rw[Z8 (Sem.thread)<|funext i]
 |await a t d l k i=>rw[Z8 (Sem.await a t d l)<|funext i]
set_option backward.match.sparseCases true in
noncomputable def jR(c:AL)(fd:JE)(args:Hw)(compiled:U):Sem Fin:=do
 let env<-G4 fd.scope fd.globals fd.closure (<-Ks fd args) (compiled++".<locals>.") (Y c) fd.code As fd.builtins
 Gz
 let Lh:BC:=match fd.body with
  |.stmts b=>.func b env
  |.expr e=>.expr e env
 match fd.scope.isGenerator,fd.scope.isCoroutine with
 |false,O=>K6 Lh
 |true,O=>ret<|<-newGenerator Lh fd.name fd.qualname
 |false,J=>ret<|<-newCoroutine Lh fd.name fd.qualname
 |true,J=>ret<|<-newAsyncGenerator Lh fd.name fd.qualname
set_option backward.match.sparseCases true in
noncomputable def yO{α:Type}(q:U)(k:U->Sem α)(c:AF):Sem α:=match c with
 |.none=>k q
 |c=>CK (GN c 1) λx=>match x with
  |.str q _=>k q
  |_=>k q
def ady(fd:JE):Sem U:=yO fd.qualname Bw fd.code
def ao8 b fd args:GA b fd args=CK (ady fd) (jR b fd args):=((by
  cases fd.code with
  |none=>rfl
  |_=>
   rw[Ku ?_ (cY _ _ _).symm];rw[Z8 (CK _) (funext λx=>?_)]
   induction x<;>rfl):yO fd.qualname (jR b fd args) fd.code=CK (yO fd.qualname Bw fd.code) (jR b fd args)).symm▸rfl
def acL b fd args (H:fd.scope.isGenerator=O)(e:fd.scope.isCoroutine=O) compiled:
  jR b fd args compiled=CK (CK (Ks fd args) λbs=>CK (G4 fd.scope fd.globals fd.closure bs (Ik compiled ⟨#[46,60,108,111,99,97,108,115,62,46]⟩) (Y b) fd.code As fd.builtins) λenv=>Bw<|.again<|lH fd.body env) fC:=by
 let h:(compiled++(".<locals>.":U))=Ik compiled ⟨#[46,60,108,111,99,97,108,115,62,46]⟩:=by show Ik compiled (BV ".<locals>.")=_;rw[show BV ".<locals>."=⟨#[46,60,108,111,99,97,108,115,62,46]⟩from by decide+kernel,]
 delta jR;rw[cY,H,e];rw[Z8 (CK _)<|funext λbs=>?_]
 rw[cY,h];rw[Z8 (CK _)<|funext λenv=>?_]
 delta lH;cases fd.body<;>rfl
noncomputable abbrev PW:Dg:=Jn
noncomputable abbrev S(s:String):U:=BV s
def en(P:AK)(k:String)(t:Nat)(v:AF):B5:=⟨PyData.keyHash P<|S k,.str (S k) t,v⟩
def fnD(e:!Nat)(name Q:String)(globals:AL)(C:List<|U×AL)(d k h b:AF)(A:Option AL)(Lh c:AF)(B:AL):Kb:=match bf e PW.main.body with
 |some s=>.func ⟨S name,S Q,(sp s).ar,.stmts (sp s).k,(sp s).sc,globals,C,d,k,h,b,A,Lh,c,B⟩
 |none=>.plain
def er(P:AK)(k:String)(t a:Nat):=en P k t<|.ref a
def eb(P:AK)(k:String)(t:Nat)(s:String):=en P k t<|.builtin s
def et(P:AK)(k:String)(t:Nat)(s:String):=en P k t<|.type s
def es(P:AK)(k:String)(t:Nat)(s:String)(u:Nat):=en P k t<|.str (S s) u
noncomputable def eB(P:AK):Nat->!String->!B5
 |_,[]=>[]
 |t,s::l=>eb P s t s::eB P (t+1) l
noncomputable def eT(P:AK):Nat->!String->!B5
 |_,[]=>[]
 |t,s::l=>et P s t s::eT P (t+1) l
noncomputable def dO(e:Array B5)(n:Nat):Obj:=⟨.type "dict",As,.dict e n,#[]⟩
def cO(a b f:String)(t l n N c d e h r2 r i u:Nat):Obj:=⟨.type "code",As,.fields #[.str (S a) t,.str (S b)<|t+1,.str (S f)<|t+2,.int l 0,.int n 0,.int N 0,.int c 0,.int d 0,.ref e,.bool J,.int h 0,.ref r2,.none,.ref r,.ref<|r+1,.ref<|r+2,.int i 0,.int l 0,.str (S f) u],#[]⟩
def fO(e:!Nat)(a b:String)(g:AL)(cl:List<|U×AL)(d k c:AF)(m:String)(t r:Nat)(C:AF)(bi:AL):Obj:=⟨.type "function",As,fnD e a b g cl d k c (.str (S m) t) As (.ref r) C bi,#[]⟩
def b0(P:AK):Obj:=dO (([es P "__name__" 1 "builtins" 160,eb P "__doc__" 2 "builtins.__doc__:str#opaque",eb P "__package__" 3 "builtins.__package__:str#opaque",eb P "__loader__" 4 "builtins.__loader__:shared#opaque",eb P "__spec__" 5 "builtins.__spec__#opaque"]++eB P 6 ["__build_class__","__import__","abs","all","any","ascii","bin","breakpoint","callable","chr","compile","delattr","dir","divmod","eval","exec","format","getattr","globals","hasattr","hash","hex","id","input","isinstance","issubclass","iter","aiter","len","locals","max","min","next","anext","oct","ord","pow","print","repr","round","setattr","sorted","sum","vars"]++[en P "None" 50 .none,en P "Ellipsis" 51 .ellipsis,en P "NotImplemented" 52 .notImplemented,en P "False" 53<|.bool O,en P "True" 54<|.bool J]++eT P 55 ["bool","memoryview","bytearray","bytes","classmethod","complex","dict","enumerate","filter","float","frozenset","property","int","list","map","object","range","reversed","set","slice","staticmethod","str","super","tuple","type","zip"]++[en P "__debug__" 81<|.bool J]++eT P 82 ["BaseException","BaseExceptionGroup","Exception","GeneratorExit","KeyboardInterrupt","SystemExit","ArithmeticError","AssertionError","AttributeError","BufferError","EOFError","ImportError","LookupError","MemoryError","NameError","OSError","ReferenceError","RuntimeError","StopAsyncIteration","StopIteration","SyntaxError","SystemError","TypeError","ValueError","Warning","FloatingPointError","OverflowError","ZeroDivisionError","BytesWarning","DeprecationWarning","EncodingWarning","FutureWarning","ImportWarning","PendingDeprecationWarning","ResourceWarning","RuntimeWarning","SyntaxWarning","UnicodeWarning","UserWarning","BlockingIOError","ChildProcessError","ConnectionError","FileExistsError","FileNotFoundError","InterruptedError","IsADirectoryError","NotADirectoryError","PermissionError","ProcessLookupError","TimeoutError","IndentationError","_IncompleteInputError","IndexError","KeyError","ModuleNotFoundError","NotImplementedError","PythonFinalizationError","RecursionError","UnboundLocalError","UnicodeError","BrokenPipeError","ConnectionAbortedError","ConnectionRefusedError","ConnectionResetError","TabError","UnicodeDecodeError","UnicodeEncodeError","UnicodeTranslateError","ExceptionGroup"]++[et P "EnvironmentError" 151 "OSError",et P "IOError" 152 "OSError",eb P "open" 153 "open",eb P "quit" 154 "builtins.quit#opaque",eb P "exit" 155 "builtins.exit#opaque",eb P "copyright" 156 "builtins.copyright#opaque",eb P "credits" 157 "builtins.credits#opaque",eb P "license" 158 "builtins.license#opaque",eb P "help" 159 "builtins.help#opaque"]).toArray) 159
def b1(P:AK):Obj:=dO #[er P "builtins" 162 4,er P "__main__" 163 5,er P "_collections" 246 13] 3
def b2(P:AK):Obj:=⟨.none,As,.dict #[en P "\x69mport.loaded._collections" 185<|.bool J,en P "class._frozen_importlib.BuiltinImporter" 187<|.ref 15,en P "watched.\x69mport" 208<|.ref 19,en P "class._frozen_importlib.ModuleSpec" 218<|.ref 23,en P "sys.modules.booked-epoch" 247<|.int 3 0,en P "sys.modules.landed._collections" 248<|.bool J,en P "\x69mport.later-laid._collections" 263<|.bool J,en P "watched.library" 265<|.ref 28,en P "watched.library-objects" 0<|.str (S "\x0d") 0,en P "watched.library-deep._collections" 266<|.str (S "\x04\x00\x00\x0c\x04\x00\x00\x0c\x04\x00\x00\x03\x04\x00\x00\x0c\x08\x04dict\x02") 0] 10,#[]⟩
def b3(P:AK):Obj:=dO #[es P "__name__" 165 "__main__" 164,en P "__doc__" 166 .none,en P "__package__" 167 .none,eb P "__loader__" 168 "__main__.__loader__#opaque",en P "__spec__" 169 .none,er P "__annotations__" 170 6,er P "__builtins__" 171 4,es P "__file__" 173 "/claim/cut.py" 172,en P "__cached__" 174 .none,et P "deque" 272 "collections.deque"] 10
noncomputable def b4(P:AK):Obj:=⟨.type "module",Y 0,.plain,#[]⟩
noncomputable def b5(P:AK):Obj:=⟨.type "module",Y 3,.plain,#[]⟩
def b6(P:AK):Obj:=dO #[] 0
noncomputable def b7(P:AK):Obj:=⟨.type "tuple",As,.seq #[] 0,#[]⟩
noncomputable def b8(P:AK):Obj:=⟨.none,As,.fields #[],#[]⟩
def b9(P:AK):Obj:=⟨.type "code",As,.fields #[.str (S "<module>") 176,.str (S "<module>") 177,.str (S "/claim/cut.py") 178,.int 1 0,.int 0 0,.int 0 0,.int 0 0,.int 0 0,.ref 7,.bool O,.int 175 0,.ref 8,.none,.none,.none,.none,.int 179 0,.int 1 0,.str (S "/claim/cut.py") 180],#[]⟩
def b10(P:AK):Obj:=⟨.type "frame",As,.plain,#[Y<|.ref 9,Y<|.ref 3,Y<|.ref 3,As,Y<|.str (S "__main__") 164,As,Y<|.ref 0]⟩
def b11(P:AK):Obj:=⟨.type "tuple",As,.seq #[.str (S "deque") 182] 0,#[]⟩
def b12(P:AK):Obj:=dO #[es P "__name__" 250 "_collections" 249,eb P "__doc__" 251 "off-the-table:_collections.__doc__:shared#opaque",es P "__package__" 253 "" 252,eb P "__loader__" 254 "off-the-table:_collections.__loader__:shared#opaque",eb P "__spec__" 255 "off-the-table:_collections.__spec__:shared#opaque",eb P "_count_elements" 256 "_collections._count_elements",et P "deque" 257 "collections.deque",et P "defaultdict" 258 "collections.defaultdict",eb P "_deque_iterator" 259 "off-the-table:_collections._deque_iterator:shared#opaque",eb P "_deque_reverse_iterator" 260 "off-the-table:_collections._deque_reverse_iterator:shared#opaque",et P "_tuplegetter" 261 "collections._tuplegetter",et P "OrderedDict" 262 "collections.OrderedDict"] 12
noncomputable def b13(P:AK):Obj:=⟨.type "module",Y 12,.plain,#[]⟩
def b14(P:AK):Obj:=dO #[es P "__module__" 191 "_frozen_importlib" 188,en P "__firstlineno__" 192<|.int 971 189,eb P "__doc__" 193 "_frozen_importlib.BuiltinImporter.__doc__:str#opaque",es P "_ORIGIN" 194 "built-in" 190,eb P "find_spec" 195 "_frozen_importlib.BuiltinImporter.find_spec#opaque",eb P "create_module" 196 "_frozen_importlib.BuiltinImporter.create_module#opaque",eb P "exec_module" 197 "_frozen_importlib.BuiltinImporter.exec_module#opaque",eb P "get_code" 198 "_frozen_importlib.BuiltinImporter.get_code#opaque",eb P "get_source" 199 "_frozen_importlib.BuiltinImporter.get_source#opaque",eb P "is_package" 200 "_frozen_importlib.BuiltinImporter.is_package#opaque",eb P "load_module" 201 "_frozen_importlib.BuiltinImporter.load_module#opaque",er P "__static_attributes__" 202 16,er P "__dict__" 204 17,er P "__weakref__" 206 18] 14
def b15(P:AK):Obj:=⟨.type "type",As,.cls ⟨S "BuiltinImporter",[.type "object"],[.ref 15,.type "object"],14,S "BuiltinImporter",J,[],[],O,As,O⟩,#[]⟩
noncomputable def b16(P:AK):Obj:=⟨.type "tuple",As,.seq #[] 0,#[]⟩
def b17(P:AK):Obj:=⟨.type "getset_descriptor",As,.fields #[.str (S "__dict__") 203,.ref 15,.builtin "function.__dict__",.builtin "function.__dict__#set"],#[]⟩
def b18(P:AK):Obj:=⟨.type "getset_descriptor",As,.fields #[.str (S "__weakref__") 205,.ref 15,.builtin "ExceptionGroup.__weakref__",.none],#[]⟩
def b19(P:AK):Obj:=⟨.none,As,.seq #[.int 14 0,.str (S "\x06¿\n__module__\x06¼\x11_frozen_importlib\x06À\x0f__firstlineno__\x04½\x00ϋ\x06Á\x07__doc__\t4_frozen_importlib.BuiltinImporter.__doc__:str#opaque\x06Â\x07_ORIGIN\x06¾\x08built-in\x06Ã\tfind_spec\t2_frozen_importlib.BuiltinImporter.find_spec#opaque\x06Ä\x0dcreate_module\t6_frozen_importlib.BuiltinImporter.create_module#opaque\x06Å\x0bexec_module\t4_frozen_importlib.BuiltinImporter.exec_module#opaque\x06Æ\x08get_code\t1_frozen_importlib.BuiltinImporter.get_code#opaque\x06Ç\nget_source\t3_frozen_importlib.BuiltinImporter.get_source#opaque\x06È\nis_package\t3_frozen_importlib.BuiltinImporter.is_package#opaque\x06É\x0bload_module\t4_frozen_importlib.BuiltinImporter.load_module#opaque\x06Ê\x15__static_attributes__\x04\x00\x00\x10\x06Ì\x08__dict__\x04\x00\x00\x11\x06Î\x0b__weakref__\x04\x00\x00\x12") 0,.bool J,.bool J,.str (S "") 207,.int 22 0,.str (S "\x06å\n__module__\x06Û\x11_frozen_importlib\x06æ\x0f__firstlineno__\x04Ü\x00Ȳ\x06ç\x07__doc__\t/_frozen_importlib.ModuleSpec.__doc__:str#opaque\x06è\x08__init__\t,_frozen_importlib.ModuleSpec.__init__#opaque\x06é\x08__repr__\t,_frozen_importlib.ModuleSpec.__repr__#opaque\x06ê\x06__eq__\t*_frozen_importlib.ModuleSpec.__eq__#opaque\x06ë\x06cached\t*_frozen_importlib.ModuleSpec.cached#opaque\x06ì\x06parent\t*_frozen_importlib.ModuleSpec.parent#opaque\x06í\x0chas_location\t0_frozen_importlib.ModuleSpec.has_location#opaque\x06î\x15__static_attributes__\x04\x00\x00\x18\x06ð\x08__dict__\x04\x00\x00\x19\x06ò\x0b__weakref__\x04\x00\x00\x1a\x06ó\x08__hash__\x00") 0,.bool J,.bool J,.str (S "") 244] 1,#[]⟩
noncomputable def b20(P:AK):Obj:=⟨.type "list",As,.seq #[] 0,#[]⟩
def b21(P:AK):Obj:=dO #[es P "name" 210 "_collections" 209,er P "loader" 211 15,es P "origin" 212 "built-in" 186,en P "loader_state" 213 .none,en P "submodule_search_locations" 214 .none,er P "_uninitialized_submodules" 215 20,en P "_set_fileattr" 216<|.bool O,en P "_cached" 217 .none,en P "_initializing" 245<|.bool O] 9
def b22(P:AK):Obj:=dO #[es P "__module__" 229 "_frozen_importlib" 219,en P "__firstlineno__" 230<|.int 562 220,eb P "__doc__" 231 "_frozen_importlib.ModuleSpec.__doc__:str#opaque",eb P "__init__" 232 "_frozen_importlib.ModuleSpec.__init__#opaque",eb P "__repr__" 233 "_frozen_importlib.ModuleSpec.__repr__#opaque",eb P "__eq__" 234 "_frozen_importlib.ModuleSpec.__eq__#opaque",eb P "cached" 235 "_frozen_importlib.ModuleSpec.cached#opaque",eb P "parent" 236 "_frozen_importlib.ModuleSpec.parent#opaque",eb P "has_location" 237 "_frozen_importlib.ModuleSpec.has_location#opaque",er P "__static_attributes__" 238 24,er P "__dict__" 240 25,er P "__weakref__" 242 26,en P "__hash__" 243 .none] 13
def b23(P:AK):Obj:=⟨.type "type",As,.cls ⟨S "ModuleSpec",[.type "object"],[.ref 23,.type "object"],22,S "ModuleSpec",J,[],[],O,As,O⟩,#[]⟩
def b24(P:AK):Obj:=⟨.type "tuple",As,.seq #[.str (S "_cached") 221,.str (S "_set_fileattr") 222,.str (S "_uninitialized_submodules") 223,.str (S "loader") 224,.str (S "loader_state") 225,.str (S "name") 226,.str (S "origin") 227,.str (S "submodule_search_locations") 228] 0,#[]⟩
def b25(P:AK):Obj:=⟨.type "getset_descriptor",As,.fields #[.str (S "__dict__") 239,.ref 23,.builtin "function.__dict__",.builtin "function.__dict__#set"],#[]⟩
def b26(P:AK):Obj:=⟨.type "getset_descriptor",As,.fields #[.str (S "__weakref__") 241,.ref 23,.builtin "ExceptionGroup.__weakref__",.none],#[]⟩
noncomputable def b27(P:AK):Obj:=⟨.ref 23,Y 21,.plain,#[]⟩
def b28(P:AK):Obj:=⟨.none,As,.seq #[.int 12 0,.str (S "\x06ú\x08__name__\x06ù\x0c_collections\x06û\x07__doc__\t\x1f_collections.__doc__:str#opaque\x06ý\x0b__package__\x06ü\x00\x06þ\n__loader__\x04\x00\x00\x0f\x06ÿ\x08__spec__\x04\x00\x00\x1b\x06Ā\x0f_count_elements\t\x1c_collections._count_elements\x06ā\x05deque\x08\x11collections.deque\x06Ă\x0bdefaultdict\x08\x17collections.defaultdict\x06ă\x0f_deque_iterator\x08\x1bcollections._deque_iterator\x06Ą\x17_deque_reverse_iterator\x08#collections._deque_reverse_iterator\x06ą\x0c_tuplegetter\x08\x18collections._tuplegetter\x06Ć\x0bOrderedDict\x08\x17collections.OrderedDict") 0,.bool J,.bool O,.str (S "_collections") 264] 0,#[]⟩
def o0:=b0
def o2(P:AK):Obj:=⟨.none,As,.dict #[en P "\x69mport.loaded._collections" 185<|.bool J,en P "class._frozen_importlib.BuiltinImporter" 187<|.ref 15,en P "watched.\x69mport" 208<|.ref 19,en P "class._frozen_importlib.ModuleSpec" 218<|.ref 23,en P "sys.modules.booked-epoch" 247<|.int 3 0,en P "sys.modules.landed._collections" 248<|.bool J,en P "\x69mport.later-laid._collections" 263<|.bool J,en P "watched.library" 265<|.ref 28,en P "watched.library-objects" 0<|.str (S "\x0d") 0,en P "watched.library-deep._collections" 266<|.str (S "\x04\x00\x00\x0c\x04\x00\x00\x0c\x04\x00\x00\x03\x04\x00\x00\x0c\x08\x04dict\x02") 0,en P "type.__subclasses__.OSError.0" 322<|.int 63 0,en P "type.__subclasses__.OSError.n" 323<|.int 1 0] 12,#[]⟩
def o3(P:AK):Obj:=dO #[es P "__name__" 165 "law_ox0144_01" 1324,en P "__doc__" 166 .none,en P "__package__" 167 .none,eb P "__loader__" 168 "__main__.__loader__#opaque",en P "__spec__" 169 .none,er P "__annotations__" 170 6,er P "__builtins__" 171 4,es P "__file__" 173 "/claim/cut.py" 172,en P "__cached__" 174 .none,et P "deque" 272 "collections.deque",er P "_wall" 285 39,er P "_whence" 295 46,er P "_index" 303 53,er P "UnsupportedOperation" 325 63,er P "IOBase" 357 83,er P "BufferedIOBase" 375 98,er P "TextIOBase" 393 110,er P "BytesIO" 655 340,er P "StringIO" 942 587,er P "_kind" 953 596,er P "_fspath" 962 603,er P "_check_arg_types" 972 610,er P "isabs" 979 617,er P "join" 990 624,er P "dirname" 1000 631,er P "shlex" 1141 722,en P "_NODE_OUT" 1146<|.int (-1) 1145,en P "_NODE_DONE" 1149<|.int (-2) 1148,er P "_NodeInfo" 1186 745,er P "CycleError" 1204 760,er P "TopologicalSorter" 1323 842,er P "_law_spell" 1331 851,er P "_law_files" 1337 856,er P "_law_leader" 1345 863,er P "_law_walk" 1358 870,er P "_law_due" 1368 877,er P "_law_read" 1383 884,er P "_law_rounds" 1395 891,er P "_law_ring" 1401 896,er P "law" 1407 901] 40
def o4:=b4
def o52(P:AK):Obj:=cO "_index" "_index" "/claim/cut.py" 296 11 2 0 0 3 47 273 48 49 301 302
def o53(P:AK):Obj:=fO [4] "_index" "_index" 3 [] .none .none .none "io" 286 52 .none 0
def o79(P:AK):Obj:=cO "__new__" "IOBase.__new__" "/claim/cut.py" 340 23 1 1 0 15 74 273 75 76 346 347
def o80(P:AK):Obj:=fO [6,1] "__new__" "IOBase.__new__" 3 [] .none .none .none "io" 286 79 .none 0
def o82(P:AK):Obj:=dO #[es P "__module__" 333 "io" 338,en P "__firstlineno__" 337<|.int 20 336,er P "__new__" 348 84,er P "__static_attributes__" 349 81,er P "__dict__" 352 85,er P "__weakref__" 354 86,en P "__doc__" 355 .none] 4
def o83(P:AK):Obj:=⟨.type "type",As,.cls ⟨S "IOBase",[.type "object"],[.ref 83,.type "object"],82,S "IOBase",J,[],[.ref 98,.ref 110],O,As,O⟩,#[As,As,Y<|.str (S "IOBase") 326,Y<|.str (S "IOBase") 334,Y .none,Y<|.bool J]⟩
noncomputable def o84(P:AK):Obj:=⟨.type "staticmethod",As,.fields #[.ref 80],#[]⟩
def ao9(P:AK):Obj:=dO #[es P "__module__" 383 "io" 388,en P "__firstlineno__" 387<|.int 29 386,er P "__static_attributes__" 390 108,en P "__doc__" 391 .none] 2
def apa(P:AK):Obj:=⟨.type "type",As,.cls ⟨S "TextIOBase",[.ref 83],[.ref 110,.ref 83,.type "object"],109,S "TextIOBase",J,[],[.ref 587],O,As,O⟩,#[Y<|.ref 101,As,Y<|.str (S "TextIOBase") 376,Y<|.str (S "TextIOBase") 384,Y .none,Y<|.bool J]⟩
def apb(P:AK):Obj:=⟨.type "type",As,.cls ⟨S "BytesIO",[.ref 98],[.ref 340,.ref 98,.ref 83,.type "object"],339,S "BytesIO",J,[],[],O,As,O⟩,#[Y<|.ref 113,As,Y<|.str (S "BytesIO") 394,Y<|.str (S "BytesIO") 402,Y .none,Y<|.bool J]⟩
def apc(P:AK):Obj:=⟨.type "tuple",As,.seq #[.str (S "") 670,.str (S "\n") 671] 0,#[]⟩
def apd(P:AK):Obj:=cO "__init__" "StringIO.__init__" "/claim/cut.py" 672 204 3 0 0 3 351 273 352 353 678 679
def ape(P:AK):Obj:=fO [10,1] "__init__" "StringIO.__init__" 3 [] (.ref 350) .none .none "io" 286 356 .none 0
def apf(P:AK):Obj:=cO "__translated" "StringIO.__translated" "/claim/cut.py" 681 217 2 0 0 3 358 273 359 360 687 688
def apg(P:AK):Obj:=fO [10,2] "__translated" "StringIO.__translated" 3 [] .none .none .none "io" 286 363 .none 0
def aph(P:AK):Obj:=cO "__check" "StringIO.__check" "/claim/cut.py" 690 225 1 0 0 3 365 273 366 367 694 695
def api(P:AK):Obj:=fO [10,3] "__check" "StringIO.__check" 3 [] .none .none .none "io" 286 370 .none 0
def apj(P:AK):Obj:=cO "__line" "StringIO.__line" "/claim/cut.py" 704 233 2 0 0 3 379 273 380 381 716 717
def apk(P:AK):Obj:=fO [10,5] "__line" "StringIO.__line" 3 [] .none .none .none "io" 286 384 .none 0
def apl(P:AK):Obj:=cO "close" "StringIO.close" "/claim/cut.py" 759 285 1 0 0 3 426 273 427 428 763 764
def apm(P:AK):Obj:=fO [10,11] "close" "StringIO.close" 3 [] .none .none .none "io" 286 431 .none 0
noncomputable def apn(P:AK):Obj:=⟨.type "tuple",As,.seq #[.int (-1) 863] 0,#[]⟩
def apo(P:AK):Obj:=cO "read" "StringIO.read" "/claim/cut.py" 864 347 2 2 0 3 527 273 528 529 871 872
def apq(P:AK):Obj:=fO [10,25] "read" "StringIO.read" 3 [] (.ref 526) .none .none "io" 286 532 .none 0
noncomputable def apr(P:AK):Obj:=⟨.type "tuple",As,.seq #[.int (-1) 875] 0,#[]⟩
def aps(P:AK):Obj:=cO "readline" "StringIO.readline" "/claim/cut.py" 876 361 2 2 0 3 535 273 536 537 881 882
def apt(P:AK):Obj:=fO [10,26] "readline" "StringIO.readline" 3 [] (.ref 534) .none .none "io" 286 540 .none 0
def apu(P:AK):Obj:=dO #[es P "__module__" 663 "_io" 668,en P "__firstlineno__" 667<|.int 201 666,er P "__init__" 680 357,er P "_StringIO__translated" 689 364,er P "_StringIO__check" 696 371,er P "_StringIO__check_dot" 703 378,er P "_StringIO__line" 718 385,er P "closed" 726 393,er P "line_buffering" 734 401,er P "newlines" 742 409,er P "encoding" 750 417,er P "errors" 758 425,er P "close" 765 432,er P "__enter__" 772 439,er P "__exit__" 780 446,er P "readable" 787 453,er P "writable" 794 460,er P "seekable" 801 467,er P "isatty" 808 474,er P "flush" 815 481,er P "fileno" 822 488,er P "detach" 829 495,er P "getvalue" 836 502,er P "tell" 843 509,er P "seek" 853 517,er P "truncate" 861 525,er P "read" 873 533,er P "readline" 883 541,er P "readlines" 893 549,er P "__iter__" 900 556,er P "__next__" 908 563,er P "write" 920 570,er P "writelines" 928 577,er P "__repr__" 935 584,er P "__static_attributes__" 939 585,en P "__doc__" 940 .none] 2
def apv(P:AK):Obj:=⟨.type "type",As,.cls ⟨S "StringIO",[.ref 110],[.ref 587,.ref 110,.ref 83,.type "object"],586,S "StringIO",J,[],[],O,As,O⟩,#[Y<|.ref 343,As,Y<|.str (S "StringIO") 656,Y<|.str (S "StringIO") 664,Y .none,Y<|.bool J]⟩
noncomputable def apw(P:AK):Obj:=⟨.type "tuple",As,.seq #[.none,.none,.bool O,.bool O] 0,#[]⟩
def apx(P:AK):Obj:=cO "__init__" "shlex.__init__" "/claim/cut.py" 1015 472 5 0 0 3 640 273 641 642 1024 1025
def apy(P:AK):Obj:=fO [19,0] "__init__" "shlex.__init__" 3 [] (.ref 639) .none .none "cpy313.shlex" 1001 645 .none 0
def apz(P:AK):Obj:=cO "punctuation_chars" "shlex.punctuation_chars" "/claim/cut.py" 1027 513 1 0 0 3 647 273 648 649 1031 1032
def apA(P:AK):Obj:=fO [19,1] "punctuation_chars" "shlex.punctuation_chars" 3 [] .none .none .none "cpy313.shlex" 1001 652 .none 0
def apB(P:AK):Obj:=⟨.type "property",As,.fields #[.ref 653,.none,.none,.none,.str (S "punctuation_chars") 1034,.bool O],#[]⟩
noncomputable def uJ(P:AK):Obj:=⟨.type "tuple",As,.seq #[.none] 0,#[]⟩
def apC(P:AK):Obj:=cO "push_source" "shlex.push_source" "/claim/cut.py" 1043 520 3 0 0 3 663 273 664 665 1049 1050
def apD(P:AK):Obj:=fO [19,3] "push_source" "shlex.push_source" 3 [] (.ref 662) .none .none "cpy313.shlex" 1001 668 .none 0
def apE(P:AK):Obj:=cO "pop_source" "shlex.pop_source" "/claim/cut.py" 1052 533 1 0 0 3 670 273 671 672 1056 1057
def apF(P:AK):Obj:=fO [19,4] "pop_source" "shlex.pop_source" 3 [] .none .none .none "cpy313.shlex" 1001 675 .none 0
def apG(P:AK):Obj:=cO "get_token" "shlex.get_token" "/claim/cut.py" 1059 540 1 0 0 3 677 273 678 679 1068 1069
def apI(P:AK):Obj:=fO [19,5] "get_token" "shlex.get_token" 3 [] .none .none .none "cpy313.shlex" 1001 682 .none 0
def apK(P:AK):Obj:=cO "read_token" "shlex.read_token" "/claim/cut.py" 1071 567 1 0 0 3 684 273 685 686 1079 1080
def apL(P:AK):Obj:=fO [19,6] "read_token" "shlex.read_token" 3 [] .none .none .none "cpy313.shlex" 1001 689 .none 0
def apM(P:AK):Obj:=fO [19,7] "sourcehook" "shlex.sourcehook" 3 [] .none .none .none "cpy313.shlex" 1001 696 .none 0
noncomputable def apO(P:AK):Obj:=⟨.type "tuple",As,.seq #[.none,.none] 0,#[]⟩
def apP(P:AK):Obj:=cO "error_leader" "shlex.error_leader" "/claim/cut.py" 1090 711 3 0 0 3 699 273 700 701 1096 1097
def apQ(P:AK):Obj:=fO [19,8] "error_leader" "shlex.error_leader" 3 [] (.ref 698) .none .none "cpy313.shlex" 1001 704 .none 0
def apR(P:AK):Obj:=dO #[es P "__module__" 1010 "cpy313.shlex" 1001,en P "__firstlineno__" 1014<|.int 470 1013,er P "__init__" 1026 646,er P "punctuation_chars" 1034 654,er P "push_token" 1042 661,er P "push_source" 1051 669,er P "pop_source" 1058 676,er P "get_token" 1070 683,er P "read_token" 1081 690,er P "sourcehook" 1089 697,er P "error_leader" 1098 705,er P "__iter__" 1105 712,er P "__next__" 1113 719,er P "__static_attributes__" 1134 720,er P "__dict__" 1136 723,er P "__weakref__" 1138 724,en P "__doc__" 1139 .none] 4
def apS(P:AK):Obj:=⟨.type "type",As,.cls ⟨S "shlex",[.type "object"],[.ref 722,.type "object"],721,S "shlex",J,[],[],O,As,O⟩,#[As,As,Y<|.str (S "shlex") 1003,Y<|.str (S "shlex") 1011,Y<|.builtin "object.__new__",Y<|.bool J]⟩
def apT(P:AK):Obj:=cO "__init__" "_NodeInfo.__init__" "/claim/cut.py" 1166 732 2 0 0 3 735 273 736 737 1171 1172
def apU(P:AK):Obj:=fO [23,1] "__init__" "_NodeInfo.__init__" 3 [] .none .none .none "cpy313.graphlib" 1142 740 .none 0
def apV(P:AK):Obj:=dO #[es P "__module__" 1157 "cpy313.graphlib" 1142,en P "__firstlineno__" 1161<|.int 729 1160,er P "__slots__" 1165 734,er P "__init__" 1173 741,er P "__static_attributes__" 1177 742,er P "node" 1179 746,er P "npredecessors" 1181 747,er P "successors" 1183 748,en P "__doc__" 1184 .none] 5
def apW(P:AK):Obj:=⟨.type "type",As,.cls ⟨S "_NodeInfo",[.type "object"],[.ref 745,.type "object"],744,S "_NodeInfo",O,[S "node",S "npredecessors",S "successors"],[],O,As,O⟩,#[As,As,Y<|.str (S "_NodeInfo") 1150,Y<|.str (S "_NodeInfo") 1158,Y<|.builtin "object.__new__",Y<|.bool O]⟩
def apX(P:AK):Obj:=⟨.type "member_descriptor",As,.fields #[.str (S "node") 1178,.ref 745,.builtin "proto.slot",.builtin "proto.slot#set",.int 2 0],#[]⟩
def apY(P:AK):Obj:=⟨.type "member_descriptor",As,.fields #[.str (S "npredecessors") 1180,.ref 745,.builtin "proto.slot",.builtin "proto.slot#set",.int 1 0],#[]⟩
def apZ(P:AK):Obj:=⟨.type "member_descriptor",As,.fields #[.str (S "successors") 1182,.ref 745,.builtin "proto.slot",.builtin "proto.slot#set",.int 0 0],#[]⟩
def ap0(P:AK):Obj:=dO #[es P "__module__" 1194 "cpy313.graphlib" 1142,en P "__firstlineno__" 1198<|.int 736 1197,er P "__static_attributes__" 1199 758,er P "__weakref__" 1201 761,en P "__doc__" 1202 .none] 3
def ap1(P:AK):Obj:=⟨.type "type",As,.cls ⟨S "CycleError",[.type "ValueError"],[.ref 760,.type "ValueError",.type "Exception",.type "BaseException",.type "object"],759,S "CycleError",J,[],[],O,As,O⟩,#[Y<|.ref 751,As,Y<|.str (S "CycleError") 1187,Y<|.str (S "CycleError") 1195,Y<|.builtin "ValueError.__new__",Y<|.bool J]⟩
def ap2:=uJ
def ap3(P:AK):Obj:=cO "__init__" "TopologicalSorter.__init__" "/claim/cut.py" 1217 740 2 0 0 3 772 273 773 774 1224 1225
def ap4(P:AK):Obj:=fO [25,0] "__init__" "TopologicalSorter.__init__" 3 [] (.ref 771) .none .none "cpy313.graphlib" 1142 777 .none 0
def ap5(P:AK):Obj:=cO "_get_nodeinfo" "TopologicalSorter._get_nodeinfo" "/claim/cut.py" 1227 749 2 0 0 3 779 273 780 781 1233 1234
def ap6(P:AK):Obj:=fO [25,1] "_get_nodeinfo" "TopologicalSorter._get_nodeinfo" 3 [] .none .none .none "cpy313.graphlib" 1142 784 .none 0
def ap7(P:AK):Obj:=cO "add" "TopologicalSorter.add" "/claim/cut.py" 1236 754 2 0 0 7 786 273 787 788 1245 1246
def ap8(P:AK):Obj:=fO [25,2] "add" "TopologicalSorter.add" 3 [] .none .none .none "cpy313.graphlib" 1142 791 .none 0
def ap9(P:AK):Obj:=⟨.type "code",As,.fields #[.str (S "prepare") 1248,.str (S "TopologicalSorter.prepare") 1249,.str (S "/claim/cut.py") 1250,.int 763 0,.int 1 0,.int 0 0,.int 0 0,.int 3 0,.ref 793,.bool J,.int 273 0,.ref 794,.none,.none,.none,.ref 795,.int 1251 0,.int 763 0,.str (S "/claim/cut.py") 1252],#[]⟩
def aqa(P:AK):Obj:=fO [25,3] "prepare" "TopologicalSorter.prepare" 3 [] .none .none .none "cpy313.graphlib" 1142 796 .none 0
def aqb(P:AK):Obj:=cO "get_ready" "TopologicalSorter.get_ready" "/claim/cut.py" 1254 771 1 0 0 3 798 273 799 800 1261 1262
def aqc(P:AK):Obj:=fO [25,4] "get_ready" "TopologicalSorter.get_ready" 3 [] .none .none .none "cpy313.graphlib" 1142 803 .none 0
def aqd(P:AK):Obj:=cO "is_active" "TopologicalSorter.is_active" "/claim/cut.py" 1264 782 1 0 0 3 805 273 806 807 1268 1269
def aqe(P:AK):Obj:=fO [25,5] "is_active" "TopologicalSorter.is_active" 3 [] .none .none .none "cpy313.graphlib" 1142 810 .none 0
def aqf(P:AK):Obj:=cO "done" "TopologicalSorter.done" "/claim/cut.py" 1278 790 1 0 0 7 819 273 820 821 1289 1290
def aqg(P:AK):Obj:=fO [25,7] "done" "TopologicalSorter.done" 3 [] .none .none .none "cpy313.graphlib" 1142 824 .none 0
def aqh(P:AK):Obj:=cO "_find_cycle" "TopologicalSorter._find_cycle" "/claim/cut.py" 1292 813 1 0 0 3 826 273 827 828 1302 1303
def aqi(P:AK):Obj:=fO [25,8] "_find_cycle" "TopologicalSorter._find_cycle" 3 [] .none .none .none "cpy313.graphlib" 1142 831 .none 0
def aqj(P:AK):Obj:=dO #[es P "__module__" 1212 "cpy313.graphlib" 1142,en P "__firstlineno__" 1216<|.int 738 1215,er P "__init__" 1226 778,er P "_get_nodeinfo" 1235 785,er P "add" 1247 792,er P "prepare" 1253 797,er P "get_ready" 1263 804,er P "is_active" 1270 811,er P "__bool__" 1277 818,er P "done" 1291 825,er P "_find_cycle" 1304 832,er P "static_order" 1311 839,er P "__static_attributes__" 1316 840,er P "__dict__" 1318 843,er P "__weakref__" 1320 844,en P "__doc__" 1321 .none] 4
def aqk(P:AK):Obj:=⟨.type "type",As,.cls ⟨S "TopologicalSorter",[.type "object"],[.ref 842,.type "object"],841,S "TopologicalSorter",J,[],[],O,As,O⟩,#[As,As,Y<|.str (S "TopologicalSorter") 1205,Y<|.str (S "TopologicalSorter") 1213,Y<|.builtin "object.__new__",Y<|.bool J]⟩
def aql(P:AK):Obj:=⟨.type "code",As,.fields #[.str (S "_law_spell") 1326,.str (S "_law_spell") 1327,.str (S "/claim/cut.py") 1328,.int 845 0,.int 2 0,.int 0 0,.int 0 0,.int 3 0,.ref 847,.bool J,.int 273 0,.ref 848,.none,.none,.none,.ref 849,.int 1329 0,.int 845 0,.str (S "/claim/cut.py") 1330],#[]⟩
def aqm(P:AK):Obj:=fO [27] "_law_spell" "_law_spell" 3 [] .none .none .none "law_ox0144_01" 1324 850 .none 0
def aqn(P:AK):Obj:=⟨.type "code",As,.fields #[.str (S "_law_files") 1332,.str (S "_law_files") 1333,.str (S "/claim/cut.py") 1334,.int 851 0,.int 1 0,.int 0 0,.int 0 0,.int 3 0,.ref 852,.bool J,.int 273 0,.ref 853,.none,.none,.none,.ref 854,.int 1335 0,.int 851 0,.str (S "/claim/cut.py") 1336],#[]⟩
def aqo(P:AK):Obj:=fO [28] "_law_files" "_law_files" 3 [] .none .none .none "law_ox0144_01" 1324 855 .none 0
def aqp(P:AK):Obj:=cO "_law_leader" "_law_leader" "/claim/cut.py" 1338 873 2 0 0 3 857 273 858 859 1343 1344
def aqq(P:AK):Obj:=fO [29] "_law_leader" "_law_leader" 3 [] .none .none .none "law_ox0144_01" 1324 862 .none 0
def aqr(P:AK):Obj:=cO "_law_walk" "_law_walk" "/claim/cut.py" 1346 875 4 0 0 3 864 273 865 866 1356 1357
def aqs(P:AK):Obj:=fO [30] "_law_walk" "_law_walk" 3 [] .none .none .none "law_ox0144_01" 1324 869 .none 0
def aqt(P:AK):Obj:=cO "_law_due" "_law_due" "/claim/cut.py" 1359 885 2 0 0 3 871 273 872 873 1366 1367
def aqu(P:AK):Obj:=fO [31] "_law_due" "_law_due" 3 [] .none .none .none "law_ox0144_01" 1324 876 .none 0
def tq:=b8
def tt(P:AK):Obj:=cO "_law_read" "_law_read" "/claim/cut.py" 1369 889 2 0 0 3 878 273 879 880 1381 1382
def aqv(P:AK):Obj:=fO [32] "_law_read" "_law_read" 3 [] .none .none .none "law_ox0144_01" 1324 883 .none 0
def aqw(P:AK):Obj:=cO "_law_rounds" "_law_rounds" "/claim/cut.py" 1384 913 1 0 0 3 885 273 886 887 1393 1394
def aqx(P:AK):Obj:=fO [33] "_law_rounds" "_law_rounds" 3 [] .none .none .none "law_ox0144_01" 1324 890 .none 0
def aqy(P:AK):Obj:=⟨.type "code",As,.fields #[.str (S "_law_ring") 1396,.str (S "_law_ring") 1397,.str (S "/claim/cut.py") 1398,.int 926 0,.int 3 0,.int 0 0,.int 0 0,.int 3 0,.ref 892,.bool J,.int 273 0,.ref 893,.none,.none,.none,.ref 894,.int 1399 0,.int 926 0,.str (S "/claim/cut.py") 1400],#[]⟩
def aqz(P:AK):Obj:=fO [34] "_law_ring" "_law_ring" 3 [] .none .none .none "law_ox0144_01" 1324 895 .none 0
def aqA(P:AK):Obj:=⟨.type "code",As,.fields #[.str (S "law") 1402,.str (S "law") 1403,.str (S "/claim/cut.py") 1404,.int 931 0,.int 1 0,.int 0 0,.int 0 0,.int 3 0,.ref 897,.bool J,.int 273 0,.ref 898,.none,.none,.none,.ref 899,.int 1405 0,.int 931 0,.str (S "/claim/cut.py") 1406],#[]⟩
def uK(P:AK):Obj:=fO [35] "law" "law" 3 [] .none .none .none "law_ox0144_01" 1324 900 .none 0
def ah4(P:AK):!Obj:=[b0 P,b1 P,b2 P,b3 P,b4 P,b5 P,b6 P,b7 P,b8 P,b9 P,b10 P,b11 P,b12 P,b13 P,b14 P,b15 P,b16 P,b17 P,b18 P,b19 P,b20 P,b21 P,b22 P,b23 P,b24 P,b25 P,b26 P,b27 P,b28 P]
noncomputable def nd(o:Obj)(l r:KT):KT:=.node (Y o) l r
noncomputable def nn(l r:KT):KT:=.node As l r
noncomputable def lf(o:Obj):KT:=.node (Y o) .nil .nil
def fD(P:AK):KT:=(nd (o0 P) (nn (nd (o3 P) (nn (nn (nn (nn (nn .nil<|nn (lf<|apw P)<|lf<|aqy P)<|nn (nn .nil<|lf<|aqh P) .nil)<|nn .nil<|nn (nn .nil<|lf<|aqq P) .nil)<|nn (lf<|o79 P)<|nn (nn .nil<|lf<|apl P) .nil)<|nn .nil<|nn (nn (nn (nn .nil<|lf<|ap7 P) .nil)<|nn (nn .nil<|lf<|aqn P) .nil)<|nn .nil<|nn .nil<|nn (lf<|ap0 P) .nil)<|nn (nn (nn (nn (nn (nn .nil<|lf<|ap2 P) .nil) .nil)<|nn (nn (nn .nil<|lf<|aqb P)<|nn (lf<|apE P) .nil) .nil)<|nn (nd (o83 P) .nil<|nn (nn .nil<|lf<|aqm P) .nil)<|nn .nil<|nn (nd (api P) .nil<|lf<|tt P) .nil)<|nn (nn (nn .nil<|nn (nn (lf<|apv P) .nil) .nil)<|nn (nn (nn .nil<|lf<|aqe P)<|nn (lf<|apI P) .nil)<|nn (lf<|apf P)<|nn (lf<|apY P) .nil)<|nn .nil<|nn .nil<|nn (nn .nil<|lf<|aqx P) .nil)<|nn (nn (nn (nn (nn (nn .nil<|lf<|apk P)<|nn .nil<|nn (lf<|apQ P) .nil) .nil)<|nn (nn (nn (nn .nil<|lf<|ap6 P) .nil)<|nn .nil<|nn (lf<|apR P) .nil)<|nn (nn .nil<|nn (lf<|apK P) .nil) .nil)<|nn (nn (nn (nn (nn .nil<|lf<|ap3 P) .nil)<|nn (nn .nil<|lf<|aqj P) .nil)<|nn .nil<|nn .nil<|nn (lf<|apW P) .nil)<|nn .nil<|nn (nn (nn .nil<|lf<|aqg P)<|nn (lf<|apM P) .nil) .nil)<|nn (nn (nn (nn (nn .nil<|nn (lf<|apx P)<|lf<|uK P) .nil)<|nn .nil<|nn (nd (ape P) .nil<|lf<|aqr P)<|nn (lf<|apU P) .nil)<|nd (o53 P) (nn (nn (nn (lf<|apq P) .nil) .nil) .nil) .nil)<|nn (nn (nn (nn .nil<|nn (lf<|apA P) .nil) .nil)<|nd (ao9 P) .nil<|nn (nn .nil<|lf<|aqu P) .nil)<|nn (nn (nn (nn (lf<|apt P)<|lf<|aqa P)<|nn (lf<|apD P) .nil) .nil) .nil)<|nd (o2 P) (nd (o4 P) (nn (nn (nn (nn (nn .nil<|nd (apj P) .nil<|lf<|aqz P)<|nn (nn .nil<|lf<|aqi P)<|nn (lf<|apP P) .nil) .nil)<|nn (nd (o80 P) (nn (nn .nil<|lf<|ap5 P) .nil) .nil)<|nn (nn .nil<|lf<|apm P) .nil)<|nn (nn .nil<|nn .nil<|nn .nil<|nn (lf<|apV P) .nil)<|nn (nn (nn (nn .nil<|lf<|ap8 P) .nil)<|nn (nn .nil<|lf<|aqo P) .nil)<|nn (nn (nn .nil<|lf<|aqf P) .nil)<|nn .nil<|nn (lf<|ap1 P) .nil)<|nn (nn (nn (nn (nn .nil<|nn .nil<|lf<|aqA P) .nil)<|nn (nn (nn .nil<|lf<|aqc P)<|nn (lf<|apF P) .nil)<|nn (lf<|apd P)<|nn (lf<|apT P) .nil)<|nd (o52 P) (nd (o84 P) (nn (nn (lf<|apo P) .nil) .nil)<|nn (lf<|apb P) .nil)<|nn .nil<|nn (nn .nil<|lf<|aqv P) .nil)<|nn (nn (nn (nn .nil<|nn (lf<|apz P) .nil) .nil)<|nn .nil<|nn (nd (apg P) .nil<|lf<|aqt P)<|nn (lf<|apZ P) .nil)<|nn (nn (nn (nn (lf<|aps P)<|lf<|ap9 P)<|nn (lf<|apC P) .nil) .nil) .nil)<|nn (nn (nn .nil<|nn (nd (o82 P) .nil<|nn (nn .nil<|lf<|aql P)<|nn (lf<|apS P) .nil)<|nn (nn .nil<|nn (lf<|apL P) .nil)<|nn (lf<|aph P) .nil)<|nn (nn (nn (nn (nn .nil<|lf<|ap4 P) .nil)<|nn (nn (lf<|apu P)<|lf<|aqk P) .nil)<|nn (nn (nn .nil<|lf<|aqd P)<|nn (lf<|apG P) .nil)<|nn .nil<|nn (lf<|apX P) .nil)<|nn .nil<|nn (nn .nil<|nn (lf<|apO P) .nil)<|nn (nn .nil<|lf<|aqw P) .nil)<|nn (nn (nn (nn (nn .nil<|nn (lf<|apy P) .nil) .nil)<|nn .nil<|nn (nn .nil<|lf<|aqs P) .nil)<|nn (nn (nn (nn (lf<|apr P) .nil)<|nn (lf<|uJ P) .nil) .nil) .nil)<|nn (nn (nn (nn (nn (lf<|apn P) .nil)<|nn (lf<|apB P) .nil) .nil)<|lf<|apa P)<|nn (nn .nil<|nn (nd (apc P) .nil<|lf<|aqp P) .nil) .nil)
noncomputable def lI:!Nat:=[0,2,3,4,52,53,79,80,82,83,84,109,110,340,350,356,357,363,364,370,371,384,385,431,432,526,532,533,534,540,541,586,587,639,645,646,652,653,654,662,668,669,675,676,682,683,689,690,697,698,704,705,721,722,740,741,744,745,746,747,748,759,760,771,777,778,784,785,791,792,796,797,803,804,810,811,824,825,831,832,841,842,850,851,855,856,862,863,869,870,876,877,879,883,884,890,891,895,896,900,901]
def cM(P:AK):List<|Nat×Obj:=[(0,o0 P),(2,o2 P),(3,o3 P),(4,o4 P),(52,o52 P),(53,o53 P),(79,o79 P),(80,o80 P),(82,o82 P),(83,o83 P),(84,o84 P),(109,ao9 P),(110,apa P),(340,apb P),(350,apc P),(356,apd P),(357,ape P),(363,apf P),(364,apg P),(370,aph P),(371,api P),(384,apj P),(385,apk P),(431,apl P),(432,apm P),(526,apn P),(532,apo P),(533,apq P),(534,apr P),(540,aps P),(541,apt P),(586,apu P),(587,apv P),(639,apw P),(645,apx P),(646,apy P),(652,apz P),(653,apA P),(654,apB P),(662,uJ P),(668,apC P),(669,apD P),(675,apE P),(676,apF P),(682,apG P),(683,apI P),(689,apK P),(690,apL P),(697,apM P),(698,apO P),(704,apP P),(705,apQ P),(721,apR P),(722,apS P),(740,apT P),(741,apU P),(744,apV P),(745,apW P),(746,apX P),(747,apY P),(748,apZ P),(759,ap0 P),(760,ap1 P),(771,ap2 P),(777,ap3 P),(778,ap4 P),(784,ap5 P),(785,ap6 P),(791,ap7 P),(792,ap8 P),(796,ap9 P),(797,aqa P),(803,aqb P),(804,aqc P),(810,aqd P),(811,aqe P),(824,aqf P),(825,aqg P),(831,aqh P),(832,aqi P),(841,aqj P),(842,aqk P),(850,aql P),(851,aqm P),(855,aqn P),(856,aqo P),(862,aqp P),(863,aqq P),(869,aqr P),(870,aqs P),(876,aqt P),(877,aqu P),(879,tq P),(883,tt P),(884,aqv P),(890,aqw P),(891,aqx P),(895,aqy P),(896,aqz P),(900,aqA P),(901,uK P)]
def cN(P:AK):List<|Option Obj:=(cM P).map λp=>Y p.2
def lJ:!U:=[S "deque",S "_wall",S "_whence",S "_index",S "UnsupportedOperation",S "IOBase",S "BufferedIOBase",S "TextIOBase",S "BytesIO",S "StringIO",S "_kind",S "_fspath",S "_check_arg_types",S "isabs",S "join",S "dirname",S "shlex",S "_NODE_OUT",S "_NODE_DONE",S "_NodeInfo",S "CycleError",S "TopologicalSorter",S "_law_spell",S "_law_files",S "_law_leader",S "_law_walk",S "_law_due",S "_law_read",S "_law_rounds",S "_law_ring"]
abbrev MM(w:AW):Kq:=AN PW w
structure uL(w:AW)(h:CF):Prop where
 kt:(fD w.params).Holds h 1 0
 lim:h.NoLimit
 big:902<=h.objs.size
def jS(P:AK):CF:=⟨(ah4 P).toArray,{}⟩
noncomputable def uM(d:BC->Sem Fin)(b:Dg)(w:AW)(n:Nat):Ed->JF->Option Ed:=
 Nat.rec (motive:=λQ=>Ed->JF->Option Ed) (λQ Q=>As) (λQ i s t=>match t.atExitBegin with
  |some []=>Y s
  |some (_::_)=>As
  |none=>match Kv d b w s t with
   |some (c,e)=>i c e
   |none=>As) n
def acM{d:String->Option EL}{b:Dg}{w:AW}:∀{n:Nat}{s c:Ed}{t:JF},uM (DM d) b w n s t=Y c->KS d b w n s.abs t=Y c.abs:=by
 cases _ with
 |zero=>intro _ _ _ h;cases h
 |succ n I=>
  intro s c t h
  let h:(match t.atExitBegin with
   |some []=>Y s
   |some (_::_)=>As
   |none=>match Kv (DM d) b w s t with
    |some (c,k)=>uM (DM d) b w n c k
    |none=>As)=Y c:=h
  unfold KS;cases e:t.atExitBegin with
  |some l=>rw[e]at h;cases l<;>cases h;rfl
  |none=>
   rw[e]at h;dsimp only at h ⊢;cases H:Kv (DM d) b w s t with
   |none=>rw[H]at h;cases h
   |some r=>let(i,j):=r;rw[H]at h;rewrite [KU H];rw[I h]
def jl(d:BC->Sem Fin)(p:Dg)(w:AW)(N:Nat)(A:Option AF)(n:Nat):Ed->JF->Option Ed:=
 Nat.rec (motive:=λQ=>Ed->JF->Option Ed) (λQ Q=>As) (λQ i s t=>match K7 t with
  |true=>Y s
  |false=>match Lr N A t with
   |false=>As
   |true=>match Kv d p w s t with
    |some (c,e)=>i c e
    |none=>As) n
def aaH{d:String->Option EL}{p:Dg}{w:AW}{N:Nat}{A:Option AF}:∀{n:Nat}{s c:Ed}{t:JF},jl (DM d) p w N A n s t=Y c->topRun d p w N A n s.abs t=Y c.abs:=by
 cases _ with
 |zero=>intro _ _ _ h;cases h
 |succ n I=>
  intro s c t h
  let h:(match K7 t with
   |true=>Y s
   |false=>match Lr N A t with
    |false=>As
    |true=>match Kv (DM d) p w s t with
     |some (c,k)=>jl (DM d) p w N A n c k
     |none=>As)=Y c:=h
  unfold topRun;cases e:K7 t with
  |true=>rw[e]at h;cases h;rfl
  |false=>
   rw[e]at h;dsimp only at h ⊢;cases b:Lr N A t with
   |false=>rw[b]at h;cases h
   |true=>
    rw[b]at h;dsimp only at h ⊢;cases H:Kv (DM d) p w s t with
    |none=>rw[H]at h;cases h
    |some r=>let(i,j):=r;rw[H]at h;rewrite [KU H];rw[I h]
noncomputable def adz(os:Hp):Ed:=⟨.nil,0,{},#[],{},1,os⟩
def acO(p:Dg):(Ls p).1=(adz (Ls p).1.os).abs:=rfl
def adA(w:AW)(os:Hp):(uM (dQ fz) (K8 PW) w 20000 (adz os) (Ls<|K8 PW).2).bind (λs=>(fenceModules? PW s.abs).map (λs=>(s.heap,s.gens,s.drawn,s.toks)))=
  Y (jS w.params,(#[]:Array G5),({}:Lu),273):=by
 kernel_rfl
def ajo(w:AW):(HL FJ PW w 20000).map (λs=>(s.heap,s.gens,s.drawn,s.toks))=Y (jS w.params,(#[]:Array G5),({}:Lu),273):=by
 let h:=adA w (Ls<|K8 PW).1.os;rw[<-iy,<-gD]at h;let(s,H,e):=Option.bind_eq_some_iff.mp h;unfold HL
 rewrite [acO,acM H]
 rw[e]
noncomputable def aqB:!Obj->Nat->BT->BT
 |[],_,T=>T
 |o::l,n,T=>aqB l (n+1)<|T.ins n o
def ah5(P:AK)(os:Hp):Ed:=⟨aqB (ah4 P) 0 .nil,29,{},#[],{},273,os⟩
def QV:Dg:={PW with main:={PW.main with body:=PW.main.body.drop 35}}
def qd(s:Ed):List<|Option Obj:=lI.map λa=>match Fg a s.n with
 |true=>match s.tree.get a with
  |some o=>alive o
  |none=>As
 |false=>As
noncomputable def at9:OpenRow:=Ft.row
noncomputable def yP(s:AJ):Bool:=recOk [] s
def ran(w:AW)(os:Hp):(jl (dQ fz) PW w 29 (Y<|.ref 6) 8000 (ah5 w.params os)<|topStub PW).map (λs=>
   ((J6 (D2 PW.main.body) (jS w.params) s.abs.heap&&JG PW s.abs.heap&&Kw s.abs&&Kx (jS w.params) s.abs.heap),
    openSeen QV lJ (D2 PW.main.body) yP J s.abs,qd s))=Y (J,openGood QV lJ,cN w.params):=by
 kernel_rfl
noncomputable def iX:!(Nat×Obj)->Nat->Option Obj
 |[],_=>As
 |p::l,a=>match CD p.1 a with
  |true=>Y p.2
  |false=>iX l a
def aar:∀{l:List<|Nat×Obj},iX l a=Y o->(a,o)∈l:=by
 cases _ with
 |nil=>intro h;cases h
 |cons p l i=>
  intro h;unfold iX at h;split at h
  .rename_i e;clear i;cases h;have:=Cg e;clear e;subst this;rw[aE]
  .rw[.tail _<|i h]
noncomputable def lK(l:List<|Nat×Obj):KT->Nat->Nat->KT
 |.nil,_,_=>.nil
 |.node v L R,s,b=>.node (match v with|none=>As|some _=>iX l b) (lK l L (2*s)<|s+b)<|lK l R (2*s)<|2*s+b
theorem eO(H:∀p∈l,h.get? p.1=Y p.2):∀{t:KT}{s b:Nat},lK l t s b=t->Ky h s b t
 |.nil,_,_,_=>Z9
 |.node v L R,s,b,e=>by unfold lK at e;let(E,c,d):=LO e;rw[(λo i=>?_,eO H c,eO H d)];clear e;subst i;rw[H _<|aar E]
def Yf(s:AJ):List<|Option Obj:=lI.map λa=>s.heap.get? a
def Ya(w:AW):List<|Option Obj:=cN w.params
def aah P:lI=(cM P).map (·.1):=by kernel_rfl
def af3(e:qd s=cN P):Yf s.abs=cN P:=by
 delta qd at e;delta Yf;delta cN at e ⊢;rw[aah P,BW]at e ⊢;rw[IG]at e ⊢;intro p j;let z:=e p j;dsimp only[LK]at z ⊢;split at z
 .rename_i h;split at z
  .rename_i o i;rw[<-z];rw[abs_get (Nat.blt_eq.mp h) i]
  .rw[nomatch z]
 .rw[nomatch z]
def acP P:((jS P).isNs G6&&(#[]:Array G5).size==0,(jS P).objs.size,(jS P).nsMap G6 "__annotations__")=(J,29,Y (.ref 6)):=by kernel_rfl
def af4{Xt:AJ->Bool}{α:Type}{n:AJ->α}{l:AW->α}{yt:Ed->α}{H:AK->CF}{S0:AW->Hp->Ed}{i:BC->Sem Fin}
  (hd:i=DM FJ)
  (b:∀w:AW,(HL FJ p w N).map (λs=>(s.heap,s.gens,s.drawn,s.toks))=Y (H w.params,(#[]:Array G5),({}:Lu),c))
  (j:∀P:AK,((H P).isNs G6&&(#[]:Array G5).size==0,(H P).objs.size,(H P).nsMap G6 "__annotations__")=(J,m,A))
  (x:∀w os,(S0 w os).abs=⟨H w.params,#[],{},c,os⟩)
  (run:∀(w:AW)(os:Hp),(jl i p w m A M (S0 w os)<|topStub p).map (λs=>
   ((J6 (D2 p.main.body) (H w.params) s.abs.heap&&JG p s.abs.heap&&Kw s.abs&&Kx (H w.params) s.abs.heap),openSeen q loose (D2 p.main.body) Xt J s.abs,yt s))=Y (J,openGood q loose,l w))
  (B:∀w s,yt s=l w->n s.abs=l w)(le:DW M N=J):LeftO p q loose Xt n l N:=λw=>by
 subst hd;let((h,G,d,k,os),e,E):=Bj.mp<|b w;clear b;obtain⟨rfl,rfl,rfl,rfl⟩:h=H w.params/\G=#[]/\d={}/\k=c:=by simp only[HM]at E;rw[E]
 obtain⟨C,I,L⟩:_/\_/\_:=by simpa only[HM]using j w.params
 let(sT,Q,r2):=Bj.mp<|run w os;obtain⟨l1,l2,V⟩:_/\_/\_:=by simpa only[HM]using r2
 let r:=aaH Q;rw[x]at r;let r:=topRun_mono (N-M) _ _ _ _ r;rw[show M+(N-M)=N by have:=Cf le;rw[Hu this]]at r;let t:K9 FJ p w N ⟨H w.params,#[],{},k,os⟩=Y sT.abs:=by delta K9;dsimp only;rw[C,I,L,r];show(match J6 (D2 p.main.body) (H w.params) sT.abs.heap&&JG p sT.abs.heap&&Kw sT.abs&&Kx (H w.params) sT.abs.heap with|true=>_|false=>_)=_;rw[l1,]
 delta openEnds;rw[e,];show(K9 FJ p w N _).map _=_;rw[t,];rw[Z8 Y<|Prod.ext l2<|B w sT V]
def aqC:dQ fz=DM FJ:=by rw[<-gD,<-iy]
def left:LeftO PW QV lJ yP Yf Ya 20000:=
 af4 (yt:=qd) (S0:=λw os=>ah5 w.params os) aqC ajo acP (λw os=>(by kernel_rfl)) ran (λQ Q e=>af3 e) rfl
noncomputable abbrev aL:OpenLaw:=Ft
def fm:DefRec×!(U×Ea):=match defOf QV (S "law")with
 |some x=>x
 |none=>(⟨S "",Bs,[],Bs,Bs⟩,[])
def bH{a b:Bool}(h:a=J)(g:b=J):(a&&b)=J:=by rw[h,g];rfl
def aqD:sreFenced aL.prog.main=J:=by kernel_rfl
def aqE:((Kz aL.prog.main.body).isEmpty||lookedIntoSs (Kz aL.prog.main.body) aL.prog.main.body)=J:=by kernel_rfl
def aqF:namesResolve aL.prog=J:=by kernel_rfl
def aqG:aL.prog.boundNames.all (λn=>(not<|worldNames.contains n))=J:=by kernel_rfl
def aqH:noRoadLSs {strict:=(not<|(D2 aL.prog.main.body).all cThrough.contains),foot:=As,bare:=(["vars","dir","locals"]:!U).filter<|readsOut aL.prog aL.prog.main.body} aL.prog.main.body=J:=by kernel_rfl
def aqI:I1 aL.prog aL.prog.main.body (λQ n=>attrL n)=J:=by kernel_rfl
def acQ:looksOpen aL.prog=J:=bH (bH (bH (bH (bH aqD aqE) aqF) aqG) aqH) aqI
def acR(b:Bool)(h:b=J):(b&&aL.row.loose.isEmpty&&aL.row.makers.isEmpty&&
 (aL.row.records.isEmpty||aL.row.raises.all λC=>C.1!=.builtin "AttributeError"&&C.1!=.builtin "TypeError")&&
 (aL.row.raises.all λC=>match C.1 with|.builtin n=>(not<|aL.row.prog.boundNames.contains (BV n))&&(not<|ofTheWorld.contains n)|.own _=>J)&&
 decide (aL.row.records.map (·.1)).Nodup&&(aL.row.records.all λx=>(not<|x.1.opensWith "__")&&(not<|IH x.1)&&aL.row.prog.boundNames.contains x.1&&x.2.all λf=>(not<|f.1.opensWith "__"))&&
 aL.row.toRowW.solid&&aL.row.pre.litsOk&&aL.row.post.litsOk&&aL.row.raises.all (·.2.litsOk)&&
 aL.row.mutates.all (λi=>match aL.row.args[i]? with
  |some c=>(not<|c.arms.any WShape.isObj)
  |none=>O)&&
 aL.row.within.all (λi=>decide<|i<aL.row.args.length)&&aL.row.same.all (λi=>decide<|i<aL.row.args.length))=J:=by
 subst h;kernel_rfl
def aaK:(aL.row.prog.boundNames.contains aL.row.name&&(not<|startupNames.contains aL.row.name))=J:=by kernel_rfl
def af5:aL.row.wellSaid=J:=bH (bH (acR _ acQ) (Bv.mp aaK).1) (Bv.mp aaK).2
def sd1:decide (aL.foot<=(behindTheImports aL.prog).length)=J:=by kernel_rfl
def sd2:aL.footing.all footLine=J:=by kernel_rfl
def sd3:noClassBlock aL.prog aL.footing=J:=by kernel_rfl
def sd4:(aL.most.all (λn=>decide (63<=n))&&aL.bound.all (λn=>decide (2^63<=n)))=J:=by kernel_rfl
def sd5:noRoadLSs {strict:=J,foot:=Y aL.bound',writes:=aL.writes,may:=aL.may} aL.footing=J:=by kernel_rfl
def sd6:(defStands aL.about aL.above&&aL.namesIt)=J:=by kernel_rfl
def sd7:(["type","isinstance","issubclass","getattr","hasattr"]:!U).all (λn=>aL.about !=[n])=J:=by kernel_rfl
def sd8:aL.bound'.all (λn=>(not<|IH n)||aL.about==[n]||(not<|aL.reads n))=J:=by kernel_rfl
def sd9:((not aL.writes)||(aL.prog.main.body.flatMap JW).all λn=>(not<|aL.reads n))=J:=by kernel_rfl
def aua:(aL.prog.main.body.flatMap JW).all (λn=>(not<|aL.reads n)||(drawsOf n aL.prog.main.body).all λm=>m.2!=("attrgetter":U)&&m.2!=("methodcaller":U))=J:=by kernel_rfl
def aub:I1 aL.prog aL.footing (λsc n=>((not<|(["type","isinstance","issubclass","getattr","hasattr"]:!U).contains n)||sc.names.lookup n==Y .globalImplicit)&&
  (aL.may !=Y n||sc.kind==.module||sc.names.lookup n==Y .globalImplicit))=J:=by kernel_rfl
def auc:(aL.own.contains aL.name&&aL.own.eraseDups.length==aL.own.length&&aL.own.all (λn=>(not<|IH n)))=J:=by kernel_rfl
def aud:I1 aL.prog aL.above (λQ n=>(not<|aL.own.contains n))=J:=by kernel_rfl
def aue:(I1 aL.prog aL.footing λsc n=>sc.kind==.module||sc.names.lookup n !=Y .globalExplicit)=J:=by kernel_rfl
def adB:aL.wellSaid=J:=by let(b,E):=Bv.mp sd4;let(f1,c):=Bv.mp sd6;let(g,G):=Bv.mp auc;let(d,e):=Bv.mp g;rw[bH (bH (bH (bH (bH (bH (bH (bH (bH (bH (bH (bH (bH (bH (bH (bH (bH (bH af5 sd1) sd2) sd3) b) E) sd5) f1) c) sd7) sd8) sd9) aua) aub) d) e) G) aud) aue]
def af6:defOf QV aL.row.name=Y (fm.1,fm.2):=by kernel_rfl
def af7:aL.row.prog.theDef aL.row.name=Y (fm.1.params,fm.1.body,fm.1.scope):=by kernel_rfl
def ajp:kwWritten? fm.1.params.kwonlyargs fm.1.params.kw_defaults=Y fm.2:=by kernel_rfl
def ajq:(chainsOk QV&&opensWell aL.row.prog&&(frees aL.row.toRowW&&aL.row.within.isEmpty))=J:=by kernel_rfl
def adC:aL.row.prog.bare:=⟨rfl,rfl,rfl,rfl,rfl,by kernel_rfl⟩
def aaI:aL.row.toRowW.promised:=⟨[.list [.int 3]],by kernel_rfl,by kernel_rfl⟩
section
set_option backward.match.sparseCases true
def uN:Prop:=∀(w:AW)(s:AJ)(L:AL)(o:Obj)(n:Nat)(x:List<|Int×Nat),uL w s.heap->s.heap.get? 879=Y (tq w.params)->s.gens=#[]->s.heap.get? L=Y o->o.cls=.type "list"->o.data=.seq (x.map λp=>.int p.1 p.2).toArray n->x.length<=63->L≠1->
 Be (MM w) callerA (.call (.ref 901) ⟨[.ref L],[]⟩) (λr c=>r=.ok (.ret<|.bool J)/\(∀b o,s.heap.get? b=Y o->b≠879->c.heap.get? b=Y o)/\
  (∃m,c.heap.get? 879=Y {tq w.params with data:=.fields m})/\c.os=s.os/\c.gens=s.gens) s
def YP(w:AW)(h:CF):Prop:=∀p∈cM w.params,h.get? p.1=Y p.2
def aqJ w s (e:Yf s=Ya w):YP w s.heap:=by delta Yf Ya cN at e;rw[aah w.params,BW]at e;rw[IG]at e;rw[e]
def ah6 P:iX (cM P) 879=Y (tq P):=by kernel_rfl
def af8:∀{vs:!AF}{as:!AL},ReadsAllW R cl h vs ds as->(∀d∈ds,KV R d .int=J)->∃xs:List<|Int×Nat,vs=xs.map λp=>.int p.1 p.2:=by
 cases ds with
 |nil=>rw[λr Q=>⟨[],(II r).1⟩]
 |cons d ds I=>
  intro vs as r e;let(i,rfl):=hasW_int<|e _ aE;let(v,vs,_,_,b,_,r,rs):=Ip r;let(xs,E):=I rs λd H=>e d<|.tail _ H
  let(t,c,_):=readsW_int_inv r;rw[((i,t)::xs,b.trans<|congr (Z8 Bc c) E)]
def es3(P:AK):Array B5:=match(o3 P).data with
 |.dict es _=>es
 |_=>#[]
def ep3(P:AK):Nat:=match(o3 P).data with
 |.dict _ n=>n
 |_=>0
def af9 P:(o3 P).data=.dict (es3 P) (ep3 P):=by kernel_rfl
def ajr P:nsFind (es3 P) fm.1.name=Y (.ref 901):=by kernel_rfl
def adD cls:aL.row.toRowW.claim.raises args cls=O:=rfl
def abr(main:uN):aL.Holds:=by
 rw[holds_law adB λj=>?_]
 rw[holds_open (q:=QV) (loose:=lJ) (Xt:=yP) (XP:=λ_ _=>True) (Yf:=Yf) (Ya:=Ya) (YP:=YP) (d:=fm.1) (kwd:=fm.2) (N:=20000) left aqJ (λw h M y k p hp=>k _ _<|y p hp) (λ_ _=>Z9) (λ_ _ _ _ _=>Z9)
  af6 af7 ajp (λs _=>recFacts_nil rfl) rfl j ajq adC aaI ?_]
 intro w s₀ c mg mb G aW fa o pm cd doc dV kV ho hd hcd hD Q hg args gh as H hlay V hwl hlo;let l:∀a o,iX (cM w.params) a=Y o->c.heap.get? a=Y o:=λa o e=>aW _<|aar e
 let h3:=l 3 _ ((by kernel_rfl):iX (cM w.params) 3=Y (o3 w.params))
 let hfa:fa=901:=by
  let(o',es,ep,I,g2,_,g4):=G.T.g;let I:c.heap.get? 3=Y o':=I;rw[h3]at I;rcases I with⟨⟩
  rw[af9]at g2;rcases g2 with⟨⟩
  let z:=g4 fm.1.name;rw[ajr,Q]at z;rcases z with⟨⟩
  rfl
 subst hfa;let A:JX [] args [.list .int]=J:=(Bv.mp H).1;cases args using A8 with
 |nil=>rw[nomatch A]
 |cons d ds=>
  let(q1,q2):=Bv.mp (show(KV [] d (.list .int)&&JX [] ds [])=J from A);cases ds using A8 with
  |cons=>rw[nomatch q2]
  |nil=>
  let(i,rfl,q3):=hasW_list q1;let(v,vs,_,_,rfl,rfl,r,rs):=Ip V;let(rfl,rfl):=II rs;let(L,ls,as',rfl,(oL,r1,r2,n,r3),r4,rfl):=readsW_list_inv r;let(ys,y1):=af8 r4<|hasItemsW_at q3;let y2:ys.length=i.length:=(Ap _).symm.trans<|(Z8 Eh y1).symm.trans r4.length
  let B:=((by
    let(_,H):=Bv.mp H;by_cases hl:i.length<=63
    .rw[hl]
    .exfalso;let ea:Hq [] (.not<|.lt (.lit<|.int 63)<|.len<|.arg 0) {args:=[.list i]}=Y (.bool<|(not<|decide ((63:Int)<(i.length:Int)))):=rfl
     let e:Hq [] aL.row.pre {args:=[.list i]}=match Hq [] (.not<|.lt (.lit<|.int 63)<|.len<|.arg 0) {args:=[.list i]}with
      |some (.bool O)=>Y (.bool O)
      |some (.bool J)=>(match Hq [] (.lit<|.bool J) {args:=[.list i]}with
       |some (.bool x)=>Y (.bool x)
       |_=>As)
      |_=>As:=rfl
     rw[ea,ZT<|om1 hl]at e
     let M:(match Hq [] aL.row.pre {args:=[.list i]}with
      |some (.bool J)=>J
      |_=>O)=J:=H
     rw[e]at M
     rw[nomatch M]):i.length<=63)
  let hLo:L≠1:=by have:=hlo L<|Ao _ aE;intro e;subst e;simp[Iq]at this
  let big:902<=c.heap.objs.size:=AP<|l 901 _ ((by kernel_rfl):iX (cM w.params) 901=Y (uK w.params));let St:uL w c.heap:=⟨eO aW (by kernel_rfl),G.T.nolimit,big⟩;rw[wpAny_call<|BK (main w c L oL n ys St (l 879 _<|ah6 _) hg r1 r2 (by rw[r3,<-y1]) (om2 y2 B) hLo) ?_];rintro ab s' ⟨e1,e2,E,e4,e5⟩;subst e1;rw[(.inl ⟨_,.bool J,[],rfl,adD,.bool J,(by kernel_rfl),λ_=>⟨AS,λ_ h=>(nomatch h)⟩⟩,⟨λb o e=>?_,λb o e=>?_⟩,e4,by rw[e5,hg];rw[.empty])]
  .by_cases C:b=879
   .subst C;let h9:=l 879 _<|ah6 _;rw[h9]at e;rcases e with⟨⟩
    let(m,E):=E;let(vs,t1,t2,t3):=(⟨_,rfl,rfl,rfl⟩:∃vs,(tt w.params).cls=.type "code"/\(tt w.params).data=.fields vs/\vs[11]?=Y (.ref 879));rw[.inr<|.inl ⟨⟨883,_,vs,l 883 _ (by kernel_rfl),t1,t2,t3⟩,rfl,#[],m,rfl,by rw[E,DX]⟩]
   .rw[.inl<|e2 b o e C]
  .by_cases C:b=879
   .subst C;let(m,E):=E;rw[(_,E)]
   .rw[(o,e2 b o e C)]
end
set_option genInjectivity true in
set_option genCtorIdx true in
inductive SV where
 |none
 |bool (b:Bool)
 |int (i:Int)
 |str (s:U)
 |ty (n:String)
 |bi (id:String)
 |ref (a:AL)
 |ell
 |nim
 |flt (b:UInt64)
 |byt (b:Array UInt8)
set_option genInjectivity true in
set_option genCtorIdx true in
inductive SO where
 |seq (cls:AF) (xs:!SV)
 |nss (cls:AF) (fs:!(SV×SV)) (sl:!(Option SV))
 |inst (cls:AF) (d:Option AL) (sl:!(Option SV))
 |fld (cls:AF) (vs:!SV)
 |cell (cls:AF) (v:Option SV)
 |am (o:Obj)
 |dct (cls:AF) (fs:!(SV×SV)) (ep:Nat)
noncomputable abbrev SO.ns(cls:AF)(fs:List<|SV×SV):SO:=.nss cls fs []
structure Nd where
 k:U
 np:Int
 sc:!U
 ia:Nat
 da:Nat
 sa:Nat
structure Lv where
 nm:U
 cs:!Nat
 r:!Nat
 ln:Int
 t:Nat
 j:Nat
 d:Nat
set_option genCtorIdx true in
inductive bu where
 |tok (v:SV) (lead:U)
 |ask (a lead:U) (ah:!U)
 |opn
set_option genInjectivity true in
structure Gs where
 an:Lv
 st:SV
 lv:!Lv
 s:Int
 ae:List<|bu×Nat×Nat
 bs:!SV
structure Xd where
 e:Nat:=0
 T:Nat:=0
 v:Nat->SV:=λ_=>.none
 t:Nat->SV:=λ_=>.none
 sl:List<|Option SV:=[]
structure Uq9 where
 na:!Nd:=[]
 nb:!Nd:=[]
 nd:Nd:=⟨⟨#[]⟩,0,[],0,0,0⟩
 g:Gs:=⟨⟨⟨#[]⟩,[],[],0,0,0,0⟩,.none,[],0,[],[]⟩
 fs:Nat->!(SV×SV):=λ_=>[]
 x:Xd:={}
structure aW where
 n:Nat->Nat
 s:Nat->U
 z:Nat->Int
 b:Nat->Bool
 l:Nat->!SV
 r:Nat->!(AL×SO)
 d:Nat->!(U×SV)
 u:Uq9
noncomputable def yQ(n:Nat->Nat)(s:Nat->U)(z:Nat->Int)(b:Nat->Bool)(l:Nat->!SV):aW:=⟨n,s,z,b,l,λQ=>[],λQ=>[],{}⟩
structure aQ where
 y:aW
 t:Nat->Nat
 p:Nat->Nat->Int×Nat×Nat
 e:Nat->Nat
structure lL where
 r:BL
 ups:List<|Nat×Obj
 al:List<|AL×Obj
 cb:Nat
 tb:Nat
 drop:Bool:=O
inductive Or where
 |nil
 |num (x:Nat) (r:Or)
 |az (sh:aQ->lL) (next:aQ->Or)
 |alt (a b:Or)
 |obj (o:Obj) (r:Or)
inductive Rq where
 |p (q:Prop)
 |o (a:AL) (o:Obj)
noncomputable def ol:!Nat->Or->Or
 |[],r=>r
 |x::l,r=>.num x<|ol l r
structure rJ where
 v:Nat->AF
 k:Nat
 ps:List<|AL×AL
 qs:!Prop
 ag:Or
structure Cx where
 prog:Dg
 w:AW
 kt:KT
 hd:Option AF
 sp:Nat->String->Hw->Or->BT->cX->Option rJ
inductive Kn where
 |base
 |ret (lv:Nat) (c:BC) (hd:Option AF) (k:BL->Sem Fin) (κ:Kn)
def Kn.lv:Kn->Nat
 |.base=>0
 |.ret lv _ _ _ _=>lv
inductive uO where
 |ret (r:BL)
 |again (c:BC)
inductive co where
 |done (e:uO) (T:BT) (n:Nat) (ad:cX) (t:Nat) (ps:!(AL×AL)) (qs:!Rq)
 |az (sh:aQ->lL) (c:BC) (κ:Kn) (T:BT) (n:Nat) (ad:cX) (t:Nat) (ps:!(AL×AL)) (qs:!Rq) (next:aQ->co)
 |stk (next:Pos->!(BC×Pos)->co)
 |alt (a b:co)
 |fail (k:Nat)
abbrev Rs:=Or->BT->Nat->cX->Nat->Nat->!(AL×AL)->!Rq->co
abbrev jd:=Bool->BC->Kn->Sem Fin->Rs
noncomputable def yK(k:Nat):Rs:=λQ Q Q Q Q Q Q Q=>.fail k
noncomputable def ot:BC->Bool
 |.whileLoop ..=>J
 |.forLoop ..=>J
 |.compLoop ..=>J
 |_=>O
def auf:BC->Bool
 |.compStart ..=>J
 |c=>ot c
noncomputable def cQ(hd:Option AF):Kn->Option AF
 |.base=>hd
 |.ret _ _ h _ κ=>h.or<|cQ hd κ
noncomputable def cg:!(Nat×Obj)->BT->BT
 |[],T=>T
 |p::l,T=>cg l<|T.set p.1 λQ=>p.2
noncomputable def bJ:!(AL×Obj)->BT->Nat->cX->(BT->Nat->cX->co)->co
 |[],T,n,ad,k=>k T n ad
 |p::l,T,n,ad,k=>match(T.ins n p.2).get n with
  |some _=>bJ l (T.ins n p.2) (n+1) ((n,p.1)::ad) k
  |none=>.fail 20
noncomputable def qI(I:jd)(r:BL)(κ:Kn)(ag:Or)(T:BT)(n:Nat)(ad:cX)(d i:Nat)(ps:List<|AL×AL)(qs:!Rq):co:=match κ with
 |.base=>.done (.ret r) T n ad (d+i) ps qs
 |.ret _ c _ k κ=>I O c κ (k r) ag T n ad d i ps qs
noncomputable def lq(b:Bool)(T:BT):BT:=match b with
 |true=>.nil
 |false=>T
noncomputable def qe(b:Bool)(n:Nat):Nat:=match b with
 |true=>0
 |false=>n
noncomputable def gx(b:Bool)(ad:cX):cX:=match b with
 |true=>[]
 |false=>ad
def iY(I:jd)(b:aQ->lL)(c:BC)(κ:Kn)(ag:aQ->Or)(T:BT)(n:Nat)(ad:cX)(d i:Nat)(ps:List<|AL×AL)(qs:!Rq):co:=
 .az b c κ T n ad (d+i) ps qs λx=>bJ (b x).al (lq (b x).drop<|cg (b x).ups T) (qe (b x).drop n) (gx (b x).drop ad) λe N A=>qI I (b x).r κ (ag x) e N ((N,(b x).cb)::A) (b x).tb 0 [] []
noncomputable def xn:!Prop->!Rq->!Rq
 |[],r=>r
 |q::l,r=>.p q::xn l r
noncomputable def uP(b:Bool)(n:Nat)(v:co):co:=match b with
 |true=>v
 |false=>.fail n
noncomputable def t8(b:Bool)(n:Nat)(v:co):co:=match b with
 |true=>.fail n
 |false=>v
noncomputable def vY{α:Type}(o:Option α)(n:Nat)(f:α->co):co:=match o with
 |some x=>f x
 |none=>.fail n
noncomputable def bV(b:Bool)(x y:co):co:=match b with
 |true=>x
 |false=>y
noncomputable def aqK(d:Kb)(F:JE->co)(z:co):co:=match d with
 |.func b=>F b
 |_=>z
noncomputable def aqL(f:AF)(F:AL->co)(z:co):co:=match f with
 |.ref a=>F a
 |_=>z
noncomputable def aqM(c:BC)(F:String->Hw->co)(H:AF->Hw->co)(z:co):co:=match c with
 |.builtin id args=>F id args
 |.call f args=>H f args
 |_=>z
def nE(V:Cx)(x:Nat)(a:AL)(T:BT)(ad:cX)(ps:List<|AL×AL)(k:Obj->!(AL×AL)->co):co:=match x with
 |0=>vY (V.kt.get a) 2 λo=>k o ps
 |x+1=>vY (T.get x) 3 λo=>k o<|(a,bG ad x)::ps
def xo(I:jd)(a:AL)(args:Hw)(κ:Kn)(o:Obj)(ag:Or)(T:BT)(n:Nat)(ad:cX)(d i:Nat)(ps:List<|AL×AL)(qs:!Rq):co:=aqK o.data (λb=>t8 b.scope.isGenerator 22<|t8 b.scope.isCoroutine 22<|I J (.call (.ref a) args) κ (uI a b args) ag T n ad d i ps qs)<|I O (.call (.ref a) args) κ (fA (.ref a) args) ag T n ad d i ps qs
def aqN(V:Cx)(I:jd)(f:AF)(args:Hw)(κ:Kn)(ag:Or)(T:BT)(n:Nat)(ad:cX)(d i:Nat)(ps:List<|AL×AL)(qs:!Rq):co:=aqL f (λa=>match ag with
  |.nil=>.fail 1
  |.num x ag=>nE V x a T ad ps λo ps=>xo I a args κ o ag T n ad d i ps qs
  |.az c ag=>iY I c (.call (.ref a) args) κ ag T n ad d i ps qs
  |.alt _ _=>.fail 27
  |.obj o ag=>xo I a args κ o ag T n ad d i ps<|.o a o::qs) (I O (.call f args) κ (fA f args) ag T n ad d i ps qs)
def blt(V:Cx)(I:jd)(id:String)(args:Hw)(κ:Kn)(ag:Or)(T:BT)(n:Nat)(ad:cX)(d i:Nat)(ps:List<|AL×AL)(qs:!Rq):co:=match ag with
 |.nil=>.fail 1
 |.num y ag=>match y with
  |0=>I O (.builtin id args) κ (dQ fz<|.builtin id args) ag T n ad d i ps qs
  |y+1=>vY (V.sp y id args ag T ad) 23 λp=>qI I (.ok<|.ret<|p.v<|d+i) κ p.ag T n ad d (i+p.k) (p.ps++ps)<|xn p.qs qs
 |.az c ag=>iY I c (.builtin id args) κ ag T n ad d i ps qs
 |.alt _ _=>.fail 27
 |.obj _ _=>.fail 27
def aug(I:jd)(c:BC)(κ:Kn)(ag:Or)(T:BT)(n:Nat)(ad:cX)(d i:Nat)(ps:List<|AL×AL)(qs:!Rq):co:=bV (auf c) (match ag with
  |.nil=>.fail 1
  |.num _ ag=>I O c κ (dQ fz c) ag T n ad d i ps qs
  |.az b ag=>iY I b c κ ag T n ad d i ps qs
  |.alt _ _=>.fail 27
  |.obj _ _=>.fail 27) (match ag with
  |.az b ag=>iY I b c κ ag T n ad d i ps qs
  |ag=>I O c κ (dQ fz c) ag T n ad d i ps qs)
noncomputable def aqO(f:Or->co)(o:Or):co:=Or.rec (motive:=λQ=>co) (f .nil) (λx r Q=>f<|.num x r) (λc nx Q=>f<|.az c nx) (λQ Q x y=>.alt x y) (λb r Q=>f<|.obj b r) o
def ajs(V:Cx)(I:jd)(c:BC)(κ:Kn)(ag:Or)(T:BT)(n:Nat)(ad:cX)(d i:Nat)(ps:List<|AL×AL)(qs:!Rq):co:=aqM c (λid args=>blt V I id args κ ag T n ad d i ps qs) (λf args=>aqN V I f args κ ag T n ad d i ps qs)<|aug I c κ ag T n ad d i ps qs
def eP(V:Cx)(I:jd)(c:BC)(κ:Kn)(ag:Or)(T:BT)(n:Nat)(ad:cX)(d i:Nat)(ps:List<|AL×AL)(qs:!Rq):co:=aqO (λag=>ajs V I c κ ag T n ad d i ps qs) ag
def ajt(V:Cx)(I:jd)(fn:Bool)(κ:Kn)(c:BC)(ag:Or)(T:BT)(n:Nat)(ad:cX)(d i:Nat)(ps:List<|AL×AL)(qs:!Rq):co:=match κ with
 |.base=>bV (ot c) (match ag with
   |.nil=>t8 fn 24 (.done (.again c) T n ad (d+i) ps qs)
   |ag=>uP (jQ c) 6<|eP V I c .base ag T n ad d i ps qs) (uP (jQ c) 6<|eP V I c .base ag T n ad d i ps qs)
 |.ret lv C H k b=>uP (jQ c) 6<|eP V I c (.ret lv C H k b) ag T n ad d i ps qs
def auh(V:Cx)(I:jd)(fn:Bool)(c:BC)(κ:Kn)(C:BC)(hd:Option AF)(k:BL->Sem Fin)(ag:Or)(T:BT)(n:Nat)(ad:cX)(d i:Nat)(ps:List<|AL×AL)(qs:!Rq):co:=t8 fn 24<|uP (Ly hd) 8<|t8 c.isCaller 25<|uP (DW κ.lv 20) 26<|eP V I C (.ret (κ.lv+1) c hd k κ) ag T n ad d i ps qs
def rK(V:Cx)(I:jd)(fn:Bool)(c:BC)(κ:Kn)(t:Sem Fin)(ag:Or)(T:BT)(n:Nat)(ad:cX)(d i:Nat)(ps:List<|AL×AL)(qs:!Rq):co:=match t with
 |.pure fin=>match fin with
  |.done f=>match fn with
   |true=>.fail 24
   |false=>qI I (.ok f) κ ag T n ad d i ps qs
  |.again C=>ajt V I fn κ C ag T n ad d i ps qs
 |.raise e=>qI I (.error e) κ ag T n ad d i ps qs
 |.rule _ k=>I fn c κ (k ()) ag T n ad d i ps qs
 |.at _ k=>I fn c κ (k ()) ag T n ad d i ps qs
 |.point _ k=>I fn c κ (k ()) ag T n ad d i ps qs
 |.ask k=>I fn c κ (k ⟨V.prog,V.w.params⟩) ag T n ad d i ps qs
 |.load a _ k=>match ag with
  |.nil=>.fail 1
  |.az _ _=>.fail 1
  |.alt _ _=>.fail 1
  |.obj o ag=>I fn c κ (k o) ag T n ad d i ps<|.o a o::qs
  |.num x ag=>nE V x a T ad ps λo ps=>I fn c κ (k o) ag T n ad d i ps qs
 |.loadIfAlive a k=>match ag with
  |.nil=>.fail 1
  |.az _ _=>.fail 1
  |.alt _ _=>.fail 1
  |.obj o ag=>I fn c κ (k<|Y o) ag T n ad d i ps<|.o a o::qs
  |.num x ag=>nE V x a T ad ps λo ps=>I fn c κ (k<|Y o) ag T n ad d i ps qs
 |.update a _ f k=>match ag with
  |.nil=>.fail 1
  |.az _ _=>.fail 1
  |.alt _ _=>.fail 1
  |.obj _ _=>.fail 1
  |.num x ag=>match x with
   |0=>.fail 4
   |x+1=>vY (T.get x) 3 λo=>t8 (f o).isFreed 5<|I fn c κ (k ()) ag (T.set x f) n ad d i ((a,bG ad x)::ps) qs
 |.alloc o k=>t8 o.isFreed 5<|vY ((T.ins n o).get n) 20 λQ=>I fn c κ (k<|bG ad n) ag (T.ins n o) (n+1) ad d i ps qs
 |.fresh k=>I fn c κ (k<|d+i) ag T n ad d (i+1) ps qs
 |.handled own k=>match own with
  |false=>I fn c κ (k<|cQ V.hd κ) ag T n ad d i ps qs
  |true=>.fail 7
 |.call C H _ _ k=>auh V I fn c κ C H k ag T n ad d i ps qs
 |.stack k=>match fn with
  |true=>.fail 9
  |false=>.stk λp b=>I O c κ (k<|(c,p)::b) ag T n ad d i ps qs
 |.unsupported _=>.fail 10
 |_=>.fail 11
def qJ(V:Cx)(n:Nat):jd:=Nat.rec (motive:=λQ=>jd) (λQ Q Q Q Q Q Q Q Q Q Q Q=>.fail 0) (λQ i=>rK V i) n
structure Su where
 hb:CF
 φ:AL->Prop
 h₀:CF
 ρ:AL->Prop
 A₀:CB
 R₀:BL->AJ->Prop
 g:Array G5
 d:Lu
 os:Hp
structure f9(V:Cx)(Sx:Su)(h:CF)(T:BT)(n:Nat)(ad:cX):Prop where
 hd:n9 λk b l=>ad=(k,b)::l/\k<=n
 size:h.objs.size=bG ad n
 own:∀i o,T.get i=Y o->A4 (i<n) (h.get? (bG ad i)=Y o) (V.kt.get (bG ad i)=As) (Sx.ρ (bG ad i)\/Sx.h₀.objs.size<=bG ad i)
 inj:∀i k o o',T.get i=Y o->T.get k=Y o'->bG ad i=bG ad k->i=k
 kt:V.kt.Holds h 1 0
 keep:∀b o,Sx.h₀.get? b=Y o->¬Sx.ρ b->h.get? b=Y o
 grow:Sx.h₀.objs.size<=h.objs.size
structure lM(V:Cx)(Sx:Su):Prop where
 big:∀a,Sx.h₀.objs.size<=a->V.kt.get a=As
 lim:Sx.h₀.NoLimit
 stat:¬Sx.ρ IJ
 low:Sx.hb.objs.size<=Sx.h₀.objs.size
 rb:∀a,Sx.ρ a->Sx.φ a\/Sx.hb.objs.size<=a
 keepB:∀b o,Sx.hb.get? b=Y o->¬Sx.φ b->Sx.h₀.get? b=Y o
 hd:Sx.A₀.handled=V.hd
 deep:Sx.A₀.depth+400<jc
 sp:∀(Sx:Su) y id args ag T ad p,V.sp y id args ag T ad=Y p->(∀q∈p.ps,q.1=q.2)->(∀q∈p.qs,q)->∀(h:CF)(n:Nat),f9 V Sx h T n ad->
  ∀(A:CB)(R:BL->AJ->Prop)(t:Nat),A.depth+5<DK->R (.ok<|.ret<|p.v t) ⟨h,Sx.g,Sx.d,t+p.k,Sx.os⟩->Be (AN V.prog V.w) A (.builtin id args) R ⟨h,Sx.g,Sx.d,t,Sx.os⟩
noncomputable def aN(A:CB):Kn->CB
 |.base=>A
 |.ret _ c H _ κ=>((aN A κ).under c).mark H
noncomputable def fv(V:Cx)(b:Su):Kn->BL->AJ->Prop
 |.base=>b.R₀
 |.ret _ c _ k κ=>postR V.prog V.w (aN b.A₀ κ) c (CH V.prog V.w (aN b.A₀ κ)<|fv V b κ) (C7<|fv V b κ) k
def aui(fn:Bool)(t:Sem Fin):Sem Fin:=match fn with
 |true=>t.bind fC
 |false=>t
def qf(V:Cx)(b:Su)(fn:Bool)(c:BC)(κ:Kn)(t:Sem Fin)(s:AJ):Prop:=
 Bq (AN V.prog V.w) (aN b.A₀ κ) c (aui fn t) (CH V.prog V.w (aN b.A₀ κ)<|fv V b κ) (C7<|fv V b κ) s
noncomputable def gE:Kn->Prop
 |.base=>True
 |.ret lv c H _ κ=>A5 (lv=κ.lv+1) (c.isCaller=O) (H≠Y byPass) (lv<=21)<|gE κ
def aju(V:Cx)(b:Su)(e:uO)(s:AJ):Prop:=match e with
 |.ret r=>b.R₀ r s
 |.again c=>Be (AN V.prog V.w) b.A₀ c b.R₀ s
def Rq.Ok(c:Su):Rq->Prop
 |.p q=>q
 |.o a b=>c.h₀.get? a=Y b/\¬c.ρ a
def ey(b:Su)(ps:List<|AL×AL)(qs:!Rq):Prop:=(∀p∈ps,p.1=p.2)/\∀q∈qs,q.Ok b
def aqP(V:Cx)(b:Su)(h:CF)(d:Bool)(a:AL):Prop:=h.objs.size<=a\/(A4 (d=J\/(¬b.ρ a/\a<b.h₀.objs.size)) (V.kt.get a=As) (b.φ a\/b.hb.objs.size<=a)<|a≠IJ)
structure gZ(V:Cx)(Sx:Su)(T:BT)(n:Nat)(ad:cX)(h:CF)(x:lL)(r:BL)(s':AJ):Prop where
 r:r=x.r
 g:s'.gens=Sx.g
 d:s'.drawn=Sx.d
 os:s'.os=Sx.os
 t:s'.toks=x.tb
 size:s'.heap.objs.size=x.cb
 ups:∀p∈x.ups,(T.get p.1).isSome=J/\s'.heap.get? (bG ad p.1)=Y p.2
 al:∀p∈x.al,s'.heap.get? p.1=Y p.2/\aqP V Sx h x.drop p.1
 nodup:(x.al.map (·.1)).Nodup
 keep:x.drop=O->∀b o,h.get? b=Y o->(Sx.ρ b\/Sx.h₀.objs.size<=b)->(∀p∈x.ups,bG ad p.1≠b)->s'.heap.get? b=Y o
 grow:h.objs.size<=s'.heap.objs.size
 kt:V.kt.Holds s'.heap 1 0
 lim:s'.heap.NoLimit
 keepB:∀b o,Sx.hb.get? b=Y o->¬Sx.φ b->s'.heap.get? b=Y o
noncomputable def Su.re(c:Su)(h h':CF)(x:lL):Su:={c with h₀:=h',ρ:=λb=>(x.drop=O/\c.ρ b)\/(A3 (x.drop=O) (c.h₀.objs.size<=b)<|b<h.objs.size)\/b∈x.al.map (·.1)}
noncomputable def co.OK(V:Cx):co->Su->Prop
 |.done e T n ad t ps qs,d=>ey d ps qs/\∀h,f9 V d h T n ad->aju V d e ⟨h,d.g,d.d,t,d.os⟩
 |.az sh c κ T n ad t ps qs next,d=>ey d ps qs/\∀h,gE κ->f9 V d h T n ad->Be (AN V.prog V.w) (aN d.A₀ κ) c (λr i=>∃x,gZ V d T n ad h (sh x) r i/\(next x).OK V (d.re h i.heap<|sh x)) ⟨h,d.g,d.d,t,d.os⟩
 |.stk next,d=>∀p b,(next p b).OK V d
 |.alt a b,d=>a.OK V d\/b.OK V d
 |.fail _,_=>False
def ey.nil{b}:ey b [] []:=⟨(λQ h=>(nomatch h)),(λQ h=>(nomatch h))⟩
def aga{p:Prop}[Decidable p]{a:p->Nat}{b:¬p->Nat}(H:∀h,a h<=n)(e:∀h,b h<=n):dite p a b<=n:=by
 by_cases h:p
 .rw[dif_pos h,];rw[H h]
 .rw[dif_neg h,];rw[e h]
def ou{p:Prop}[Decidable p]{a b n:Nat}(H:a<=n)(e:b<=n):ite p a b<=n:=by
 by_cases h:p
 .rw[Z0 h,];rw[H]
 .rw[Z7 h,];rw[e]
def abA(c:BC):c.frames<=3:=by
 let i:∀{b:Bool},(if b=J then 1 else 0)<=3:=ou (by decide) (by decide);cases c with
 |builtin n a=>
  delta KA KQ;dsimp only;repeat(refine aga (λh=>?_) λh=>?_;(subst h;decide))
  rw[i]
 |compStart|compLoop=>delta KA;rw[i]
 |_=>first|exact Bd _|exact(by decide:1<=3)
def aas(c:BC)(h:c.isCaller=O):c.weight<=5:=by delta Code.weight;rw[h,];rw[DI (DI (DI (abA c)<|ou (AA 1)<|Bd 1)<|ou (AA 1)<|Bd 1)<|AA 0]
def acS(c:BC):c.cUnits<=10:=by
 let f:=abA c;cases c with
 |builtin=>rw[Em (Fy 3 f) 1]
 |call=>rw[(by decide:1<=10)]
 |_=>rw[Bz<|Fy 3 f]
noncomputable def wB:BC->Nat
 |.builtin _ _=>5
 |.call _ _=>0
 |.block _ _=>0
 |.handlers _ _ _=>0
 |.whileLoop _ _ _ _=>0
 |.forLoop _ _ _ _ _=>0
 |.func _ _=>1
 |.expr _ _=>1
 |_=>5
noncomputable def dB:Kn->Nat
 |.base=>0
 |.ret _ c _ _ κ=>dB κ+wB c
theorem aaL(A:CB):∀κ,gE κ->(aN A κ).depth<=A.depth+dB κ
 |.base,_=>AA _
 |.ret lv c b k κ,h=>by
  let(d,e,_,_,H):=h
  let w:=((by
    let z:=aas c e
    induction c<;>first|exact z|exact AA _):c.weight<=wB c)
  show(aN A κ).depth+c.weight<=A.depth+(dB κ+wB c);rw[as4 (aaL A κ H) w]
theorem aaM(A:CB):∀κ,gE κ->(aN A κ).depth<=A.depth+5*κ.lv
 |.base,_=>AA _
 |.ret lv c d k κ,h=>by let(H,e,_,_,b):=h;let w:=aas c e;show(aN A κ).depth+c.weight<=A.depth+5*lv;rw[as5 H (aaM A κ b) w]
def ah7:∀κ,gE κ->κ.lv<=21
 |.base,_=>Bd _
 |.ret _ _ _ _ _,h=>h.4
theorem gF A:∀κ,(aN A κ).handled=cQ A.handled κ
 |.base=>rfl
 |.ret lv c H k κ=>by show H.or (aN A κ).handled=H.or (cQ A.handled κ);rw[gF A κ,]
def fE(h:i<k):bG ((k,b)::l) i=bG l i:=by
 show(match DW k i with|true=>b+(i-k)|false=>bG l i)=_
 have:DW k i=O:=by
  cases q:DW k i with
  |false=>rfl
  |true=>rw[ZZ (Cf q)<|Nat.not_le.mpr h]
 rw[this,]
def c6(h:k<=i):bG ((k,b)::l) i=b+(i-k):=by show(match DW k i with|true=>b+(i-k)|false=>bG l i)=_;rw[Ds h,]
section
theorem f9.lim(c:lM V Sx){h:CF}{T:BT}{n:Nat}{ad:cX}(D:f9 V Sx h T n ad):h.NoLimit:=by let(m,(o,es,ep,H,r),e):=c.lim;rw[(m,⟨o,es,ep,D.keep _ _ H c.stat,r⟩,e)]
def f9.look{h:CF}{T:BT}{n:Nat}{ad:cX}(D:f9 V Sx h T n ad){a:AL}{o:Obj}(e:V.kt.get a=Y o):h.get? a=Y o:=by let z:=Kc D.kt e;rw[DU,Bp]at z;rw[z]
def gG{t:KT}:∀{s b:Nat},Ky h s b t->(∀j o,t.get j=Y o->h.get? (s*j+b)=Y o->h'.get? (s*j+b)=Y o)->Ky h' s b t:=by
 cases t with
 |nil=>rw[λQ Q=>Z9]
 |node v l r I c=>
  intro s b H k;rw[(λo e=>?_,?_,?_)]
  .let z:=k 0 o (by rw[FX,];simp[e]) (by rw[IK,Bh];rw[H.1 o e]);rw[IK,Bh]at z;rw[z]
  .rw[I H.2.1 λj o e i=>?_]
   let q:2*s*j+(s+b)=s*(2*j+1)+b:=by rw[FV,Jk,<-Es,EI s 2];rw[om8]
   rw[q]at i ⊢;rw[k (2*j+1) o ?_ i];rw[FX,Z7<|aD [j] 4786247467868240,Z0<|Jo 2 j 1,show(2*j+1)/2=j by rw[Jp (by decide) j 1]];rw[e]
  .rw[c H.2.2 λj o e i=>?_]
   let q:2*s*j+(2*s+b)=s*(2*j+2)+b:=by rw[FV,<-Es,EI s 2];rw[alS]
   rw[q]at i ⊢;rw[k (2*j+2) o ?_ i];rw[FX,Z7<|aD [j] 4786316187344976,Z7 (λh=>nomatch(Jo 2 j 2).symm.trans h:¬(2*j+2)%2=1),show(2*j+2)/2-1=j by rw[(Z8 (·-1)<|Jp (by decide) j 2)]];rw[e]
def f9.alloc(w:lM V Sx){h:CF}{T:BT}{n:Nat}{ad:cX}(D:f9 V Sx h T n ad){o:Obj}(C:o.isFreed=O)(x:((T.ins n o).get n).isSome=J):f9 V Sx (h.push o) (T.ins n o) (n+1) ad:=by
 let(k,b,l,rfl,d):=D.hd;let m:=D.size;let A:=D.grow;rw[(⟨k,b,l,rfl,Bz d⟩,?_,λi o' e=>?_,λi j Q o2 r E B=>?_,?_,λG o' e q=>AU _<|D.keep G o' e q,?_)]
 .rw[Cq,m,c6 d,c6<|Bz d];omega
 .rw[JH o T n x]at e;by_cases H:i=n
  .clear D x d;subst H;rw[Z0 rfl]at e;cases e;rw[<-m];rw[(B6 _,BB _ C,w.big _ A,.inr A)]
  .rw[Z7 H]at e;let(I,L,M,a4):=D.own i o' e;rw[(B9 I,AU _ L,M,a4)]
 .rw[JH o T n x]at r E;by_cases H:i=n
  .by_cases c:j=n
   .rw[H,c]
   .rw[Z7 c]at E;let z:=AP (D.own j _ E).2;rw[<-B,H,<-m]at z;rw[ZZ z<|Cs _]
  .rw[Z7 H]at r;by_cases c:j=n
   .let z:=AP (D.own i _ r).2;rw[B,c,<-m]at z;rw[ZZ z<|Cs _]
   .rw[Z7 c]at E;rw[D.inj i j _ _ r E B]
 .rw[gG D.kt λj o' _ N=>AU _ N]
 .rw[Cq,];rw[Bz A]
theorem f9.update(C:lM V Sx){h:CF}{T:BT}{n:Nat}{ad:cX}(D:f9 V Sx h T n ad){x:Nat}{o:Obj}{f:Obj->Obj}(e:T.get x=Y o)(G:(f o).isFreed=O):f9 V Sx (h.update (bG ad x) f) (T.set x f) n ad:=by
 let c:GB (bG ad x) h<|h.update (bG ad x) f:=Bn ..;let(I,L,M,a4):=D.own x o e;rw[(D.hd,by rw[c.1,D.size],λi o' E=>?_,λi j Q o2 d m N=>?_,?_,λb o' E q=>?_,by rw[c.1,];rw[D.grow])]
 .rw[JI]at E;by_cases H:i=x
  .clear c;subst H;rw[Z0 rfl,e]at E;cases E;rw[(I,Bg f L G,M,a4)]
  .rw[Z7 H]at E;let(b1,b2,b3,b4):=D.own i o' E;rw[(b1,(c.2 _ λz=>H<|D.inj i x _ _ E e z).trans b2,b3,b4)]
 .rw[JI]at d m
  let r:∃o,T.get i=Y o:=by
   by_cases H:i=x
   .rw[(o,H▸e)]
   .rw[Z7 H]at d;rw[(_,d)]
  let w:∃o,T.get j=Y o:=by
   by_cases H:j=x
   .rw[(o,H▸e)]
   .rw[Z7 H]at m;rw[(_,m)]
  let(_,r):=r;let(_,w):=w;rw[D.inj i j _ _ r w N]
 .rw[gG D.kt λj o' A B=>?_]
  rw[(c.2 _ ?_).trans B];rw[DU,Bp];clear B c;rintro rfl;rw[M]at A;rw[nomatch A]
 .rw[(c.2 b ?_).trans<|D.keep b o' E q];clear c;rintro rfl;rcases a4 with a4|a4
  .rw[q a4]
  .rw[ZZ (AP E)<|AX.mpr a4]
def jm:∀(l:List<|Nat×Obj)(T:BT)(i:Nat)(o:Obj),(cg l T).get i=Y o->(∃b,T.get i=Y b)/\((∃p∈l,p.1=i/\p.2=o)\/((∀p∈l,p.1≠i)/\T.get i=Y o)):=by
 cases _ with
 |nil=>intro T i o e;rw[(⟨o,e⟩,.inr ⟨(λx h=>(nomatch h)),e⟩)]
 |cons p l j=>
  intro T i o e;let z:=j (T.set p.1 λx=>p.2) i o e;rw[JI]at z;by_cases c:i=p.1
  .rw[Z0 c]at z;let((b,C),I):=z;let(y,B,_):=Bj.mp C;rw[(⟨y,c▸B⟩,?_)];rcases I with⟨q,H,E,d⟩|⟨_,I⟩
   .rw[.inl ⟨q,.tail _ H,E,d⟩]
   .rw[B]at I;clear e;cases I;rw[.inl ⟨p,aE,c.symm,rfl⟩]
  .rw[Z7 c]at z;rw[(z.1,?_)];rcases z.2 with⟨q,H,E,d⟩|⟨C,I⟩
   .rw[.inl ⟨q,.tail _ H,E,d⟩]
   .rw[.inr ⟨λq H=>?_,I⟩];clear e;rcases Ar.mp H with rfl|H
    .rw[λw=>c w.symm]
    .rw[C q H]
theorem f9.ups{h:CF}{T:BT}{n:Nat}{ad:cX}(D:f9 V Sx h T n ad){x:lL}{r:BL}{d:AJ}(P:gZ V Sx T n ad h x r d):
  (∀i o,(lq x.drop<|cg x.ups T).get i=Y o->A5 (bG (gx x.drop ad) i<h.objs.size) (i<qe x.drop n) (d.heap.get? (bG (gx x.drop ad) i)=Y o) (V.kt.get (bG (gx x.drop ad) i)=As) ((Sx.re h d.heap x).ρ (bG (gx x.drop ad) i)\/d.heap.objs.size<=bG (gx x.drop ad) i))/\
  (∀i k o o',(lq x.drop<|cg x.ups T).get i=Y o->(lq x.drop<|cg x.ups T).get k=Y o'->bG (gx x.drop ad) i=bG (gx x.drop ad) k->i=k):=by
 cases H:x.drop with
 |true=>rw[(λi o e=>(nomatch(show Lz .nil i=Y o from e)),λi k o o' e=>(nomatch(show Lz .nil i=Y o from e)))]
 |false=>
 rw[show lq O (cg x.ups T)=cg x.ups T from rfl,show gx O ad=ad from rfl,show qe O n=n from rfl];rw[(λi o e=>?_,λi k o o' E G B=>?_)]
 .let((c,C),I):=jm _ _ _ _ e;let(A,L,M,a4):=D.own i c C;rw[(AP L,A,?_,M,.inl ?_)]
  .clear A M e;rcases I with⟨p,j,rfl,rfl⟩|⟨I,w⟩
   .rw[(P.ups p j).2]
   .rw[C]at w;cases w;rw[P.keep H _ _ L a4 λp j B=>?_]
    let(N,m):=(λp j=>Option.isSome_iff_exists.mp (P.ups p j).1) p j;rw[I p j<|D.inj _ _ _ _ m C B]
  .rcases a4 with a4|a4
   .rw[.inl ⟨H,a4⟩]
   .rw[.inr<|.inl ⟨H,a4,AP L⟩]
 .let((_,C),_):=jm _ _ _ _ E;let((_,I),_):=jm _ _ _ _ G;rw[D.inj i k _ _ C I B]
theorem lM.re(c:lM V Sx){h:CF}{T:BT}{n:Nat}{ad:cX}(D:f9 V Sx h T n ad){x:lL}{r:BL}{i:AJ}(P:gZ V Sx T n ad h x r i):lM V<|Sx.re h i.heap x:=by
 let G:=Ax D.grow P.grow;rw[(λa H=>c.big a<|Ax G H,P.lim,?_,Ax c.low G,λa H=>?_,P.keepB,c.hd,c.deep,c.sp)]
 .let(M,(o,es,ep,m,_),_):=c.lim;let l:=AP m;rintro(q|q|q)
  .rw[c.stat q.2]
  .rw[ZZ l<|AX.mpr q.2]
  .let(p,j,e):=AM.mp q;have:=(P.al p j).2;rw[e]at this;rcases this with this|this
   .rw[ZZ l<|AX.mpr<|Ax D.grow this]
   .rw[this.4 rfl]
 .rcases H with q|q|q
  .rw[c.rb a q.2]
  .rw[.inr<|Ax c.low q.2]
  .let(p,j,e):=AM.mp q;have:=(P.al p j).2;rw[e]at this;rcases this with this|this
   .rw[.inr<|Ax c.low<|Ax D.grow this]
   .rw[this.3]
def abB(P:co->Prop){h':CF}{Lo:AL->Prop}(W:AL->Prop):∀(l:List<|AL×Obj)(T:BT)(n:Nat)(ad:cX)(k:BT->Nat->cX->co),
  (∀p∈l,A3 (h'.get? p.1=Y p.2) (Lo p.1)<|W p.1)->(l.map (·.1)).Nodup->
  (∀i o,T.get i=Y o->A4 (i<n) (h'.get? (bG ad i)=Y o) (Lo<|bG ad i) (W<|bG ad i))->
  (∀i o,T.get i=Y o->∀p∈l,bG ad i≠p.1)->
  (∀i k o I,T.get i=Y o->T.get k=Y I->bG ad i=bG ad k->i=k)->
  P (bJ l T n ad k)->¬(∃q,P<|.fail q)->
  n9 λm x A=>A4 (P<|k m x A) (n<=x) (∀i o,m.get i=Y o->A4 (i<x) (h'.get? (bG A i)=Y o) (Lo<|bG A i) (W<|bG A i)) (∀i k o I,m.get i=Y o->m.get k=Y I->bG A i=bG A k->i=k):=by
 intro l;cases l with
 |nil=>intro T n ad k _ _ h _ M p _;rw[(T,n,ad,p,AA _,h,M)]
 |cons q l ih=>
  intro T n ad k V nd h Q M p nf
  let e:bJ (q::l) T n ad k=match(T.ins n q.2).get n with
   |some _=>bJ l (T.ins n q.2) (n+1) ((n,q.1)::ad) k
   |none=>.fail 20:=rfl
  rw[e]at p;cases g:(T.ins n q.2).get n with
  |none=>rw[g]at p;rw[ZZ ⟨20,p⟩ nf]
  |some o₀=>
   rw[g]at p;let G:=JH q.2 T n (by rw[g,];rfl);let(nq,nd):=AC.mp nd;let N:bG ((n,q.1)::ad) n=q.1:=by rw[c6<|AA _,FE,Bp]
   let d:∀i,i<n->bG ((n,q.1)::ad) i=bG ad i:=λi H=>fE H
   let r:=ih (T.ins n q.2) (n+1) ((n,q.1)::ad) k (λp L=>V p<|.tail _ L) nd ?_ ?_ ?_ p nf
   .let(m,x,A,a,b,c,c'):=r;rw[(m,x,A,a,C5 b,c,c')]
   .intro i o e;rw[G]at e;by_cases H:i=n
    .clear g G h d p;subst H;rw[Z0 rfl]at e;cases e;rw[N,];have:=V q aE;rw[(B6 _,this.1,this.2,this.3)]
    .rw[Z7 H]at e;let(b1,b2,b3,b4):=h i o e;rw[d i b1,];rw[(B9 b1,b2,b3,b4)]
   .intro i o e p L;rw[G]at e;by_cases H:i=n
    .clear e g G h d;subst H;rw[N,];intro B;rw[nq<|AM.mpr ⟨_,L,B.symm⟩]
    .rw[Z7 H]at e;rw[d i (h i o e).1,];rw[Q i o e p<|.tail _ L]
   .intro i j o I w E B;rw[G]at w E;by_cases H:i=n
    .by_cases C:j=n
     .rw[H,C]
     .rw[Z7 C]at E;rw[H,N,d j (h j _ E).1]at B;rw[ZZ B.symm<|Q j _ E q aE]
    .rw[Z7 H]at w;by_cases C:j=n
     .rw[C,N,d i (h i _ w).1]at B;rw[ZZ B<|Q i _ w q aE]
     .rw[Z7 C]at E;rw[d i (h i _ w).1,d j (h j _ E).1]at B;rw[M i j _ _ w E B]
end
section
def ey.cons_p(g:ey b (p::ps) qs):p.1=p.2/\ey b ps qs:=⟨g.1 p aE,λq H=>g.1 q<|.tail _ H,g.2⟩
def ey.cons_q(g:ey b ps<|q::qs):q.Ok b/\ey b ps qs:=⟨g.2 q aE,g.1,λq H=>g.2 q<|.tail _ H⟩
def acT:∀l:!Prop,q∈qs->q∈xn l qs:=by
 cases _ with
 |nil=>intro h;rw[h]
 |cons _ l i=>intro h;rw[.tail _<|i h]
def adE(h:q∈l):Rq.p q∈xn l qs:=by
 cases l with
 |nil=>rw[nomatch h]
 |cons a l i=>
  rcases Ar.mp h with rfl|h
  .rw[aE]
  .rw[.tail _<|i h]
def t9(V:Cx)(I:jd):Prop:=∀(b:Su) fn c κ t ag T n ad e i d qs,(I fn c κ t ag T n ad e i d qs).OK V b->ey b d qs
def jn{I:jd}(H:t9 V I){r κ ag T n ad d i ps qs}(k:(qI I r κ ag T n ad d i ps qs).OK V b):ey b ps qs:=by
 cases κ with
 |base=>rw[k.1]
 |ret lv c h e κ=>rw[H _ _ _ _ _ _ _ _ _ _ _ _ _ k]
def aqQ{I:jd}{j c κ ag T n ad d i ps qs}(k:(iY I j c κ ag T n ad d i ps qs).OK V b):ey b ps qs:=by delta iY at k;rw[k.1]
def eQ(k:(uP b n v).OK V c):b=J/\v.OK V c:=by
 cases b with
 |true=>rw[(rfl,k)]
 |false=>rw[BQ k]
def cC(k:(t8 b n v).OK V c):b=O/\v.OK V c:=by
 cases b with
 |true=>rw[BQ k]
 |false=>rw[(rfl,k)]
def d6{o:Option α}{f}(k:(vY o n f).OK V b):∃x,o=Y x/\(f x).OK V b:=by
 cases o with
 |none=>rw[BQ k]
 |some x=>rw[(x,rfl,k)]
def qg{G:Prop}(k:(bV b x y).OK V c)(h:b=J->x.OK V c->G)(i:y.OK V c->G):G:=by
 cases b with
 |true=>rw[h rfl k]
 |false=>rw[i k]
def abC{G:Prop}(k:(aqK d F z).OK V b)(h:∀fd,d=.func fd->(F fd).OK V b->G)(i:z.OK V b->G):G:=by
 cases d with
 |func fd=>rw[h fd rfl k]
 |_=>rw[i k]
def abD{G:Prop}(k:(aqL d F z).OK V b)(h:∀fd,d=.ref fd->(F fd).OK V b->G)(i:z.OK V b->G):G:=by
 cases d with
 |ref fd=>rw[h fd rfl k]
 |_=>rw[i k]
def abE{c:BC}{G:Prop}(k:(aqM c F H z).OK V b)(h:∀id args,c=.builtin id args->(F id args).OK V b->G)(j:∀f args,c=.call f args->(H f args).OK V b->G)(i:z.OK V b->G):G:=by
 cases c using Code.casesOn with
 |builtin=>rw[h _ _ rfl k]
 |call=>rw[j _ _ rfl k]
 |_=>rw[i k]
def aaN{x a T ad ps qs}{f:Obj->!(AL×AL)->co}(H:∀o ps,(f o ps).OK V b->ey b ps qs)(k:(nE V x a T ad ps f).OK V b):ey b ps qs:=by
 cases x using BE with
 |zero=>rw[(d6 k).elim λQ k=>H _ _ k.2]
 |succ x=>rw[(d6 k).elim λQ k=>(H _ _ k.2).cons_p.2]
def lN{I:jd}(H:t9 V I){a args κ o ag T n ad d i ps qs}(k:(xo I a args κ o ag T n ad d i ps qs).OK V b):ey b ps qs:=abC k (λQ Q k=>H _ _ _ _ _ _ _ _ _ _ _ _ _ (cC (cC k).2).2) λk=>H _ _ _ _ _ _ _ _ _ _ _ _ _ k
theorem jo{f:Or->co}{P:Prop}(H:∀o,(f o).OK V c->P):∀o,(aqO f o).OK V c->P
 |.nil,k=>H _ k
 |.num _ _,k=>H _ k
 |.az _ _,k=>H _ k
 |.alt a b,k=>by
  rcases k with k|k
  .rw[jo H a k]
  .rw[jo H b k]
 |.obj _ _,k=>H _ k
def ga{I:jd}(H:t9 V I){c κ ag T n ad e i ps qs}(k:(eP V I c κ ag T n ad e i ps qs).OK V h):ey h ps qs:=jo (λag d=>abE d (λQ Q Q k=>by
  clear d;cases ag using Mine.Or.casesOn with
  |num y ag=>cases y using BE with
   |zero=>rw[H _ _ _ _ _ _ _ _ _ _ _ _ _ k]
   |succ y=>let(_,_,k):=d6 k;let g:=jn H k;rw[(λp j=>g.1 p<|Aq _ j,λq l=>g.2 q<|acT _ l)]
  |az=>rw[k.1]
  |_=>rw[BQ k]) (λQ Q Q b=>abD b (λQ Q k=>by
  clear d b;cases ag using Mine.Or.casesOn with
  |num=>rw[aaN (λo ps k=>lN H k) k]
  |az=>rw[k.1]
  |obj=>rw[(lN H k).cons_q.2]
  |_=>rw[BQ k]) λk=>H _ _ _ _ _ _ _ _ _ _ _ _ _ k) λb=>qg b (λQ k=>by
  clear d b;cases ag using Mine.Or.casesOn with
  |num=>rw[H _ _ _ _ _ _ _ _ _ _ _ _ _ k]
  |az=>rw[k.1]
  |_=>rw[BQ k]) λk=>by
  clear d b;cases ag using Mine.Or.casesOn with
  |az=>rw[k.1]
  |_=>rw[H _ _ _ _ _ _ _ _ _ _ _ _ _ k]) ag k
def adF{I:jd}(H:t9 V I):t9 V<|rK V I:=by
 intro e fn c κ t ag T n ad h i d qs k;cases t using IL with
 |pure fin=>cases fin using IM with
  |done f=>cases fn with
   |true=>rw[BQ k]
   |false=>rw[jn H k]
  |again C=>
   cases κ using Kn.casesOn with
   |base=>rw[qg k (λQ b=>by
     clear k;cases ag using Mine.Or.casesOn with
     |nil=>rw[(cC b).2.1]
     |_=>rw[ga H (eQ b).2]) λk=>ga H (eQ k).2]
   |ret=>rw[ga H (eQ k).2]
 |raise=>rw[jn H k]
 |rule|«at»|point|ask|fresh=>rw[H _ _ _ _ _ _ _ _ _ _ _ _ _ k]
 |load|loadIfAlive=>cases ag using Mine.Or.casesOn with
  |obj=>rw[(H _ _ _ _ _ _ _ _ _ _ _ _ _ k).cons_q.2]
  |num=>rw[aaN (λo d k=>H _ _ _ _ _ _ _ _ _ _ _ _ _ k) k]
  |_=>rw[BQ k]
 |update a N f q=>cases ag using Mine.Or.casesOn with
  |num x ag=>cases x using BE with
   |zero=>rw[BQ k]
   |succ x=>let(_,_,k):=d6 k;rw[(H _ _ _ _ _ _ _ _ _ _ _ _ _ (cC k).2).cons_p.2]
  |_=>rw[BQ k]
 |alloc o q=>let(_,_,k):=d6 (cC k).2;rw[H _ _ _ _ _ _ _ _ _ _ _ _ _ k]
 |handled own=>cases own with
  |false=>rw[H _ _ _ _ _ _ _ _ _ _ _ _ _ k]
  |true=>rw[BQ k]
 |call C j=>rw[ga H (eQ (cC (eQ (cC k).2).2).2).2]
 |stack=>cases fn with
  |true=>rw[BQ k]
  |false=>rw[H _ _ _ _ _ _ _ _ _ _ _ _ _<|k ⟨0,0,0,0⟩ []]
 |_=>rw[BQ k]
def abF:∀N,t9 V (qJ V N):=by
 cases _ with
 |zero=>rw[λx x x x x x x x x x x x x k=>by cases k]
 |succ N i=>rw[adF<|i]
end
section
def uQ(V:Cx)(I:jd):Prop:=∀b,lM V b->∀fn c κ t ag T n ad d i e qs h,(I fn c κ t ag T n ad d i e qs).OK V b->f9 V b h T n ad->gE κ->(fn=J->c.weight<=5)->qf V b fn c κ t ⟨h,b.g,b.d,d+i,b.os⟩
def aqR(d:lM V e)(K:gE κ):(aN e.A₀ κ).depth+70<DK:=by let b:=ah7 κ K;let c:=d.deep;unfold jc at c;rw[as6 (aaM e.A₀ κ K) b c]
def jp(d:lM V b){l:jd}(I:uQ V l){r κ ag T n ad j i ps qs h}(k:(qI l r κ ag T n ad j i ps qs).OK V b)(D:f9 V b h T n ad)(K:gE κ):fv V b κ r ⟨h,b.g,b.d,j+i,b.os⟩:=by
 cases κ with
 |base=>rw[k.2 h D]
 |ret lv c H m κ=>rw[I b d O c κ (m r) ag T n ad j i ps qs h k D K.5 λe=>(nomatch e)]
def ox c:dQ fz c=DM Ei c:=by rw[<-gD,<-iy,<-table_eq_tree]
theorem abG b h h' al:∀κ,fv V (b.re h h' al) κ=fv V b κ
 |.base=>rfl
 |.ret _ c _ k κ=>by show postR V.prog V.w (aN b.A₀ κ) c (CH V.prog V.w (aN b.A₀ κ)<|fv V (b.re h h' al) κ) (C7<|fv V (b.re h h' al) κ) k=_;rw[abG b h h' al κ,];rfl
def g6(E:lM V m){ih:jd}(I:uQ V ih){l c κ ag T n ad tb i ps qs h}(k:(iY ih l c κ ag T n ad tb i ps qs).OK V m)(D:f9 V m h T n ad)(K:gE κ):
  Be (AN V.prog V.w) (aN m.A₀ κ) c (fv V m κ) ⟨h,m.g,m.d,tb+i,m.os⟩:=by
 delta iY at k
 .let(_,hc):=k;rw[BK (hc h K D) ?_];rintro r w ⟨x,sp,ok⟩;let(u1,u2):=D.ups sp;let nn:=λp H=>(sp.al p H).2
  let(T',N,A,Q,hle,o1,o2):=abB (λv=>co.OK V v<|m.re h w.heap<|l x) (h':=w.heap) (Lo:=λa=>V.kt.get a=As) (λa=>(m.re h w.heap<|l x).ρ a\/w.heap.objs.size<=a) (l x).al (lq (l x).drop<|cg (l x).ups T) (qe (l x).drop n) (gx (l x).drop ad) _
   (λp H=>⟨(sp.al p H).1,(nn p H).elim (λz=>E.big _<|Ax D.grow z) λz=>z.2,.inl<|.inr<|.inr<|Av H⟩) sp.nodup (λi o e=>(by let(_,a,b,c,d):=u1 i o e;rw[(a,b,c,d)]))
   (λi o e p H B=>by
    let a:=(u1 i o e).1;rw[B]at a;rcases nn p H with b|b
    .rw[ZZ a (AX.mpr b)]
    .cases hx:(l x).drop with
     |true=>rw[hx]at e;rw[nomatch(show Lz .nil i=Y o from e)]
     |false=>
      rw[hx]at e B b;let((G,z),_):=jm _ _ _ _ (show(cg (l x).ups T).get i=Y o from e);let B:=B;rcases b.1 with b|b
      .rw[nomatch b]
      .rw[<-B]at b
       rw[(D.own i G z).4.elim b.1 λq=>ZZ b.2<|AX.mpr q]) u2 ok (by rintro⟨_,q⟩;rw[q])
  let C:∀i,i<N->bG ((N,(l x).cb)::A) i=bG A i:=λi hi=>fE hi
  let D':f9 V (m.re h w.heap<|l x) w.heap T' N<|(N,(l x).cb)::A:=by
   rw[(⟨_,_,_,rfl,AA _⟩,?_,λi o e=>?_,λi j o o' L M B=>?_,sp.kt,λb o e _=>e,AA _)]
   .rw[c6<|AA _,FE,Bp];rw[sp.size]
   .let(b1,b2,b3,b4):=o1 i o e;rw[C i b1,];rw[(b1,b2,b3,b4)]
   .rw[C i (o1 i o L).1,C j (o1 j o' M).1]at B;rw[o2 i j o o' L M B]
  let z:=abG m _ _ _ κ▸jp (E.re D sp) I Q D' K;let(H,gs,dr,tk,os):=w;let L:=sp.g;let M:=sp.d;let e3:=sp.os;let e4:=sp.t;dsimp only at L M e3 e4 z;subst L M e3 e4;rw[sp.r,];rw[z]
end
section
variable{V:Cx}
def g7(e:DM Ei c=t)(m:qf V b O c κ t s):Be (AN V.prog V.w) (aN b.A₀ κ) c (fv V b κ) s:=
 FN _ _ _ _ _ _ (by rw[e,];rw[m])
def jT{x a T ad ps qs}{f:Obj->!(AL×AL)->co}{h n}{G:Prop}(D:f9 V c h T n ad)(A:∀o b,(f o b).OK V c->ey c b qs)(H:∀o b,h.get? a=Y o->(f o b).OK V c->G)(k:(nE V x a T ad ps f).OK V c):G:=by
 cases x using BE with
 |zero=>have⟨o,e,k⟩:=d6 k;rw[H o _ (D.look e) k]
 |succ x=>have⟨o,e,k⟩:=d6 k;rw[H o _ ((show a=_ from(A _ _ k).cons_p.1)▸(D.own _ _ e).2) k]
def adG(l:lM V j){m:jd}(I:uQ V m){a args κ o ag T n ad r i ps qs h}(w:h.get? a=Y o)(k:(xo m a args κ o ag T n ad r i ps qs).OK V j)(D:f9 V j h T n ad)(K:gE κ):
  Be (AN V.prog V.w) (aN j.A₀ κ) (.call (.ref a) args) (fv V j κ) ⟨h,j.g,j.d,r+i,j.os⟩:=by
 rw[abC k (λb e k=>?_) λk=>?_]
 .let(G,k):=cC k;let(x,k):=cC k
  let(f,C,B,A,H):=((by
    rw[(λd=>match d with|.func b=>GA a b args|_=>.pure<|.done .next,λQ=>rfl,_,rfl,λo b e=>?_)];let(c,E,L,M):=o;dsimp only at e;subst e
    rfl):∃f:Kb->Sem Fin,(∀b,f (Data.func b)=GA a b args)/\∃k:Obj->Sem Fin,K5 (.ref a) args=Lq a As k/\∀(o:Obj) b,o.data=.func b->k o=f o.data)
  rw[FN _ _ _ _ _ _ ?_];show Bq _ _ _ (K5 (.ref a) args) _ _ _;rw[A,];rw[LA _ _ _ _ _ _ _ _ _ _ _ _ _ _ _ _ w ?_]
  rw[H o b e,e,C,((by
    delta uI;rw[ao8,<-aaG,<-acH,<-abq,<-Cr,cY];delta ady;rw[Z8 (CK _) (funext λcompiled=>?_)]
    rw[acL a b args G x compiled]):GA a b args=CK (uI a b args) fC)]
  rw[I _ l _ _ _ _ _ _ _ _ _ _ _ _ h k D K λQ=>Bd _]
 .rw[g7 (t:=fA (.ref a) args) ?_<|I _ l _ _ _ _ _ _ _ _ _ _ _ _ h k D K λe=>(nomatch e)]
  rw[<-aac];rfl
def iz(b:lM V d){m:jd}(A:t9 V m)(I:uQ V m){c κ ag T n ad r i ps qs h}(k:(eP V m c κ ag T n ad r i ps qs).OK V d)(D:f9 V d h T n ad)(K:gE κ):
  Be (AN V.prog V.w) (aN d.A₀ κ) c (fv V d κ) ⟨h,d.g,d.d,r+i,d.os⟩:=jo (λag l=>abE l (λid args e k=>by
    clear l;subst e;cases ag using Mine.Or.casesOn with
    |num y ag=>cases y using BE with
     |zero=>rw[g7 (ox _).symm (I _ b _ _ _ _ _ _ _ _ _ _ _ _ h k D K λe=>(nomatch e))]
     |succ y=>let(p,e,k):=d6 k;let g:=jn A k;let z:=jp b I k D K;rw[<-Ew]at z;rw[b.sp d _ _ _ _ _ _ _ e (λq H=>g.1 q<|Ao _ H) (λq H=>g.2 _<|adE H) h n D _ _ _ ?_ z];have:=aqR b K;rw[as7 this]
    |az=>rw[g6 b I k D K]
    |_=>rw[BQ k]) (λf args e j=>by
    clear l;subst e;rw[abD j (λa e k=>?_) λk=>?_]
    .clear j;subst e;cases ag using Mine.Or.casesOn with
     |num=>rw[jT D (λo ps k=>lN A k) (λo ps w k=>adG b I w k D K) k]
     |az=>rw[g6 b I k D K]
     |obj=>let g:=(lN A k).cons_q.1;rw[adG b I (D.keep _ _ g.1 g.2) k D K]
     |_=>rw[BQ k]
    .rw[g7 (t:=fA _ _) ?_ (I _ b _ _ _ _ _ _ _ _ _ _ _ _ h k D K λe=>(nomatch e))];rw[<-aac];rfl) λj=>qg j (λQ k=>by
    clear l j;cases ag using Mine.Or.casesOn with
    |num=>rw[g7 (ox _).symm (I _ b _ _ _ _ _ _ _ _ _ _ _ _ h k D K λe=>(nomatch e))]
    |az=>rw[g6 b I k D K]
    |_=>rw[BQ k]) λk=>by
    clear l j;cases ag using Mine.Or.casesOn with
    |az=>rw[g6 b I k D K]
    |_=>rw[g7 (ox _).symm<|I _ b _ _ _ _ _ _ _ _ _ _ _ _ h k D K λe=>(nomatch e)]) ag k
def abt(i:s.heap.get? a=Y o)
  (z:Bq (AN V.prog V.w) A c (k ()) Q E {s with heap:=s.heap.update a f}):Bq (AN V.prog V.w) A c (.update a q f k) Q E s:=
 AR (m:=updatePart a q f) (f:=k) (AH<|wpAny_updatePart i z)
def acU
  (z:Bq (AN V.prog V.w) A c (k s.heap.objs.size) Q E {s with heap:=s.heap.push o}):Bq (AN V.prog V.w) A c (.alloc o k) Q E s:=
 AR (m:=PySem.alloc o) (f:=k) (AH<|wpAny_alloc z)
def abu(h:ot c=J):c.quiet=J:=by induction c<;>first|rfl|cases h
def acV(d:lM V b){fn:Bool}{c C:BC}{κ:Kn}{T n ad h t}(D:f9 V b h T n ad)(K:gE κ)(q:C.quiet=J)(x:Be (AN V.prog V.w) (aN b.A₀ κ) C (fv V b κ) ⟨h,b.g,b.d,t,b.os⟩)(H:fn=J->c.weight<=5):qf V b fn c κ (.pure<|.again C) ⟨h,b.g,b.d,t,b.os⟩:=by
 let fin:CH V.prog V.w (aN b.A₀ κ) (fv V b κ) (.again C) ⟨h,b.g,b.d,t,b.os⟩:=⟨q,x⟩;cases fn with
 |false=>rw[Kd _ _ _ _ _ _ _ _ _ fin]
 |true=>
  let w:=H rfl
  let e:∀fin,CH V.prog V.w (aN b.A₀ κ) (fv V b κ) fin ⟨h,b.g,b.d,t,b.os⟩->Bq (AN V.prog V.w) (aN b.A₀ κ) c (CK Gz λQ=>Bw fin) (CH V.prog V.w (aN b.A₀ κ)<|fv V b κ) (C7<|fv V b κ) ⟨h,b.g,b.d,t,b.os⟩:=λfin i=>
   AR (m:=Gz) (f:=λQ=>Bw fin) (AH<|wpAny_enterFrame (D.lim d) (by show(aN b.A₀ κ).depth+c.weight<DK;rw[as8 (aqR d K) w])<|Kd _ _ _ _ _ _ _ _ _ i)
  show Bq _ _ _ (fC<|.again C) _ _ _;delta fC;induction C<;>first|exact Kd _ _ _ _ _ _ _ _ _ fin|exact e _ fin
def abv{B:jd}(A:t9 V B)(I:uQ V B):uQ V<|rK V B:=by
 intro m d fn c κ t ag T n ad Q i r qs h k D K H;cases t using IL with
 |pure fin=>cases fin using IM with
  |done f=>cases fn with
   |true=>rw[BQ k]
   |false=>rw[Kd _ _ _ _ _ _ _ _ _<|y_done _ _ _ _ _ _<|jp d I k D K]
  |again C=>
   let en:∀{κ ag},gE κ->(uP (jQ C) 6<|eP V B C κ ag T n ad Q i r qs).OK V m->qf V m fn c κ (.pure<|.again C) ⟨h,m.g,m.d,Q+i,m.os⟩:=λK k=>acV d D K ((ZW acJ C).trans (eQ k).1) (iz d A I (eQ k).2 D K) H
   cases κ using Kn.casesOn with
   |base=>
    rw[qg k (λe j=>by
     clear k;cases ag using Mine.Or.casesOn with
     |nil=>let(f,k):=cC j;clear j;subst f;rw[Kd _ _ _ _ _ _ _ _ _ ⟨abu e,k.2 h D⟩]
     |_=>rw[en K j]) (en K)]
   |ret=>rw[en K k]
 |raise=>let z:=jp d I k D K;clear k H;induction fn<;>rw[y_raise _ _ _ _ _ _ _ _ _ (y_err _ _ _ z)]
 |rule|«at»|point|ask=>let z:=I _ d _ _ _ _ _ _ _ _ _ _ _ _ h k D K H;clear k H;induction fn<;>rw[y_skim _ _ _ _ _ _ _ _ _ 1 z]
 |load=>cases ag using Mine.Or.casesOn with
  |obj=>let g:=(A _ _ _ _ _ _ _ _ _ _ _ _ _ k).cons_q.1;let z:=I _ d _ _ _ _ _ _ _ _ _ _ _ _ h k D K H;clear k H;induction fn<;>rw[LA _ _ _ _ _ _ _ _ _ _ _ _ _ _ _ _ (D.keep _ _ g.1 g.2) z]
  |num=>rw[jT D (λo r k=>A _ _ _ _ _ _ _ _ _ _ _ _ _ k) (λo r L j=>?_) k];let z:=I _ d _ _ _ _ _ _ _ _ _ _ _ _ h j D K H;clear k j H;induction fn<;>rw[LA _ _ _ _ _ _ _ _ _ _ _ _ _ _ _ _ L z]
  |_=>rw[BQ k]
 |loadIfAlive=>cases ag using Mine.Or.casesOn with
  |obj=>let g:=(A _ _ _ _ _ _ _ _ _ _ _ _ _ k).cons_q.1;let z:=I _ d _ _ _ _ _ _ _ _ _ _ _ _ h k D K H;clear k H;induction fn<;>rw[y_alive _ _ _ _ _ _ _ _ _ _ _ _ _ _ _ (D.keep _ _ g.1 g.2) z]
  |num=>rw[jT D (λo r k=>A _ _ _ _ _ _ _ _ _ _ _ _ _ k) (λo r L j=>?_) k];let z:=I _ d _ _ _ _ _ _ _ _ _ _ _ _ h j D K H;clear k j H;induction fn<;>rw[y_alive _ _ _ _ _ _ _ _ _ _ _ _ _ _ _ L z]
  |_=>rw[BQ k]
 |update a nm f q=>cases ag using Mine.Or.casesOn with
  |num x ag=>cases x using BE with
   |zero=>rw[BQ k]
   |succ x=>let(o,e,j):=d6 k;let(M,l):=cC j;let g:a=bG ad x:=(A _ _ _ _ _ _ _ _ _ _ _ _ _ l).cons_p.1;subst g;let z:=I _ d _ _ _ _ _ _ _ _ _ _ _ _ _ l (D.update d e M) K H;clear k j l H;induction fn<;>rw[abt (D.own _ _ e).2 z]
  |_=>rw[BQ k]
 |alloc o q=>let(M,j):=cC k;let(o',e,l):=d6 j;let z:=I _ d _ _ _ _ _ _ _ _ _ _ _ _ _ l (D.alloc d M (by rw[e,];rfl)) K H;rw[<-D.size]at z;clear k j l H;induction fn<;>rw[acU z]
 |fresh=>let z:=I _ d _ _ _ _ _ _ _ _ _ _ _ _ h k D K H;clear k H;induction fn<;>rw[y_fresh _ _ _ _ _ _ _ _ _ _ _ _ _ z]
 |handled own=>cases own with
  |false=>let z:=I _ d _ _ _ _ _ _ _ _ _ _ _ _ h k D K H;rw[<-d.hd,<-gF]at z;clear k H;induction fn<;>rw[y_handled _ _ _ _ _ _ _ _ _ z]
  |true=>rw[BQ k]
 |call C E _ _ q=>
  let(f,k):=cC k;subst f;let(G,k):=eQ k;let(N,k):=cC k;let(hl,k):=eQ k;let w:∀E:Option AF,Ly E=J->E≠Y byPass:=by intro E G e;subst e;simp[Ly]at G
  rw[y_call _ _ _ _ _ _ _ _ _ _ _ _ _ (w _ G)<|iz d A I k D ⟨rfl,N,w _ G,BY<|Cf hl,K⟩]
 |stack=>cases fn with
  |true=>rw[BQ k]
  |false=>rw[y_stack _ _ _ _ _ _ _ _ _ λp b _=>I _ d _ _ _ _ _ _ _ _ _ _ _ _ h (k p b) D K H]
 |_=>rw[BQ k]
def aat:∀N,uQ V (qJ V N):=by
 cases _ with
 |zero=>rw[λx x x x x x x x x x x x x x x k=>by cases k]
 |succ N i=>rw[abv (abF N)<|i]
end
noncomputable def aC:AF->SV
 |.none=>.none
 |.bool b=>.bool b
 |.int i _=>.int i
 |.str s _=>.str s
 |.type n=>.ty n
 |.builtin id=>.bi id
 |.ref a=>.ref a
 |.ellipsis=>.ell
 |.notImplemented=>.nim
 |.float b _=>.flt b
 |.bytes b _=>.byt b
noncomputable def SV.val(t:Nat):SV->AF
 |.none=>.none
 |.bool b=>.bool b
 |.int i=>.int i t
 |.str s=>.str s t
 |.ty n=>.type n
 |.bi id=>.builtin id
 |.ref a=>.ref a
 |.ell=>.ellipsis
 |.nim=>.notImplemented
 |.flt b=>.float b t
 |.byt b=>.bytes b t
def bA(h:aC v=x):∃t,v=x.val t:=by subst h;induction v<;>first|exact⟨0,rfl⟩|exact⟨_,rfl⟩
noncomputable def bare(o:Obj)(x:SO):SO:=match o.dict,o.slots.toList with
 |none,[]=>x
 |_,_=>.am o
noncomputable def rd(o:Obj):SO:=match o.data with
 |.plain=>.inst o.cls o.dict<|o.slots.toList.map<|CS aC
 |.seq x _=>bare o<|.seq o.cls<|x.toList.map aC
 |.dict es _=>match o.dict with
  |none=>.nss o.cls (es.toList.map λe=>(aC e.key,aC e.val))<|o.slots.toList.map<|CS aC
  |_=>.am o
 |.fields vs=>bare o<|.fld o.cls<|vs.toList.map aC
 |.cell v=>bare o<|.cell o.cls<|v.map aC
 |_=>.am o
def g8(h:bare o x=y):(A3 (x=y) (o.dict=As)<|o.slots=#[])\/y=.am o:=by
 delta bare at h;split at h
 .rename_i H e;rw[.inl ⟨h,H,Ir e⟩]
 .rw[.inr h.symm]
def eU(h:bare o x=y)(n:x≠y)(N:y≠.am o):False:=(g8 h).elim (λz=>n z.1) N
abbrev Pk:=Nat->Int×Nat×Nat
noncomputable def iA(p:Pk):Nat->!(SV×SV)->!B5
 |_,[]=>[]
 |i,q::l=>⟨(p i).1,q.1.val (p i).2.1,q.2.val (p i).2.2⟩::iA p (i+1) l
def uR(cls:AF)(p:Pk)(fs:List<|SV×SV)(n:Nat):Obj:={cls:=cls,data:=.dict (iA p 0 fs).toArray n}
def adH:∀(es:!B5)(fs:List<|SV×SV)(i:Nat),es.map (λe=>(aC e.key,aC e.val))=fs->∃p,es=iA p i fs:=by
 cases _ with
 |nil=>intro fs i h;subst h;rw[(λx=>(0,0,0),rfl)]
 |cons e es I=>
  intro fs i h;subst h;let(p,n):=I _ (i+1) rfl;let(b,H):=bA (v:=e.key) rfl;let(c,d):=bA (v:=e.val) rfl;rw[(λj=>if j=i then(e.hash,b,c)else p j,?_)]
  let ext:∀(l:List<|SV×SV)(k:Nat),i<k->iA p k l=iA (λj=>if j=i then(e.hash,b,c)else p j) k l:=by
   intro l;cases l with
   |nil=>intro k _;rfl
   |cons q l I=>intro k m;show _::_=_::_;rw[I (k+1)<|B9 m,];dsimp only;rw[Z7<|Dz m,]
  show e::es=_::_;rw[<-ext _ (i+1)<|B6 i,<-n];let(E,r,ev):=e;dsimp only at H d ⊢;rw[Z0 rfl,<-H,<-d]
def abH(h:rd o=.nss cls fs sl):n9 λp n b=>o={uR cls p fs n with slots:=b}/\b.toList.map (CS aC)=sl:=by
 let(c,d,L,s):=o;cases L with
 |dict es n=>
  cases d with
  |some=>cases h
  |none=>let(p,j):=adH es.toList _ 0 rfl;cases h;rw[(p,n,s,?_,rfl)];delta uR;rw[<-j]
 |seq=>rw[(eU h (λe=>nomatch e) λe=>nomatch e).elim]
 |fields=>rw[(eU h (λe=>nomatch e) λe=>nomatch e).elim]
 |cell=>rw[(eU h (λe=>nomatch e) λe=>nomatch e).elim]
 |_=>cases h
set_option genInjectivity true in
set_option genCtorIdx true in
inductive EE where
 |ok (v:SV)
 |au (f:KW)
 |err (v:AF)
 |again (c:BC)
def ajv:uO->EE
 |.ret (.ok (.ret v))=>.ok<|aC v
 |.ret (.ok f)=>.au f
 |.ret (.error e)=>.err e
 |.again c=>.again c
set_option genInjectivity true in
set_option genCtorIdx true in
inductive EC where
 |call (f:SV) (pos:!SV) (kw:!(U×SV))
 |bi (id:String) (pos:!SV) (kw:!(U×SV))
 |am (c:BC)
def eV:BC->EC
 |.call f a=>.call (aC f) (a.pos.map aC)<|a.kw.map λq=>(q.1,aC q.2)
 |.builtin id a=>.bi id (a.pos.map aC)<|a.kw.map λq=>(q.1,aC q.2)
 |c=>.am c
abbrev Rd:=List<|AL×SO
noncomputable def iZ:Kn->!Env
 |.base=>[]
 |.ret _ c _ _ κ=>c.envs++iZ κ
theorem aau A (h:A.frames=Y l):∀κ,(aN A κ).frames=Y (iZ κ++l)
 |.base=>h
 |.ret lv c H k κ=>by show IN c.envs (aN A κ).frames=_;rw[aau A h κ,];rw[pushEnvs_eq,];show Y (c.envs++(iZ κ++l))=Y ((c.envs++iZ κ)++l);rw[AD,]
theorem aaO A:∀κ,gE κ->(aN A κ).units<=A.units+10*κ.lv
 |.base,_=>AA _
 |.ret lv c d k κ,h=>by let(H,e,_,_,b):=h;let w:=acS c;show(aN A κ).units+c.cUnits<=A.units+10*lv;rw[as9 H (aaO A κ b) w]
def SO.is(so:SO)(o:Obj):Prop:=match so with
 |.dct c fs ep=>rd o=.ns c fs/\∃es,o.data=.dict es ep
 |.seq c xs=>rd o=.seq c xs
 |.nss c fs sl=>rd o=.nss c fs sl
 |.inst c d sl=>rd o=.inst c d sl
 |.fld c vs=>rd o=.fld c vs
 |.cell c v=>rd o=.cell c v
 |.am I=>o=I
def fF(h:rd o=so):so.is o:=by
 cases so with
 |dct c b ep=>rw[ZZ h (λh=>by
   delta rd bare at h
   repeat' split at h
   all_goals cases h)]
 |am I=>rw[by
   delta rd at h
   repeat' split at h
   all_goals first|exact SO.am.inj h|cases h|exact(g8 h).elim (λz=>nomatch z.1) λz=>(SO.am.inj z).symm]
 |_=>rw[h]
def HS(h:CF)(r:Rd):Prop:=∀q∈r,∃o,h.get? q.1=Y o/\q.2.is o
noncomputable def iB:!Nat->Rd->Nat->Option AL
 |j::I,q::r,i=>if j=i then Y q.1 else iB I r i
 |_,_,_=>As
noncomputable def lr(T:BT)(ad:cX):!Nat->Rd->Prop
 |[],[]=>True
 |i::l,q::r=>(∃o,A3 (T.get i=Y o) (q.1=bG ad i)<|q.2.is o)/\lr T ad l r
 |_,_=>False
def aaP{T:BT}{ad:cX}{ix:!Nat}:∀{r:Rd},lr T ad ix r->A3 (∀q∈r,∃i∈ix,∃o,A3 (T.get i=Y o) (q.1=bG ad i) (q.2.is o)) (∀i a,iB ix r i=Y a->a=bG ad i/\(T.get i).isSome=J) (∀i∈ix,iB ix r i=Y (bG ad i)):=by
 cases ix with
 |nil=>
  intro r h;cases r using A8 with
  |nil=>rw[((λx q=>(nomatch q)),(λx x q=>(nomatch q)),(λx q=>(nomatch q)))]
  |cons=>rw[h.elim]
 |cons j ix I=>
  intro r h;cases r using A8 with
  |nil=>rw[h.elim]
  |cons Q r=>
   let((o,d,b,k),l):=h;let(A,L,M):=I l;rw[(λq H=>?_,λi a e=>?_,λi c=>?_)]
   .rcases Ar.mp H with rfl|H
    .rw[(j,aE,o,d,b,k)]
    .let(i,c,z):=A q H;rw[(i,.tail _ c,z)]
   .let e:(if j=i then Y Q.1 else iB ix r i)=Y a:=e;by_cases E:j=i
    .rw[Z0 E]at e;cases e;rw[(E▸b,by rw[<-E,d];rfl)]
    .rw[Z7 E]at e;rw[L i a e]
   .show(if j=i then Y Q.1 else iB ix r i)=_;by_cases E:j=i
    .rw[Z0 E,b,E]
    .rw[Z7 E,];rw[M i<|(Ar.mp c).elim (λz=>ZZ z.symm E) id]
def agb{S}(h:ps.map (·.1)=ps.map (·.2))(q:∀p∈qs,p.Ok S):ey S ps qs:=by
 rw[(?_,q)];cases ps with
 |nil=>rw[λQ h=>(nomatch h)]
 |cons p l i=>
  simp only[Cv,Lm]at h;intro x H;rcases Ar.mp H with rfl|H
  .rw[h.1]
  .rw[i h.2 x H]
section
open PySem.Builtin PySem.Builtin.Int
structure PS where
 nm:String
 run:Hw->Or->BT->cX->Option rJ
noncomputable def PS.f(p:PS)(id:String)(args:Hw)(ag:Or)(T:BT)(ad:cX):Option rJ:=match decEq id p.nm with
 |.isTrue _=>p.run args ag T ad
 |.isFalse _=>As
def PS.Ok(p:PS):Prop:=∀(V:Cx)(S:Su) args ag T ad r,p.run args ag T ad=Y r->(∀q∈r.ps,q.1=q.2)->(∀q∈r.qs,q)->∀(h:CF)(n:Nat),f9 V S h T n ad->
  ∀(A:CB)(R:BL->AJ->Prop)(t:Nat),A.depth+5<DK->R (.ok<|.ret<|r.v t) ⟨h,S.g,S.d,t+r.k,S.os⟩->Be (AN V.prog V.w) A (.builtin p.nm args) R ⟨h,S.g,S.d,t,S.os⟩
def bk{b:Dg}{w:AW}{id:String}{B:EL}{args:Hw}{Sp:PySem.Spec}{A:CB}{R:BL->AJ->Prop}{s:AJ}(plain:C8 id=J)(e:DN Ei id=Y B)
  (g:LB (B args) Sp)(h:Sp A R s):Be (AN b w) A (.builtin id args) R s:=
 AZ e (by rw[Bx plain,];rw[g b w A R s h])
def jU{b:Dg}{w:AW}{id:String}{B:EL}{args:Hw}{m:Made}{A:CB}{R:BL->AJ->Prop}{s:AJ}(plain:C8 id=J)(e:DN Ei id=Y B)
  (g:La (B args) m)(h:m.post (λv c=>R (.ok<|.ret v) c) s):Be (AN b w) A (.builtin id args) R s:=bk plain e g.meets h
structure PQ where
 v:Nat->AF
 k:Nat
 cs:!Prop
def PQ.Ok(q:PQ)(B:EL)(vs:!AF):Prop:=(∀c∈q.cs,c)->∃m:Made,La (B ⟨vs,[]⟩) m/\∀(Q:AF->AJ->Prop) h g d t os,Q (q.v t) ⟨h,g,d,t+q.k,os⟩->m.post Q ⟨h,g,d,t,os⟩
section
variable{P:AF->Prop}{L:!AF->Prop}
noncomputable def qK(v:AF)(f:U->Tok->Option β):Option β:=match v with
 |.str x t=>f x t
 |_=>As
noncomputable def sY(v:AF)(f:Int->Tok->Option β):Option β:=match v with
 |.int x t=>f x t
 |_=>As
noncomputable def vH(l:!AF)(f:AF->!AF->Option β):Option β:=match l with
 |a::l=>f a l
 |[]=>As
noncomputable def vN(l:!AF)(f:Option β):Option β:=match l with
 |[]=>f
 |_::_=>As
noncomputable def wj(args:Hw)(g:!AF->Option β):Option β:=match args with
 |⟨vs,[]⟩=>g vs
 |_=>As
noncomputable def m8(o:Option γ)(f:γ->Option β):Option β:=match o with
 |some a=>f a
 |none=>As
noncomputable def nF(o:Or)(f:Nat->Or->Option β):Option β:=match o with
 |.num x q=>f x q
 |_=>As
def je(e:qK v f=Y r)(k:∀x t,f x t=Y r->P (.str x t)):P v:=by induction v<;>first|exact k _ _ e|cases e
def lP{f:Int->Tok->Option β}{v:AF}(e:sY v f=Y r)(k:∀x t,f x t=Y r->P (.int x t)):P v:=by induction v<;>first|exact k _ _ e|cases e
def qL{f:AF->!AF->Option β}{l:!AF}(e:vH l f=Y r)(k:∀a l,f a l=Y r->L (a::l)):L l:=by
 cases l with
 |nil=>cases e
 |cons=>rw[k _ _ e]
def auj(e:vN l f=Y r)(k:f=Y r->L []):L l:=by
 cases l with
 |nil=>rw[k e]
 |cons=>cases e
def tv{g:!AF->Option β}{P:Hw->Prop}(e:wj args g=Y r)(k:∀vs,g vs=Y r->P ⟨vs,[]⟩):P args:=by
 let(vs,b):=args;cases b using A8 with
 |nil=>rw[k _ e]
 |cons=>cases e
def avS{γ:Type}{o:Option γ}{f:γ->Option β}{P:Option γ->Prop}(e:m8 o f=Y r)(k:∀a,f a=Y r->P (Y a)):P o:=by
 cases o with
 |none=>cases e
 |some=>rw[k _ e]
def oy{f:Nat->Or->Option β}{P:Or->Prop}(e:nF o f=Y r)(k:∀x q,f x q=Y r->P (.num x q)):P o:=by induction o<;>first|exact k _ _ e|cases e
end
abbrev l1(f:AF->Option β)(l:!AF):Option β:=vH l λa l=>vN l<|f a
abbrev l2(f:AF->AF->Option β)(l:!AF):Option β:=vH l λa l=>vH l λb l=>vN l<|f a b
def uS{β:Type}{r:β}{L:!AF->Prop}{f:AF->Option β}{l:!AF}(e:l1 f l=Y r)(k:∀a,f a=Y r->L [a]):L l:=qL e λa Q e=>auj (L:=λl=>L<|a::l) e<|k a
def nH{β:Type}{r:β}{L:!AF->Prop}{f:AF->AF->Option β}{l:!AF}(e:l2 f l=Y r)(k:∀a b,f a b=Y r->L [a,b]):L l:=qL e λa Q e=>uS (L:=λl=>L<|a::l) e<|k a
def qM(nm:String)(f:!AF->Option PQ):PS:=⟨nm,λargs ag Q Q=>wj args λvs=>m8 (f vs) λq=>Y ⟨q.v,q.k,[],q.cs,ag⟩⟩
def g9{f:!AF->Option PQ}(plain:C8 nm=J)(E:DN Ei nm=Y B)(h:∀vs q,f vs=Y q->q.Ok B vs):(qM nm f).Ok:=by
 intro V S args ag T ad r e _ H b n D A R t _ k;rw[tv (P:=λargs=>Be (AN V.prog V.w) A (.builtin nm args) R ⟨b,S.g,S.d,t,S.os⟩) e λvs e=>?_]
 cases C:f vs with
 |none=>rw[C]at e;cases e
 |some q=>rw[C]at e;cases e;let(m,g,p):=h vs q C H;rw[jU plain E g<|p _ _ _ _ _ _ k]
def uT(nm:String)(vs:!AF)(a:AL)(o:Obj)(q:PQ):Prop:=(∀c∈q.cs,c)->∀(b:Dg)(w:AW)(A:CB)(R:BL->AJ->Prop) h g d t os,A.depth+5<DK->Lj h a=Y o->R (.ok<|.ret<|q.v t) ⟨h,g,d,t+q.k,os⟩->Be (AN b w) A (.builtin nm ⟨vs,[]⟩) R ⟨h,g,d,t,os⟩
def uU(nm:String)(g:!AF->Option (AL×α))(f:AL×α->Obj->Or->Option (PQ×Or)):PS:=⟨nm,λargs ag T ad=>wj args λvs=>m8 (g vs) λp=>nF ag λx ag=>m8 (T.get x) λo=>m8 (f p o ag) λq=>Y ⟨q.1.v,q.1.k,[(p.1,bG ad x)],q.1.cs,q.2⟩⟩
def abI{α:Type}{g:!AF->Option (AL×α)}{f:AL×α->Obj->Or->Option (PQ×Or)}(H:∀vs p o ag q,g vs=Y p->f p o ag=Y q->uT nm vs p.1 o q.1):(uU nm g f).Ok:=by
 intro V S args ag T ad r e j d h n D A R t i k;rw[tv (P:=λargs=>Be (AN V.prog V.w) A (.builtin nm args) R ⟨h,S.g,S.d,t,S.os⟩) e λvs e=>?_]
 cases b:g vs with
 |none=>rw[b]at e;cases e
 |some p=>
  rw[b]at e;rw[oy (P:=λQ=>Be (AN V.prog V.w) A (.builtin nm ⟨vs,[]⟩) R ⟨h,S.g,S.d,t,S.os⟩) e λx ag e=>?_]
  cases c:T.get x with
  |none=>rw[c]at e;cases e
  |some o=>
   rw[c]at e;cases C:f p o ag with
   |none=>let e:m8 (f p o ag) _=Y r:=e;rw[C]at e;cases e
   |some q=>let e:m8 (f p o ag) _=Y r:=e;rw[C]at e;cases e;rw[H vs p o ag q b C d _ _ A R h _ _ _ _ i (by rw[j _ aE,];rw[(D.own _ _ c).2]) k]
noncomputable def yS(v:AF)(f:AL->Option β):Option β:=match v with
 |.ref a=>f a
 |_=>As
def aqS{β:Type}{r:β}{P:AF->Prop}{f:AL->Option β}{v:AF}(e:yS v f=Y r)(k:∀a,f a=Y r->P (.ref a)):P v:=by induction v<;>first|exact k _ e|cases e
def gRS(vs:!AF):Option<|AL×U:=l2 (λa b=>yS a λa=>qK b λs Q=>Y (a,s)) vs
def gSR(vs:!AF):Option<|AL×U×Tok:=l2 (λb a=>yS a λa=>qK b λs u=>Y (a,s,u)) vs
def ajw{vs:!AF}{p:AL×U×Tok}(h:gSR vs=Y p):vs=[.str p.2.1 p.2.2,.ref p.1]:=
 nH (L:=λvs=>vs=[.str p.2.1 p.2.2,.ref p.1]) h λb a e=>aqS (P:=λa=>[b,a]=[.str p.2.1 p.2.2,.ref p.1]) e λa e=>je (P:=λb=>[b,.ref a]=[.str p.2.1 p.2.2,.ref p.1]) e λs u e=>by cases e;rfl
def v0(nm:String)(f:AL×U->Obj->Or->Option (PQ×Or)):PS:=uU nm gRS f
def yT(nm:String)(f:AL×U×Tok->Obj->Or->Option (PQ×Or)):PS:=uU nm gSR f
def jV{f:AL×U->Obj->Or->Option (PQ×Or)}(H:∀a s u o ag q,f (a,s) o ag=Y q->uT nm [.ref a,.str s u] a o q.1):(v0 nm f).Ok:=
 abI λvs p o ag q x C=>by let(u,rfl):=(nH (L:=λvs=>∃u,vs=[.ref p.1,.str p.2 u]) x λa b e=>aqS (P:=λa=>∃u,[a,b]=[.ref p.1,.str p.2 u]) e λa e=>je (P:=λb=>∃u,[.ref a,b]=[.ref p.1,.str p.2 u]) e λs u e=>⟨u,by cases e;rfl⟩);rw[H p.1 p.2 u o ag q C]
def adI{f:AL×U×Tok->Obj->Or->Option (PQ×Or)}(H:∀a s u o ag q,f (a,s,u) o ag=Y q->uT nm [.str s u,.ref a] a o q.1):(yT nm f).Ok:=
 abI λvs p o ag q x C=>by cases ajw x;rw[H p.1 p.2.1 p.2.2 o ag q C]
noncomputable def uV(c:String)(o:Obj)(f:Option β):Option β:=match o.cls with
 |.type n=>match decide (n=c)with
  |true=>f
  |false=>As
 |_=>As
def jW(e:uV c o f=Y r):o.cls=.type c/\f=Y r:=by
 delta uV at e;cases ec:o.cls with
 |type n=>
  rw[ec]at e;by_cases h:n=c
  .dsimp only at e;rw[ZT h]at e;rw[(by rw[h,],e)]
  .dsimp only at e;rw[ZU h]at e;cases e
 |_=>rw[ec]at e;cases e
noncomputable def xp(d:Kb)(f:Array AF->Option β):Option β:=match d with
 |.seq x _=>f x
 |_=>As
noncomputable def fdV(d:Kb)(f:Array AF->Option β):Option β:=match d with
 |.fields x=>f x
 |_=>As
def rL{β:Type}{r:β}{P:Kb->Prop}{f:Array AF->Option β}{d:Kb}(e:xp d f=Y r)(k:∀xs n,f xs=Y r->P (.seq xs n)):P d:=by induction d<;>first|exact k _ _ e|cases e
def aqT{β:Type}{r:β}{P:Kb->Prop}{f:Array AF->Option β}{d:Kb}(e:fdV d f=Y r)(k:∀xs,f xs=Y r->P (.fields xs)):P d:=by induction d<;>first|exact k _ e|cases e
def v1(nm:String)(f:U->Tok->U->Tok->Option PQ):PS:=qM nm<|l2 λa b=>qK a λx t=>qK b λy u=>f x t y u
def jX{nm:String}{B:EL}{f:U->Tok->U->Tok->Option PQ}(plain:C8 nm=J)(E:DN Ei nm=Y B)(h:∀x t y u q,f x t y u=Y q->q.Ok B [.str x t,.str y u]):(v1 nm f).Ok:=
 g9 plain E λvs q e=>nH (L:=q.Ok B) e λa b e=>je (P:=λa=>q.Ok B [a,b]) e λx t e=>je (P:=λb=>q.Ok B [.str x t,b]) e λy u e=>h x t y u q e
def yW(nm:String)(f:Int->Tok->Int->Tok->Option PQ):PS:=qM nm<|l2 λa b=>sY a λx t=>sY b λy u=>f x t y u
def adJ{nm:String}{B:EL}{f:Int->Tok->Int->Tok->Option PQ}(plain:C8 nm=J)(E:DN Ei nm=Y B)(h:∀x t y u q,f x t y u=Y q->q.Ok B [.int x t,.int y u]):(yW nm f).Ok:=
 g9 plain E λvs q e=>nH (L:=q.Ok B) e λa b e=>lP (P:=λa=>q.Ok B [a,b]) e λx t e=>lP (P:=λb=>q.Ok B [.int x t,b]) e λy u e=>h x t y u q e
def kY(f:AF->AF->Option Bool)(args:Hw)(ag:Or):Option rJ:=wj args<|l2 λa b=>m8 (f a b) λp=>nF ag λβ ag=>Y ⟨λQ=>.bool<|CD β 1,0,[],[p=CD β 1],ag⟩
def dv{nm:String}{B:EL}{f:AF->AF->Option Bool}(plain:C8 nm=J)(E:DN Ei nm=Y B)(g:∀a b p,f a b=Y p->La (B ⟨[a,b],[]⟩) (.val<|.bool p)):
  PS.Ok ⟨nm,λargs ag Q Q=>kY f args ag⟩:=by
 intro V S args ag T ad r e _ H h n D A R t _ k;rw[tv (P:=λargs=>Be (AN V.prog V.w) A (.builtin nm args) R ⟨h,S.g,S.d,t,S.os⟩) e λvs e=>?_]
 rw[nH (L:=λvs=>Be (AN V.prog V.w) A (.builtin nm ⟨vs,[]⟩) R ⟨h,S.g,S.d,t,S.os⟩) e λa b e=>?_]
 cases C:f a b with
 |none=>rw[C]at e;rw[nomatch e]
 |some p=>
  rw[C]at e;rw[oy (P:=λQ=>Be (AN V.prog V.w) A (.builtin nm ⟨[a,b],[]⟩) R ⟨h,S.g,S.d,t,S.os⟩) e λβ ag e=>?_]
  cases e;rw[jU plain E (g a b p C) ?_];rw[show p=CD β 1 from H _ aE,];rw[k]
def uW(f:Int->Int->Bool)(a b:AF):Option Bool:=sY a λi Q=>sY b λj Q=>Y<|f i j
def xq(f:U->U->Bool)(a b:AF):Option Bool:=qK a λi Q=>qK b λj Q=>Y<|f i j
noncomputable def dR(x y:U):Bool:=(not<|(Ej x y 0 x.length 1).isEmpty)
noncomputable def bq(x y:U):Bool:=x.cps.toList==y.cps.toList
noncomputable def aqU(x y:U):Bool:=x.cps.toList !=y.cps.toList
def dy(h:uW f a b=Y p):lG λi j t u=>A3 (a=.int i t) (b=.int j u) (p=f i j):=
 lP (P:=λa=>lG λi j t u=>A3 (a=.int i t) (b=.int j u)<|p=f i j) h λi t h=>lP (P:=λb=>lG λI j e u=>A3 (FK i t=.int I e) (b=.int j u)<|p=f I j) h λj u h=>⟨i,j,t,u,rfl,rfl,(B3 h).symm⟩
def iC(h:xq f a b=Y p):lG λi j t u=>A3 (a=.str i t) (b=.str j u) (p=f i j):=
 je (P:=λa=>lG λi j t u=>A3 (a=.str i t) (b=.str j u)<|p=f i j) h λi t h=>je (P:=λb=>lG λI j e u=>A3 (Value.str i t=.str I e) (b=.str j u)<|p=f I j) h λj u h=>⟨i,j,t,u,rfl,rfl,(B3 h).symm⟩
def aqV:PS:=⟨"len",λargs ag Q Q=>wj args<|l1 λa=>qK a λs Q=>Y ⟨λt=>.int s.length<|t+1,2,[],[(s.length:Int)<2^63],ag⟩⟩
theorem agc:aqV.Ok:=by
 intro V S args ag T ad r e _ H h n D A R t _ k;rw[tv (P:=λargs=>Be (AN V.prog V.w) A (.builtin "len" args) R ⟨h,S.g,S.d,t,S.os⟩) e λvs e=>?_]
 rw[uS (L:=λvs=>Be (AN V.prog V.w) A (.builtin "len" ⟨vs,[]⟩) R ⟨h,S.g,S.d,t,S.os⟩) e λa e=>?_]
 rw[je (P:=λa=>Be (AN V.prog V.w) A (.builtin "len" ⟨[a],[]⟩) R ⟨h,S.g,S.d,t,S.os⟩) e λx u e=>?_]
 cases e;rw[AZ (id:="len") J7 ?_];rw[Bx plain_len,];delta Builtin.«len»;rw[Al (m:=oneArg "len" _)<|Aw ?_];rw[Al (m:=Ke (.str x u)<|BV "__len__")<|B7 (name:=BV "__len__") (KX _ _ _) JJ<|call_gives JJ (KX _ _ _) F.entry_str_len (F.args_str_len_1 _) (gives_str_len x u) ?_];rw[Al<|BP<|Aw ?_];rw[Al<|FY ?_];show A0 _ _ (if((x.length:Nat):Int)<0 then _ else _) _ _ _;rw[Z7<|DE.mpr<|BH _,];show A0 _ _ (if((x.length:Nat):Int)>=2^63 then _ else _) _ _ _;rw[Z7<|at4<|H _ aE,];rw[Al<|G7<|Aw k]
def pGe:PS:=⟨"int.__ge__",λargs ag Q Q=>kY (uW λa b=>decide<|a>=b) args ag⟩
def pLt:PS:=⟨"int.__lt__",λargs ag Q Q=>kY (uW λa b=>decide<|a<b) args ag⟩
def pIn:PS:=⟨"str.__contains__",λargs ag Q Q=>kY (xq dR) args ag⟩
def aqW:PS:=⟨"str.__eq__",λargs ag Q Q=>kY (xq bq) args ag⟩
def aqX:PS:=⟨"str.__ne__",λargs ag Q Q=>kY (xq aqU) args ag⟩
theorem ajx:pGe.Ok:=dv (by decide+kernel) F.entry_int_ge λa b p e=>by let(i,j,t,u,rfl,rfl,rfl):=dy e;rw[gives_int_ge i j t u]
theorem ajy:pLt.Ok:=dv (by decide+kernel) F.entry_int_lt λa b p e=>by let(i,j,t,u,rfl,rfl,rfl):=dy e;rw[gives_int_lt i j t u]
theorem ajz:pIn.Ok:=dv (by decide+kernel) F.entry_str_contains λa b p e=>by let(i,j,t,u,rfl,rfl,rfl):=iC e;rw[gives_str_contains i j t u]
theorem agd:aqW.Ok:=dv (by decide+kernel) F.entry_str_eq λa b p e=>by let(i,j,t,u,rfl,rfl,rfl):=iC e;rw[gives_str_eq i j t u]
theorem age:aqX.Ok:=dv (by decide+kernel) F.entry_str_ne λa b p e=>by let(i,j,t,u,rfl,rfl,rfl):=iC e;rw[gives_str_ne i j t u]
def aqY:PS:=v1 "str.__add__" λa Q b Q=>Y ⟨λt=>.str (a++b) t,1,[(a.length==0)=O,(b.length==0)=O,(a++b).length<=AO]⟩
def agf:aqY.Ok:=jX (by decide+kernel) Ez λx t y u q e H=>by cases e;rw[(_,Fh x y t u,λQ h g d t os k=>?_)];rw[H _ aE,H _ ce];rw[(H _ iW,k)]
noncomputable def vU(v:AF)(f:Option β):Option β:=match v with
 |.none=>f
 |_=>As
def auk{β:Type}{r:β}{P:AF->Prop}{f:Option β}{v:AF}(e:vU v f=Y r)(k:f=Y r->P .none):P v:=by induction v<;>first|exact k e|cases e
def yY(l:!AF):Option<|Int×Int:=vH l λa l=>l2 (λb c=>vU c<|sY a λi Q=>sY b λj Q=>Y (i,j)) l
def ajA{l:!AF}{p:Int×Int}(h:yY l=Y p):dK λt u=>l=[.int p.1 t,.int p.2 u,.none]:=
 qL (L:=λl=>dK λt u=>l=[.int p.1 t,.int p.2 u,.none]) h λa l e=>nH (L:=λl=>dK λt u=>a::l=[.int p.1 t,.int p.2 u,.none]) e λb c e=>auk (P:=λc=>dK λt u=>[a,b,c]=[.int p.1 t,.int p.2 u,.none]) e λe=>
 lP (P:=λa=>dK λt u=>[a,b,.none]=[.int p.1 t,.int p.2 u,.none]) e λi t e=>lP (P:=λb=>dK λd u=>[.int i t,b,.none]=[.int p.1 d,.int p.2 u,.none]) e λj u e=>⟨t,u,by cases e;rfl⟩
def aqZ:PS:=yT "str.__getitem__" λs o ag=>uV "slice" o (fdV o.data λvs=>m8 (yY vs.toList) λp=>
 Y (⟨λt=>.str ⟨((By (Y p.1) (Y p.2) 1 s.2.1.length).filterMap (s.2.1.cps[·]?)).toArray⟩ t,1,[((By (Y p.1) (Y p.2) 1 s.2.1.length).length==s.2.1.length)=O,((By (Y p.1) (Y p.2) 1 s.2.1.length).filterMap (s.2.1.cps[·]?)).length<=AO]⟩,ag))
theorem agg:aqZ.Ok:=adI λa s u o ag q e H b w A R h g d t os Q l k=>by
 let(m,e):=jW e;rw[aqT (P:=λn=>o.data=n->Be (AN b w) A (.builtin "str.__getitem__" ⟨[.str s u,.ref a],[]⟩) R ⟨h,g,d,t,os⟩) e (λvs e r=>?_) rfl];cases j:yY vs.toList with
 |none=>rw[j]at e;cases e
 |some p=>
  rw[j]at e;cases e;let(c,i,x):=ajA j;rw[bk (by decide+kernel) F.entry_str_getitem (meets_str_getitem_slice s u _ (Y (p.1,c)) (Y (p.2,i)) As rfl) ⟨⟨o,l,m,?_⟩,?_⟩]
  .rw[r,show vs=#[.int p.1 c,.int p.2 i,.none]from Ir x];rfl
  .delta sliceMade;let E:slicePicked s (Y (p.1,c)) (Y (p.2,i)) As=By (Y p.1) (Y p.2) 1 s.length:=rfl;rw[E,H _ aE];rw[(?_,k)];show(List.toArray _).size<=AO;rw[FZ,];rw[H _ ce]
end
section
open PySem.Builtin PySem.Builtin.Int
noncomputable def findIn(x y:U)(i j:Int):Int:=match Ej x y (FL x.length i) (min (FL x.length j) x.length) 1 with
 |k::_=>(k:Int)
 |[]=>-1
def ah8:PS:=qM "str.find" λl=>vH l λa l=>vH l λb l=>l2 (λc d=>qK a λx Q=>qK b λy Q=>sY c λi Q=>sY d λj Q=>Y ⟨λt=>.int (findIn x y i j) t,1,[]⟩) l
theorem adL:ah8.Ok:=g9 rfl F.entry_str_find λl q e=>
 qL (L:=q.Ok _) e λa l e=>qL (L:=λl=>q.Ok _<|a::l) e λb l e=>nH (L:=λl=>q.Ok _<|a::b::l) e λc d e=>
 je (P:=λa=>q.Ok _ [a,b,c,d]) e λx t e=>je (P:=λb=>q.Ok _ [.str x t,b,c,d]) e λy u e=>lP (P:=λc=>q.Ok _ [.str x t,.str y u,c,d]) e λi v e=>lP (P:=λd=>q.Ok _ [.str x t,.str y u,.int i v,d]) e λj V e=>by
  cases e
  rw[λQ=>⟨_,((by
    show La (match Ej x y (FL x.length i) (min (FL x.length j) x.length) 1 with|k::_=>LC k|[]=>(do LN "str.find.not-found";LC (-1))) _;delta findIn;cases Ej x y (FL x.length i) (min (FL x.length j) x.length) 1 with
    |nil=>rw[.rule (.of_eq rfl)]
    |cons k _=>rw[.of_eq rfl]):La («str.find» ⟨[.str x t,.str y u,.int i v,.int j V],[]⟩)<|.int<|findIn x y i j),λQ Q Q Q Q Q k=>k⟩]
def ah9:PS:=v1 "str.__add__" λa Q b u=>Y ⟨λQ=>.str b u,0,[(a.length==0)=J]⟩
def adM:ah9.Ok:=jX (by decide+kernel) Ez λx t y u q e H=>by cases e;rw[(_,Fh x y t u,λQ h g d t os k=>?_)];rw[H _ aE,];rw[k]
def aia:PS:=v1 "str.__add__" λa u b Q=>Y ⟨λQ=>.str a u,0,[(a.length==0)=O,(b.length==0)=J]⟩
def adO:aia.Ok:=jX (by decide+kernel) Ez λx t y u q e H=>by cases e;rw[(_,Fh x y t u,λQ h g d t os k=>?_)];rw[H _ aE,H _ ce];rw[k]
def pGt:PS:=⟨"int.__gt__",λargs ag Q Q=>kY (uW λa b=>decide<|a>b) args ag⟩
def pLe:PS:=⟨"int.__le__",λargs ag Q Q=>kY (uW λa b=>decide<|a<=b) args ag⟩
def aq0:PS:=⟨"int.__eq__",λargs ag Q Q=>kY (uW λa b=>a==b) args ag⟩
def aq1:PS:=⟨"int.__ne__",λargs ag Q Q=>kY (uW λa b=>a !=b) args ag⟩
theorem ajB:pGt.Ok:=dv (by decide+kernel) F.entry_int_gt λa b p e=>by let(i,j,t,u,rfl,rfl,rfl):=dy e;rw[gives_int_gt i j t u]
theorem ajC:pLe.Ok:=dv (by decide+kernel) F.entry_int_le λa b p e=>by let(i,j,t,u,rfl,rfl,rfl):=dy e;rw[gives_int_le i j t u]
theorem agh:aq0.Ok:=dv (by decide+kernel) F.entry_int_eq λa b p e=>by let(i,j,t,u,rfl,rfl,rfl):=dy e;rw[gives_int_eq i j t u]
theorem agi:aq1.Ok:=dv (by decide+kernel) F.entry_int_ne λa b p e=>by let(i,j,t,u,rfl,rfl,rfl):=dy e;rw[gives_int_ne i j t u]
def aq2:PS:=yW "int.__mod__" λa Q b Q=>Y ⟨λt=>.int (a.fmod b) t,1,[(b==0)=O]⟩
theorem agj:aq2.Ok:=adJ (by decide+kernel) F.entry_int_mod λa t b u q e H=>by cases e;rw[(_,IY a t b u (by rw[H _ aE,];decide),λQ Q Q Q Q Q k=>k)]
def aq3:PS:=yW "int.__floordiv__" λa Q b Q=>Y ⟨λt=>.int (a.fdiv b) t,1,[(b==0)=O,Dc a b=O]⟩
theorem agk:aq3.Ok:=adJ (by decide+kernel) F.entry_int_floordiv λa t b u q e H=>by cases e;rw[(_,Hy a t b u (by rw[H _ aE,];decide) (by rw[H _ ce,];decide),λQ Q Q Q Q Q k=>k)]
noncomputable def cZ(x y:U):Nat:=(Ej x y 0 x.length<|x.length+1).length
def adP:PS:=v1 "str.count" λa Q b Q=>Y ⟨λt=>.int (cZ a b) t,1,[]⟩
theorem acW:adP.Ok:=jX (by decide+kernel) F.entry_str_count λa t b u q e Q=>by cases e;rw[(_,gives_str_count a b t u,λQ Q Q Q Q Q k=>k)]
def aib:PS:=qM "int.__repr__"<|l1 λa=>sY a λa Q=>Y ⟨λt=>.str (CW a:String) t,1,[a.natAbs.log2<1920,(BV<|CW a).length<=AO]⟩
theorem adQ:aib.Ok:=g9 (by decide+kernel) F.entry_int_repr λl q e=>uS (L:=q.Ok _) e λa e=>lP (P:=λa=>q.Ok _ [a]) e λa t e H=>by cases e;rw[(_,gives_int_repr a t<|H _ aE,λQ Q Q Q Q Q k=>⟨H _ ce,k⟩)]
noncomputable def gH:!AF->Option !U
 |[]=>Y []
 |v::l=>match v with
  |.str s _=>match gH l with
   |some r=>Y<|s::r
   |none=>As
  |_=>As
def aai:∀{l:!AF}{r:!U},gH l=Y r->IP l r:=by
 cases _ with
 |nil=>intro r h;cases h;rw[.nil]
 |cons v l i=>
  intro r h;unfold gH at h;split at h
  .rename_i s t;split at h
   .rename_i b e;cases h;rw[.cons s t<|i e]
   .rw[nomatch h]
  .rw[nomatch h]
noncomputable def aZ(ys:!U)(x:U):Bool:=ys.any λy=>y==x
def adR:PS:=v0 "tuple.__contains__" λs o ag=>uV "tuple" o<|xp o.data λi=>m8 (gH i.toList) λb=>nF ag λβ ag=>Y (⟨λQ=>.bool<|CD β 1,0,[aZ b s.2=CD β 1]⟩,ag)
theorem acX:adR.Ok:=jV λa s u o ag q e H b w A R h g d t os Q i k=>by
 let(l,e):=jW e;rw[rL (P:=λm=>o.data=m->Be (AN b w) A (.builtin "tuple.__contains__" ⟨[.ref a,.str s u],[]⟩) R ⟨h,g,d,t,os⟩) e (λvs n e r=>?_) rfl];cases j:gH vs.toList with
 |none=>rw[j]at e;cases e
 |some c=>
  rw[j]at e;rw[oy (P:=λQ=>Be (AN b w) A (.builtin "tuple.__contains__" ⟨[.ref a,.str s u],[]⟩) R ⟨h,g,d,t,os⟩) e λβ ag e=>?_]
  cases e;rw[AZ (id:="tuple.__contains__") F.entry_tuple_contains ?_];rw[Bx (by decide+kernel:C8 "tuple.__contains__"=J),];rw[tuple_contains_strs ⟨o,i,l,n,r⟩ (aai j) ?_];show R (.ok<|.ret<|.bool<|aZ c s) _;rw[show aZ c s=CD β 1 from H _ aE,];rw[k]
end
section
open PySem.Builtin PySem.Builtin.Int
def eW{c:Dg}{w:AW}{A:CB}{E:AF->AJ->Prop}{s:AJ}{d:AL}{o:Obj}{es ep}{x:U}{u:Tok}{hash:Int}{Q:Option Nat->AJ->Prop}(k:s.heap.get? d=Y o)(hd:o.data=.dict es ep)
  (H:(es.all λe=>Gd e.key)=J)(h:Q (es.findIdx? λe=>e.key.isStr x) s):A0 (AN c w) A (dictFind d (.str x u) hash) Q E s:=by
 delta dictFind;try with_reducible refine BP ?_
 rw[Al<|B1 k hd ?_];dsimp only;rw[Z0 H,];delta foundByValue;cases C:es.findIdx? (λe=>e.key.isStr x)with
 |none=>rw[C]at h;rw[Aw h]
 |some i=>
  rw[C]at h;let(l,j,_):=Dr.mp C
  let b:∃t,es[i].key=.str x t:=by
   cases b:es[i].key with
   |str y t=>rw[b]at j;have:y=x:=BX j;rw[(t,by rw[this,])]
   |_=>rw[b]at j;cases j
  let(t,b):=b;simp only[CR l];rw[b,];rw[Al<|Cw k hd<|Al<|wpAny_eqBool_str<|Al<|Cw k hd ?_];show A0 _ _ (if(ep !=ep)=J then _ else _) _ E _;rw[Z7 (by simp),ZT rfl];rw[Al<|E9<|Aw h]
def dS{E:AF->AJ->Prop}{s:AJ}{o:Obj}{es ep}{Q:Option AF->AJ->Prop}(b:s.heap.get? d=Y o)(hd:o.data=.dict es ep)
  (H:(es.all λe=>Gd e.key)=J)(h:Q ((es.findIdx? λe=>e.key.isStr x).bind λi=>es[i]?.map (·.val)) {s with toks:=s.toks+1}):A0 (AN c w) A (F4 d<|.str x u) Q E s:=by
 delta F4;try with_reducible refine BP ?_
 rw[Al<|Gl<|Al<|eW (s:={s with toks:=s.toks+1}) b hd H ?_];cases j:es.findIdx? (λe=>e.key.isStr x)with
 |none=>rw[j]at h;rw[Aw h]
 |some i=>rw[j]at h;rw[Al<|B1 (s:={s with toks:=s.toks+1}) b hd<|Aw h]
noncomputable def keysOf:!B5->Option !U
 |[]=>Y []
 |e::l=>match e.key with
  |.str s _=>match keysOf l with
   |some r=>Y<|s::r
   |none=>As
  |_=>As
noncomputable def iv:!U->U->Option Nat
 |[],_=>As
 |y::l,x=>if y==x then Y 0 else(iv l x).map (·+1)
def aaQ x:∀{l:!B5}{ys:!U},keysOf l=Y ys->(l.all λe=>Gd e.key)=J/\l.findIdx? (λe=>e.key.isStr x)=iv ys x:=by
 cases _ with
 |nil=>intro ys h;cases h;rw[(rfl,rfl)]
 |cons e l i=>
  intro ys h;unfold keysOf at h;split at h
  .rename_i s t H;split at h
   .rename_i r c;cases h;let(a,b):=i c;rw[(?_,?_)]
    .rw[List.all_cons,a,H];rfl
    .rw[List.findIdx?_cons,H,b];rfl
   .rw[nomatch h]
  .rw[nomatch h]
def cS{es:Array B5}(h:keysOf es.toList=Y ys) x:(es.all λe=>Gd e.key)=J/\es.findIdx? (λe=>e.key.isStr x)=iv ys x:=by let(a,b):=aaQ x h;rw[<-Array.all_toList];rw[(a,?_)];rw[<-b];let⟨l⟩:=es;simp
def xr(o:Obj)(f:!B5->!U->Option β):Option β:=uV "dict" o (match o.data with
 |.dict es _=>m8 (keysOf es.toList) λb=>f es.toList b
 |_=>As)
def oz(e:xr o f=Y r):n9 λa ep ys=>A3 (o.data=.dict a ep) (keysOf a.toList=Y ys) (f a.toList ys=Y r):=by
 let(_,e):=jW e;cases H:o.data with
 |dict a ep=>
  rw[H]at e;cases b:keysOf a.toList with
  |none=>let e:m8 (keysOf a.toList) _=Y r:=e;rw[b]at e;cases e
  |some ys=>let e:m8 (keysOf a.toList) _=Y r:=e;rw[b]at e;rw[(a,ep,ys,rfl,b,e)]
 |_=>rw[H]at e;cases e
def aaR{es}{e:B5}{A:Array B5}(H:A.toList=es)(h:es[i]?=Y e)(k2:A.findIdx? (λe=>e.key.isStr s)=iv ys s)(q:iv ys s=Y i):
  ((A.findIdx? λe=>e.key.isStr s).bind λi=>A[i]?.map (·.val))=Y e.val:=by
 rw[k2,q,Fa];subst H;rw[Bt]at h;rw[h,];rfl
def aq4:PS:=v0 "dict.__contains__" λp o ag=>xr o λQ b=>nF ag λβ ag=>Y (⟨λQ=>.bool<|CD β 1,1,[(p.1==1)=O,(iv b p.2).isSome=CD β 1]⟩,ag)
def agl:aq4.Ok:=jV λa s u o ag q e c b w A R h g d t os V n k=>by
 let(r,ep,j,G,x,e):=oz e;rw[oy (P:=λV=>Be (AN b w) A (.builtin "dict.__contains__" ⟨[.ref a,.str s u],[]⟩) R ⟨h,g,d,t,os⟩) e λβ ag e=>?_]
 cases e;let Q:=c _ ce;let(B,l):=cS x s;rw[AZ (id:="dict.__contains__") GS ?_];rw[Bx (by decide+kernel:C8 "dict.__contains__"=J),];show A0 _ _ (F4 a (.str s u)>>=_) _ _ _;rw[Al<|dS n G B ?_];rw[l,];let k:R (.ok<|.ret<|.bool<|CD β 1) ⟨h,g,d,t+1,os⟩:=k;rw[<-show(iv j s).isSome=CD β 1 from Q]at k;clear e;cases m:iv j s with
 |some i=>rw[m]at k l;let H:i<r.size:=(Dr.mp l).1;rw[Fa,CR H];rw[Aw k]
 |none=>rw[m]at k;show A0 _ _ (JY a (.str s u)>>=_) _ _ _;rw[Al<|GC (c _ aE)<|Aw k]
def aic:PS:=v0 "dict.__getitem__" λp o ag=>xr o λes b=>nF ag λi ag=>m8 es[i]? λe=>Y (⟨λQ=>e.val,1,[iv b p.2=Y i]⟩,ag)
def adS:aic.Ok:=jV λa s u o ag q e c b w A R h g d t os Q j k=>by
 let(l,ep,r,G,x,e):=oz e;rw[oy (P:=λQ=>Be (AN b w) A (.builtin "dict.__getitem__" ⟨[.ref a,.str s u],[]⟩) R ⟨h,g,d,t,os⟩) e λi ag e=>?_]
 cases H:l.toList[i]? with
 |none=>rw[H]at e;cases e
 |some en=>rw[H]at e;cases e;let(m,n):=cS x s;rw[AZ (id:="dict.__getitem__") G8 ?_];rw[Bx (by decide+kernel:C8 "dict.__getitem__"=J),];show A0 _ _ (F4 a (.str s u)>>=_) _ _ _;rw[Al<|dS j G m ?_];rw[aaR rfl H n<|c _ aE,];rw[Aw k]
def adT:PS:=v0 "dict.get" λp o ag=>xr o λes b=>nF ag λi ag=>match i with
 |0=>Y (⟨λQ=>.none,1,[(p.1==1)=O,iv b p.2=As]⟩,ag)
 |i+1=>m8 es[i]? λe=>Y (⟨λQ=>e.val,1,[iv b p.2=Y i]⟩,ag)
def acY:adT.Ok:=jV λa s u o ag q e c b w A R h g d t os V m k=>by
 let(j,ep,n,G,x,e):=oz e;rw[oy (P:=λV=>Be (AN b w) A (.builtin "dict.get" ⟨[.ref a,.str s u],[]⟩) R ⟨h,g,d,t,os⟩) e λi ag e=>?_]
 let(r,l):=cS x s;let z:∀{Q:Prop},Q->Q:=id;rw[AZ (id:="dict.get") I2 ?_];rw[Bx (by decide+kernel:C8 "dict.get"=J),];show A0 _ _ (F4 a (.str s u)>>=_) _ _ _;rw[Al<|dS m G r ?_];cases i using BE with
 |zero=>cases e;rw[l,show iv n s=As from c _ ce];show A0 _ _ (Hz a (.str s u)>>=_) _ _ _;rw[Al<|wpAny_missed_other (c _ aE)<|Aw k]
 |succ i=>
  let e:m8 j.toList[i]? _=Y q:=e;cases H:j.toList[i]? with
  |none=>rw[H]at e;cases e
  |some en=>rw[H]at e;cases e;rw[aaR rfl H l<|c _ aE,];rw[Aw k]
noncomputable def ndV(o:Obj)(f:Option β):Option β:=match o.dict with
 |none=>match o.slots.toList with
  |[]=>f
  |_=>As
 |_=>As
def ajD(e:ndV o f=Y r):A3 (o.dict=As) (o.slots=#[])<|f=Y r:=by
 let(_,d,_,⟨sl⟩):=o;cases d with
 |some _=>cases e
 |none=>cases sl using A8 with
  |nil=>rw[(rfl,rfl,e)]
  |cons=>cases e
def adU(x:U){l:!AF}{ys:!U}(h:IP l ys):(l.any λv=>v.isStr x)=aZ ys x:=by
 cases h with
 |nil=>rfl
 |cons y t h i=>rw[List.any_cons,i];rfl
def adV(h:IP l ys):∀v∈l,dK λy t=>v=.str y t:=by
 cases h with
 |nil=>rw[λQ h=>(nomatch h)]
 |cons y t _ i=>
  intro v x;rcases Ar.mp x with rfl|x
  .rw[(y,t,rfl)]
  .rw[i v x]
def aaJ(h:IP i.toList ys):LB (Builtin.«list.__contains__» ⟨[.ref l,.str x u],[]⟩)
  (λV R s=>s.heap.get? l=Y {cls:=.type "list",dict:=As,data:=.seq i n,slots:=#[]}/\R (.ok<|.ret<|.bool<|aZ ys x) s):=by
 let z:=Kf l i n (.str x u) (λv=>v.isStr x) (λy B=>by
  let(c,t,rfl):=adV h y (Array.mem_toList_iff.mpr B);intro b w A E s Q H
  rw[eqBool_str H])
 let e:(i.any λv=>v.isStr x)=aZ ys x:=by rw[<-Gm];rw[adU x h]
 rw[e]at z;rw[z]
def abJ:PS:=v0 "list.__contains__" λp o ag=>ndV o<|uV "list" o<|xp o.data λi=>m8 (gH i.toList) λb=>nF ag λβ ag=>Y (⟨λQ=>.bool<|CD β 1,0,[aZ b p.2=CD β 1]⟩,ag)
def abw:abJ.Ok:=jV λa s u o ag q e H b w A R h g d t os Q i k=>by
 let(c,l,e):=ajD e;let(m,e):=jW e;let(C,G,L,M):=o;subst c l m;rw[rL (P:=λr=>L=r->Be (AN b w) A (.builtin "list.__contains__" ⟨[.ref a,.str s u],[]⟩) R ⟨h,g,d,t,os⟩) e (λvs n E x=>?_) rfl];clear e;subst x;clear e;cases j:gH vs.toList with
 |none=>rw[j]at E;cases E
 |some B=>
  rw[j]at E;rw[oy (P:=λQ=>Be (AN b w) A (.builtin "list.__contains__" ⟨[.ref a,.str s u],[]⟩) R ⟨h,g,d,t,os⟩) E λβ ag E=>?_]
  clear e;cases E;rw[bk (by decide+kernel) EW (aaJ (n:=n)<|aai j) ⟨i,?_⟩];rw[show aZ B s=CD β 1 from H _ aE,];rw[k]
end
noncomputable def lQ(p:Pk):Nat->!SV->!AF
 |_,[]=>[]
 |i,x::l=>x.val (p i).2.1::lQ p (i+1) l
noncomputable def hw(p:Pk):Nat->!(Option SV)->!(Option AF)
 |_,[]=>[]
 |i,x::l=>x.map (·.val (p i).2.1)::hw p (i+1) l
def jY(p:Pk)(n:Nat):SO->Obj
 |.seq c x=>⟨c,As,.seq (lQ p 0 x).toArray n,#[]⟩
 |.nss c b M=>⟨c,As,.dict (iA p 0 b).toArray n,(hw p b.length M).toArray⟩
 |.inst c d M=>⟨c,d,.plain,(hw p 0 M).toArray⟩
 |.fld c vs=>⟨c,As,.fields (lQ p 0 vs).toArray,#[]⟩
 |.cell c v=>⟨c,As,.cell<|v.map (·.val (p 0).2.1),#[]⟩
 |.am o=>o
 |.dct c b ep=>⟨c,As,.dict (iA p 0 b).toArray ep,(hw p b.length []).toArray⟩
def adW:∀(vs:!AF)(i:Nat),∃p,vs=lQ p i (vs.map aC):=by
 cases _ with
 |nil=>intro _;rw[(λx=>(0,0,0),rfl)]
 |cons v vs I=>
  intro i;let(p,h):=I<|i+1;let(t,H):=bA (v:=v) rfl
  let ext:∀(l:!SV)(k:Nat),i<k->lQ p k l=lQ (λj=>if j=i then(0,t,0)else p j) k l:=by
   intro l;cases l with
   |nil=>intro k _;rfl
   |cons q l I=>intro k b;show _::_=_::_;rw[I (k+1)<|B9 b,];dsimp only;rw[Z7<|Dz b,]
  rw[(λj=>if j=i then(0,t,0)else p j,?_)];show v::vs=_::_;rw[<-ext _ (i+1)<|B6 i,<-h];dsimp only;rw[Z0 rfl,<-H]
def adX:∀(vs:List<|Option AF)(i:Nat),∃p,vs=hw p i (vs.map<|CS aC):=by
 cases _ with
 |nil=>intro _;rw[(λx=>(0,0,0),rfl)]
 |cons v vs I=>
  intro i;let(p,h):=I<|i+1
  let H:∃t,v=(v.map aC).map (·.val t):=by
   cases v with
   |none=>rw[(0,rfl)]
   |some v=>let(t,H):=bA (v:=v) rfl;rw[(t,Z8 Y H)]
  let(t,H):=H
  let ext:∀(l:List<|Option SV)(k:Nat),i<k->hw p k l=hw (λj=>if j=i then(0,t,0)else p j) k l:=by
   intro l;cases l with
   |nil=>intro k _;rfl
   |cons q l I=>intro k b;show _::_=_::_;rw[I (k+1)<|B9 b,];dsimp only;rw[Z7<|Dz b,]
  rw[(λj=>if j=i then(0,t,0)else p j,?_)];show v::vs=_::_;rw[<-ext _ (i+1)<|B6 i,<-h];dsimp only;rw[Z0 rfl,<-H]
def agm:∀{l:List<|SV×SV}{i:Nat},(∀j,i<=j->j<i+l.length->p j=b j)->iA p i l=iA b i l:=by
 cases _ with
 |nil=>intro _ _;rw[rfl]
 |cons q l I=>intro i h;show _::_=_::_;rw[h i (AA _) (by simp),I λj H e=>h j (C5 H) (by simp;rw[om3 e])]
def agn:∀{l:List<|Option SV}{i:Nat},(∀j,i<=j->p j=b j)->hw p i l=hw b i l:=by
 cases _ with
 |nil=>intro _ _;rw[rfl]
 |cons q l I=>intro i h;show _::_=_::_;rw[h i<|AA _,I λj H=>h j<|C5 H]
def gI o x:(A3 (o.dict=As) (o.slots=#[])<|bare o x=x)\/bare o x=.am o:=(g8 rfl).imp (λh=>⟨h.2,h.3,h.1.symm⟩) id
def rM(h:so.is o)(m:o=jY p n (rd o)):o=jY p n so:=by
 cases so with
 |dct c d ep=>
  let(H,es,b):=h;rw[H]at m;let e:=Z8 Obj.data m;rw[b]at e
  rewrite [m,(LL e).2]
  rfl
 |am I=>rw[h]
 |_=>rw[m.trans<|Z8 (jY p n) h]
def aq5 o:dK λp n=>o=jY p n (rd o):=by
 let am:∀o:Obj,dK λp n=>o=jY p n (.am o):=λo=>⟨λQ=>(0,0,0),0,rfl⟩
 let(c,d,L,M):=o;cases L with
 |plain=>let(p,k):=adX M.toList 0;rw[(p,0,?_)];show _=(⟨c,d,.plain,(hw p 0<|M.toList.map<|CS aC).toArray⟩:Obj);rw[<-k]
 |seq x n=>
  rcases gI ⟨c,d,.seq x n,M⟩ (.seq c (x.toList.map aC))with⟨H,b,m⟩|h
  .dsimp only at H b;subst H b;let(p,k):=adW x.toList 0;rw[(p,n,?_)];show _=(⟨c,As,.seq (lQ p 0<|x.toList.map aC).toArray n,#[]⟩:Obj);rw[<-k]
  .let(p,N,e):=am ⟨c,d,.seq x n,M⟩;rw[(p,N,by show _=jY p N (bare _ _);rw[h,];rw[e])]
 |dict es n=>
  cases d with
  |some d=>rw[am _]
  |none=>let⟨M⟩:=M;let(r,H):=adH es.toList _ 0 rfl;let(w,b):=adX M es.toList.length;let A:(es.toList.map λe=>(aC e.key,aC e.val)).length=es.toList.length:=Ap ..;rw[(λi=>if i<es.toList.length then r i else w i,n,?_)];show _=(⟨c,As,.dict (iA _ 0<|es.toList.map λe=>(aC e.key,aC e.val)).toArray n,(hw _ (es.toList.map λe=>(aC e.key,aC e.val)).length<|M.map<|CS aC).toArray⟩:Obj);rw[A,<-agm (p:=r) (λj Q l=>by rw[Z0 (by rw[A]at l;rw[om4 l]),]),<-H,<-agn (p:=w) (λj l=>by rw[Z7<|AX.mpr l,]),<-b]
 |fields vs=>
  rcases gI ⟨c,d,.fields vs,M⟩ (.fld c (vs.toList.map aC))with⟨H,b,m⟩|h
  .dsimp only at H b;subst H b;let(p,k):=adW vs.toList 0;rw[(p,0,?_)];show _=(⟨c,As,.fields (lQ p 0<|vs.toList.map aC).toArray,#[]⟩:Obj);rw[<-k]
  .let(p,N,e):=am ⟨c,d,.fields vs,M⟩;rw[(p,N,by show _=jY p N (bare _ _);rw[h,];rw[e])]
 |cell v=>
  rcases gI ⟨c,d,.cell v,M⟩ (.cell c (v.map aC))with⟨H,b,m⟩|h
  .dsimp only at H b;subst H b;cases v with
   |none=>rw[(λQ=>(0,0,0),0,rfl)]
   |some v=>let(t,B):=bA (v:=v) rfl;rw[(λQ=>(0,t,0),0,?_)];show _=(⟨c,As,.cell<|Y<|(aC v).val t,#[]⟩:Obj);rw[<-B]
  .let(p,N,e):=am ⟨c,d,.cell v,M⟩;rw[(p,N,by show _=jY p N (bare _ _);rw[h,];rw[e])]
 |_=>rw[am _]
def jZ(h:CF):∃(P:Nat->Pk)(E:Nat->Nat),∀a o,h.get? a=Y o->o=jY (P a) (E a) (rd o):=by
 let z:∀a,∃q:Pk×Nat,∀o,h.get? a=Y o->o=jY q.1 q.2 (rd o):=by
  intro a;cases e:h.get? a with
  |none=>rw[((λQ=>(0,0,0),0),λo q=>by cases q)]
  |some o=>let(p,n,b):=aq5 o;rw[((p,n),λI q=>by cases q;rw[b])]
 rw[(λa=>(I3<|z a).1,λa=>(I3<|z a).2,λa o e=>Kk (z a) o e)]
noncomputable def nI(t:Nat->Nat):Nat->!(U×SV)->!(U×AF)
 |_,[]=>[]
 |i,q::l=>(q.1,q.2.val<|t i)::nI t (i+1) l
noncomputable def ua(t:Nat->Nat):Nat->!SV->!AF
 |_,[]=>[]
 |i,x::l=>x.val (t i)::ua t (i+1) l
def ub(t u:Nat->Nat):EC->BC
 |.call f pos b=>.call (f.val<|t 0) ⟨ua t 1 pos,nI u 0 b⟩
 |.bi id pos b=>.builtin id ⟨ua t 1 pos,nI u 0 b⟩
 |.am c=>c
def aid(h:∀j,i<=j->t j=e j):∀(l:!SV)(k:Nat),i<=k->ua t k l=ua e k l:=by
 cases _ with
 |nil=>intro _ _;rw[rfl]
 |cons x l I=>intro k b;show _::_=_::_;rw[h k b,I (k+1)<|Bz b]
def aie:∀(vs:!AF)(i:Nat),∃t,vs=ua t i (vs.map aC):=by
 cases _ with
 |nil=>intro _;rw[(λx=>0,rfl)]
 |cons v vs I=>intro i;let(p,h):=I<|i+1;let(t,H):=bA (v:=v) rfl;rw[(λj=>if j=i then t else p j,?_)];show v::vs=(aC v).val (if i=i then t else p i)::_;rw[Z0 rfl,<-H,<-aid (t:=p) (i:=i+1) (λj c=>by rw[Z7<|om5 c,]) _ _<|AA _,<-h]
def ajE(h:∀j,i<=j->t j=e j):∀(l:List<|U×SV)(k:Nat),i<=k->nI t k l=nI e k l:=by
 cases _ with
 |nil=>intro _ _;rw[rfl]
 |cons x l I=>intro k b;show _::_=_::_;rw[h k b,I (k+1)<|Bz b]
theorem oA:∀(vs:List<|U×AF)(i:Nat),∃t,vs=nI t i (vs.map λq=>(q.1,aC q.2))
 |[],_=>⟨λQ=>0,rfl⟩
 |(n,v)::vs,i=>by let(p,h):=oA vs<|i+1;let(t,H):=bA (v:=v) rfl;rw[(λj=>if j=i then t else p j,?_)];show(n,v)::vs=(n,(aC v).val (if i=i then t else p i))::_;rw[Z0 rfl,<-H,<-ajE (t:=p) (i:=i+1) (λj c=>by rw[Z7<|om5 c,]) _ _<|AA _,<-h]
def aif(h:eV c=ec):dK λt u=>c=ub t u ec:=by
 subst h;cases c with
 |call f a=>let(pos,b):=a;let(t,H):=aie pos 1;let(u,d):=oA b 0;let(e,C):=bA (v:=f) rfl;rw[(λj=>if j=0 then e else t j,u,?_)];show Code.call f ⟨pos,b⟩=.call ((aC f).val (if 0=0 then e else t 0)) ⟨ua _ 1 _,nI u 0 _⟩;rw[Z0 rfl,<-C,<-d,<-aid (t:=t) (i:=1) (λj k=>by rw[Z7<|om6 k,]) _ _<|AA _,<-H]
 |builtin id a=>let(pos,b):=a;let(t,H):=aie pos 1;let(u,d):=oA b 0;rw[(t,u,?_)];show Kg id ⟨pos,b⟩=.builtin id ⟨ua t 1 _,nI u 0 _⟩;rw[<-H,<-d]
 |_=>rw[(λQ=>0,λQ=>0,rfl)]
section
open PySem.Builtin PySem.Builtin.Int
noncomputable def oB(x y:U):!Nat:=Ej x y 0 x.length<|x.length+1
def eA(x y z:U):U:=JK z<|partsBetween x (oB x y) y.length
def bU(x y z:U):Bool:=(oB x y).isEmpty||(y.length==0&&z.length==0)
def yZ(nm:String)(f:U->Tok->U->Tok->U->Tok->Option PQ):PS:=qM nm λl=>vH l λa l=>l2 (λb c=>qK a λx t=>qK b λy u=>qK c λz v=>f x t y u z v) l
def adY(plain:C8 nm=J)(E:DN Ei nm=Y B)(h:∀x t y u z v q,f x t y u z v=Y q->q.Ok B [.str x t,.str y u,.str z v]):(yZ nm f).Ok:=
 g9 plain E λvs q e=>qL (L:=q.Ok B) e λa l e=>nH (L:=λl=>q.Ok B<|a::l) e λb c e=>je (P:=λa=>q.Ok B [a,b,c]) e λx t e=>je (P:=λb=>q.Ok B [.str x t,b,c]) e λy u e=>je (P:=λc=>q.Ok B [.str x t,.str y u,c]) e λz v e=>h x t y u z v q e
def aig:PS:=yZ "str.replace" λx t y Q z Q=>Y ⟨λQ=>.str x t,0,[bU x y z=J]⟩
def adZ:aig.Ok:=adY (by decide+kernel) HA λx t y u z v q e h=>by
 cases e;let H:((Ej x y 0 x.length<|x.length+1).isEmpty||(y.length==0&&z.length==0))=J:=h _ aE;let g:=IQ x y z t u v λe=>by rw[H]at e;rw[nomatch e]
 rw[Z0 H]at g;rw[(_,g,λQ Q Q Q Q Q k=>k)]
def aih:PS:=yZ "str.replace" λx Q y u z v=>Y ⟨λt=>.str (eA x y z) t,1,[bU x y z=O,(u==0||v==0)=O,(u==v)=O,(y==z)=O,FF (x.length+(oB x y).length*z.length)=O,(eA x y z).length<=AO]⟩
def ad0:aih.Ok:=adY (by decide+kernel) HA λx t y u z v q e H=>by
 cases e;let(h,H):=DC.mp H;let(b,H):=DC.mp H;let(i,H):=DC.mp H;let(j,H):=DC.mp H;let(c,H):=DC.mp H;let g:=IQ x y z t u v λQ=>⟨b,i,j,c⟩
 let h:((Ej x y 0 x.length<|x.length+1).isEmpty||(y.length==0&&z.length==0))=O:=h;rw[h,Z7 A9]at g;rw[(_,g,λQ Q Q Q Q Q k=>⟨H _ aE,k⟩)]
noncomputable def nJ:!AF->Option (List<|U×Tok)
 |[]=>Y []
 |v::l=>match v with
  |.str s t=>match nJ l with
   |some r=>Y<|(s,t)::r
   |none=>As
  |_=>As
def ad1:∀{l:!AF}{r:List<|U×Tok},nJ l=Y r->l=I4 r:=by
 cases _ with
 |nil=>intro r h;cases h;rfl
 |cons v l i=>
  intro r h;unfold nJ at h;split at h
  .split at h
   .rename_i b e;cases h;rw[i e,];rfl
   .rw[nomatch h]
  .rw[nomatch h]
noncomputable def aq6(l:List<|U×Tok):Option<|U×Tok:=match l with
 |[p]=>Y p
 |_=>As
def aii:PS:=yT "str.join" λp o ag=>uV "list" o (xp o.data λi=>m8 (nJ i.toList) λl=>match aq6 l with
 |some q=>Y (⟨λQ=>.str q.1 q.2,0,[FF ((l.map (·.1)).toArray.foldl (·+·.length+p.2.1.length) 0)=O]⟩,ag)
 |none=>Y (⟨λt=>.str (JK p.2.1<|l.map (·.1)) t,1,[FF ((l.map (·.1)).toArray.foldl (·+·.length+p.2.1.length) 0)=O,(JK p.2.1<|l.map (·.1)).length<=AO]⟩,ag))
def ad2:aii.Ok:=adI λa b u o ag q e i c w A R h g d t os V r k=>by
 let(x,e):=jW e;rw[rL (P:=λB=>o.data=B->Be (AN c w) A (.builtin "str.join" ⟨[.str b u,.ref a],[]⟩) R ⟨h,g,d,t,os⟩) e (λvs n e j=>?_) rfl];cases H:nJ vs.toList with
 |none=>rw[H]at e;cases e
 |some l=>
  rw[H]at e;let m:vs=(I4 l).toArray:=by rw[<-ad1 H]
  rw[m]at j
  let go:FF ((l.map (·.1)).toArray.foldl (·+·.length+b.length) 0)=O->(joinMade b l).post (λv C=>R (.ok<|.ret v) C) ⟨h,g,d,t,os⟩->Be (AN c w) A (.builtin "str.join" ⟨[.str b u,.ref a],[]⟩) R ⟨h,g,d,t,os⟩:=
   λQ E=>bk rfl I5 (HB b u a l Q) ⟨⟨o,r,x,n,j⟩,E⟩
  rcases l with _|⟨p,_|⟨G,l⟩⟩
  .clear j m H;cases e;rw[go (i _ aE) ⟨i _ ce,k⟩]
  .clear j m H;cases e;rw[go (i _ aE) k]
  .clear j m H;cases e;rw[go (i _ aE) ⟨i _ ce,k⟩]
def aij:PS:=v1 "str.__add__" λa Q b u=>Y ⟨λt=>.str (a++b) (match a.length==0 with|true=>u|false=>t),match a.length==0 with|true=>0|false=>1,[(b.length==0)=O,(a++b).length<=AO]⟩
def ad3:aij.Ok:=jX (by decide+kernel) Ez λx t y u q e c=>by
 cases e;rw[(_,Fh x y t u,λQ h g d t os k=>?_)];dsimp only at k;cases H:x.length==0 with
 |true=>
  let e:x++y=y:=by let⟨a⟩:=x;let⟨b⟩:=y;have:a=#[]:=Array.eq_empty_of_size_eq_zero<|BX H;clear H c k;subst this;rw[Z8 U.mk (DX ..)]
  rw[H,e]at k;rw[k]
 |false=>rw[H]at k;rw[c _ aE,];rw[(c _ ce,k)]
end
def qh:!PS:=[aqV,pGe,pLt,pIn,aqW,aqX,aqY,aqZ,ah8,ah9,aia,pGt,pLe,aq0,aq1,aq2,aq3,adP,aib,adR,aq4,aic,adT,abJ,aig,aih,aii,aij]
noncomputable def uX:!α->Nat->Option α
 |[],_=>As
 |a::l,n=>match n with
  |0=>Y a
  |n+1=>uX l n
def xu(y:Nat)(id:String)(args:Hw)(ag:Or)(T:BT)(ad:cX):Option rJ:=match uX qh y with
 |some p=>p.f id args ag T ad
 |none=>As
def VV(w:AW)(β γ:Bool)(hd:Option AF):Cx:=⟨PW,(w.withFollow "comprehension-iter-twice" γ).withFollow "special-get-raises" β,fD w.params,hd,xu⟩
noncomputable def nK(w:AW):Bool:=w.params.followText "comprehension-iter-twice"
def wc(w:AW):w.withFollow "comprehension-iter-twice" (nK w)=w:=GU w _
noncomputable def tw(w:AW):Bool:=w.params.followText "special-get-raises"
def ww(w:AW):w.withFollow "special-get-raises" (tw w)=w:=GU w _
def ajF(c:∀p∈qh,p.Ok) V:∀(S:Su) y id args ag T ad p,xu y id args ag T ad=Y p->(∀q∈p.ps,q.1=q.2)->(∀q∈p.qs,q)->∀(h:CF)(n:Nat),f9 V S h T n ad->
  ∀(A:CB)(R:BL->AJ->Prop)(t:Nat),A.depth+5<DK->R (.ok<|.ret<|p.v t) ⟨h,S.g,S.d,t+p.k,S.os⟩->Be (AN V.prog V.w) A (.builtin id args) R ⟨h,S.g,S.d,t,S.os⟩:=by
 intro S y id args ag T ad p e;delta xu at e;split at e
 .rename_i q b
  let mem:∀(l:!PS)(y:Nat),uX l y=Y q->q∈l:=by
   intro l;clear e b;cases l with
   |nil=>intro y h;rw[nomatch h]
   |cons a l i=>
    intro y h;cases y with
    |zero=>cases h;rw[aE]
    |succ y=>rw[.tail _<|i y h]
  delta PS.f at e;split at e
  .rename_i H _;subst H;rw[c q (mem _ _ b) V S args ag T ad p e]
  .rw[nomatch e]
 .rw[nomatch e]
def ad5:∀p∈qh,p.Ok:=by
 intro p j;delta qh at j;simp only[Ar,BF,or_false]at j;rcases j with rfl|rfl|rfl|rfl|rfl|rfl|rfl|rfl|rfl|rfl|rfl|rfl|rfl|rfl|rfl|rfl|rfl|rfl|rfl|rfl|rfl|rfl|rfl|rfl|rfl|rfl|rfl|rfl
 .rw[agc]
 .rw[ajx]
 .rw[ajy]
 .rw[ajz]
 .rw[agd]
 .rw[age]
 .rw[agf]
 .rw[agg]
 .rw[adL]
 .rw[adM]
 .rw[adO]
 .rw[ajB]
 .rw[ajC]
 .rw[agh]
 .rw[agi]
 .rw[agj]
 .rw[agk]
 .rw[acW]
 .rw[adQ]
 .rw[acX]
 .rw[agl]
 .rw[adS]
 .rw[acY]
 .rw[abw]
 .rw[adZ]
 .rw[ad0]
 .rw[ad2]
 .rw[ad3]
noncomputable def jq(m:Nat):KT->Nat->Nat->Bool
 |.nil,_,_=>J
 |.node v l r,s,b=>(match v with|none=>J|some _=>Fg b m)&&(jq m l (2*s) (s+b)&&jq m r (2*s) (2*s+b))
def iD(h:(a&&b)=J):a=J/\b=J:=Bv.mp h
def aaS{t:KT}:∀{s b:Nat},jq m t s b=J->∀{j:Nat}{o:Obj},t.get j=Y o->s*j+b<m:=by
 cases t with
 |nil=>rw[λQ Q Q e=>nomatch e]
 |node v l r I i=>
  intro s b h j o e;let(d,h):=iD h;let(k,n):=iD h;rw[FX]at e;by_cases c:j=0
  .clear h;subst c;rw[Z0 rfl]at e;clear h;subst e;rw[IK,Bh];rw[blt_true d]
  .rw[Z7 c]at e;by_cases p:j%2=1
   .rw[Z0 p]at e;let z:=I k e;have:2*s*(j/2)+(s+b)=s*j+b:=by let H:=om7 p;clear e h c p z;generalize j/2=q at H;clear h;subst H;rw[FV,Jk,<-Es,EI s 2];rw[om8]
    rw[this]at z;rw[z]
   .rw[Z7 p]at e;let z:=i n e;have:2*s*(j/2-1)+(2*s+b)=s*j+b:=by let H:=om9 c p;clear e h c p z;generalize j/2-1=q at H;clear h;subst H;rw[FV,<-Es,EI s 2];rw[alS]
    rw[this]at z;rw[z]
def j0(w:AW)(h:902<=a):(fD w.params).get a=As:=by
 let b:jq 902 (fD w.params) 1 0=J:=by kernel_rfl
 cases e:(fD w.params).get a with
 |none=>rfl
 |some o=>let z:=aaS b e;rw[DU,Bp]at z;rw[ZZ z<|AX.mpr h]
structure Kp(φ:AL->Prop)(s s':AJ):Prop where
 keep:∀b o,s.heap.get? b=Y o->¬φ b->s'.heap.get? b=Y o
 grow:s.heap.objs.size<=s'.heap.objs.size
 g:s'.gens=s.gens
 d:s'.drawn=s.drawn
 os:s'.os=s.os
def a0:BL->EE
 |.ok (.ret v)=>.ok<|aC v
 |.ok f=>.au f
 |.error e=>.err e
structure Ct where
 ec:EC
 hd:Option AF
 ai:Nat
 pre:Rd
 k:Nat
 ab:aW->EE
 post:aW->!SO
 al:aW->!SO
 fp:AL->Prop
 Pre:CF->Prop
 Post:aW->CF->CF->Prop
noncomputable def nu(y:aW)(i:Nat):AL:=-y.n i
noncomputable def m9(y:aW):Nat->Nat->!AL
 |0,_=>[]
 |k+1,i=>nu y i::m9 y k (i+1)
noncomputable def aH(r:Rd):!AL:=r.map (·.1)
def Ct.all(C:Ct)(b:AL):Prop:=b∈aH C.pre\/C.fp b
structure Ct.End(C:Ct)(h:CF)(r:BL)(h':CF)(y:aW):Prop where
 ab:a0 r=C.ab y
 post:HS h'<|(aH C.pre).zip<|C.post y
 lp:(C.post y).length=C.pre.length
 al:HS h'<|(m9 y C.k 0).zip<|C.al y
 ln:(C.al y).length=C.k
 fresh:∀a∈m9 y C.k 0,h.objs.size<=a
 nd:(m9 y C.k 0).Nodup
 ext:C.Post y h h'
def Ct.ax(C:Ct)(s:AJ)(r:BL)(c:AJ):Prop:=Kp C.all s c/\∃y,C.End s.heap r c.heap y
def Ct.Holds(w:AW)(C:Ct):Prop:=∀(A:CB)(c:BC)(s:AJ),eV c=C.ec->A.handled=C.hd->A.depth+C.ai<jc->uL w s.heap->HS s.heap C.pre->(aH C.pre).Nodup->(∀a,C.all a->(fD w.params).get a=As)->C.Pre s.heap->
 Be (MM w) A c (C.ax s) s
def Kp.refl:Kp φ s s:=⟨λQ Q e Q=>e,AA _,rfl,rfl,rfl⟩
def Kp.mono(k:Kp φ s s')(h:∀b,φ b->b<s.heap.objs.size->ψ b):Kp ψ s s':=⟨λb o e q=>k.keep b o e λz=>q<|h b z<|AP e,k.grow,k.g,k.d,k.os⟩
theorem Kp.trans(k:Kp φ s s')(c:Kp φ s' h):Kp φ s h:=⟨λb o e q=>c.keep b o (k.keep b o e q) q,Ax k.grow c.grow,c.g.trans k.g,c.d.trans k.d,c.os.trans k.os⟩
def Kp.sta(k:Kp φ s s')(h:∀a,φ a->(fD w.params).get a=As)(St:uL w s.heap):uL w s'.heap:=by
 rw[(gG St.kt λj o e i=>k.keep _ _ i λq=>?_,?_,Ax St.big k.grow)]
 .rw[DU,Bp]at q;rw[h _ q]at e;rw[nomatch e]
 .let(m,(o,es,ep,i,r),e):=St.lim;rw[(m,⟨o,es,ep,k.keep _ _ i λq=>?_,r⟩,e)];let z:=h _ q;let e:(fD w.params).get IJ=Y (o2 w.params):=by kernel_rfl
  rw[e]at z;rw[nomatch z]
def toR(t:Nat):EE->BL
 |.ok v=>.ok<|.ret<|v.val t
 |.au f=>.ok f
 |.err v=>.error v
 |.again _=>.error .none
noncomputable def rN(x:aQ):!Nat->!AL->!SO->!(Nat×Obj)
 |i::I,a::A,so::l=>(i,jY (x.p a) (x.e a) so)::rN x I A l
 |_,_,_=>[]
noncomputable def j1(x:aQ):!AL->!SO->!(AL×Obj)
 |a::A,so::l=>(a,jY (x.p a) (x.e a) so)::j1 x A l
 |_,_=>[]
def ago(h:a0 r=e):∃t,r=toR t e:=by
 subst h
 match r with
 |.ok (.ret v)=>let(t,H):=bA (v:=v) rfl;rw[(t,Z8 (λv=>DO<|Flow.ret v) H)]
 |.ok .next=>rw[(0,rfl)]
 |.ok .brk=>rw[(0,rfl)]
 |.ok .cont=>rw[(0,rfl)]
 |.error e=>rw[(0,rfl)]
def agp:∀{ix:!Nat}{pre:Rd}{l:!SO}{p:Nat×Obj},ix.Nodup->p∈rN x ix (aH pre) l->dK λa so=>A3 (iB ix pre p.1=Y a) ((a,so)∈(aH pre).zip l) (p.2=jY (x.p a) (x.e a) so):=by
 cases _ with
 |nil=>intro _ _ _ _ h;cases h
 |cons i ix I=>
  cases _ using A8 with
  |nil=>intro _ _ _ h;cases h
  |cons q pre=>
   cases _ using A8 with
   |nil=>intro _ _ h;cases h
   |cons so l=>
    intro p nd h;let(n,N):=AC.mp nd;clear nd;rcases Ar.mp h with rfl|h
    .rw[(q.1,so,?_,aE,rfl)];show(if i=i then Y q.1 else _)=_;rw[Z0 rfl,]
    .let(a,b,H,k,m):=I N h;rw[(a,b,?_,.tail _ k,m)];show(if i=p.1 then Y q.1 else iB ix pre p.1)=Y a;rw[Z7,]
     .rw[H]
     .rintro rfl
      have:∀{ix:!Nat}{pre:Rd}{i:Nat}{a:AL},iB ix pre i=Y a->i∈ix:=by
       intro ix;cases ix with
       |nil=>intro pre i a h;cases h
       |cons j ix I=>
        intro pre i a h;cases pre using A8 with
        |nil=>cases h
        |cons q pre=>
         unfold iB at h;split at h
         .rename_i e;subst e;rw[aE]
         .rw[.tail _<|I h]
      rw[n<|this H]
def agq{b:AL}{ix:!Nat}:∀{pre:Rd}{l:!SO},ix.Nodup->ix.length=pre.length->l.length=pre.length->b∈aH pre->∃p∈rN x ix (aH pre) l,iB ix pre p.1=Y b:=by
 cases ix with
 |nil=>intro pre l _ e _ h;cases CX e.symm;rw[nomatch h]
 |cons i ix I=>
  intro pre l nd H c h;let(q,pre,rfl):=C9 H.symm;let(so,l,rfl):=C9 c;let(n,N):=AC.mp nd;clear nd;rcases Ar.mp h with rfl|h
  .rw[(_,aE,?_)];show(if i=i then Y q.1 else _)=_;rw[Z0 rfl,]
  .let(p,d,e):=I N (Cj H) (Cj c) h;rw[(p,.tail _ d,?_)];show(if i=p.1 then Y q.1 else iB ix pre p.1)=Y b;rw[Z7,]
   .rw[e]
   .clear H;rintro rfl
    have:∀{ix:!Nat}{pre:Rd}{i:Nat}{a:AL},iB ix pre i=Y a->i∈ix:=by
     intro ix;cases ix with
     |nil=>intro pre i a h;rw[nomatch h]
     |cons j ix I=>
      intro pre i a h;cases pre using A8 with
      |nil=>rw[nomatch h]
      |cons q pre=>
       unfold iB at h;split at h
       .rename_i e;subst e;rw[aE]
       .rw[.tail _<|I h]
    rw[n<|this e]
def ad6:∀{as:!AL}{l:!SO}{p:AL×Obj},p∈j1 x as l->p.1∈as/\∃so,(p.1,so)∈as.zip l/\p.2=jY (x.p p.1) (x.e p.1) so:=by
 cases _ with
 |nil=>intro _ _ h;cases h
 |cons a as i=>
  cases _ using A8 with
  |nil=>intro _ h;cases h
  |cons so l=>
   intro p h;rcases Ar.mp h with rfl|h
   .rw[(aE,so,aE,rfl)]
   .let(H,b,e,d):=i h;rw[(.tail _ H,b,.tail _ e,d)]
def ad7:∀{as:!AL}{l:!SO},l.length=as.length->(j1 x as l).map (·.1)=as:=by
 cases _ with
 |nil=>intro _ _;cases‹!SO›<;>rfl
 |cons a as i=>
  cases _ with
  |nil=>intro h;cases h
  |cons so l=>intro h;show a::_=_;rw[i<|Cj h,]
def VW(w:AW)(hd:Option AF):Cx:=⟨PW,w,fD w.params,hd,xu⟩
def aik w hd:VV w (tw w) (nK w) hd=VW w hd:=by delta VV VW;rw[wc,ww]
def hB(P:Nat->Pk)(E:Nat->Nat)(r:Rd):List<|AL×Obj:=r.map λq=>(q.1,jY (P q.1) (E q.1) q.2)
def abK:∀{as:!AL}{l:!SO},l.length=as.length->(as.zip l).map (·.1)=as:=by
 cases _ with
 |nil=>intro _ _;cases‹!SO›<;>rfl
 |cons a as i=>
  cases _ with
  |nil=>intro h;cases h
  |cons so l=>intro h;rw[Z8 (a::·)<|i<|Cj h]
def y0:aW:=(yQ (λQ=>0) (λQ=>⟨#[]⟩) (λQ=>0) (λQ=>O) λQ=>[])
def aq7{S:Su}{a:Prop}{l:!Rq}(h:a)(t:∀q∈l,q.Ok S):∀q∈Rq.p a::l,q.Ok S:=λq H=>by
 rcases Ar.mp H with rfl|H
 .rw[h]
 .rw[t q H]
def aul{S:Su}{a:AL}{o:Obj}{l:!Rq}(h:S.h₀.get? a=Y o/\¬S.ρ a)(t:∀q∈l,q.Ok S):∀q∈Rq.o a o::l,q.Ok S:=λq H=>by
 rcases Ar.mp H with rfl|H
 .rw[h]
 .rw[t q H]
def Rg(h:CF)(ρ:AL->Prop)(b:AL)(so:SO):Prop:=∃o,A3 (h.get? b=Y o) (so.is o)<|¬ρ b
noncomputable def y5(ec:EC)(hd:Option AF)(ai:Nat)(pre:Rd)(ab:EE)(post:!SO):Ct:=⟨ec,hd,ai,pre,0,λQ=>ab,λQ=>post,λQ=>[],λQ=>False,λQ=>True,λQ Q Q=>True⟩
def sS(s:String):SV:=.str<|S s
noncomputable abbrev rf(a:Nat):SV:=.ref<| -a
noncomputable abbrev Fr:AF:=.type "frame"
noncomputable abbrev tA:AF:=.type "dict"
noncomputable abbrev Lt:AF:=.type "list"
noncomputable abbrev Tt:AF:=.type "tuple"
def c0(h:rd o=.seq c xs):dK λi n=>o={cls:=c,dict:=As,data:=.seq i n,slots:=#[]}/\i.toList.map aC=xs:=by
 let(cl,d,L,sl):=o;cases L with
 |seq i n=>
  rcases g8 h with⟨e,H,b⟩|e
  .obtain rfl:d=As:=H;obtain rfl:sl=#[]:=b;cases e;rw[(i,n,rfl,rfl)]
  .cases e
 |dict=>induction d<;>cases h
 |cell=>rw[(eU h (λe=>nomatch e) λe=>nomatch e).elim]
 |fields=>rw[(eU h (λe=>nomatch e) λe=>nomatch e).elim]
 |_=>cases h
def oC c i n:rd {cls:=c,dict:=As,data:=.seq i n,slots:=#[]}=.seq c (i.toList.map aC):=rfl
def bh(h:CF)(b:AL)(so:SO):Prop:=∃o,h.get? b=Y o/\so.is o
noncomputable def gh:!SV->(Nat->Nat)->!AF
 |[],_=>[]
 |x::l,t=>x.val (t 0)::gh l λi=>t<|i+1
def gc:∀{v:!AF}{x:!SV},v.map aC=x->∃t,v=gh x t:=by
 cases _ with
 |nil=>rintro _ rfl;rw[(λw=>0,rfl)]
 |cons a l I=>
  rintro _ rfl;rw[have⟨t,e⟩:=bA (v:=a) rfl;have⟨u,f⟩:=I rfl
  ⟨λi=>match i with|0=>t|i+1=>u i,congr (Z8 Bc e) f⟩]
def gJ t x:aC (x.val t)=x:=by induction x<;>rfl
def abL:∀(x:!SV)(t:Nat->Nat),(gh x t).map aC=x:=by
 cases _ with
 |nil=>intro _;rw[rfl]
 |cons x l i=>intro t;rw[congr (Z8 Bc<|gJ _ x)<|i _]
def abM:∀{t:Nat->Nat}{j:Nat},x[j]?=Y v->∃k,(gh x t)[j]?=Y (v.val k):=by
 cases x with
 |nil=>rw[λh=>nomatch h]
 |cons a l i=>
  intro t j h;cases j with
  |zero=>cases h;rw[(_,rfl)]
  |succ j=>rw[i h]
def agr{x:!SV}{t:Nat->Nat}{j:Nat}(h:x[j]?=As):(gh x t)[j]?=As:=D9<|Ax (AY<|(Ap aC).symm.trans<|Z8 Eh<|abL x t)<|FT.mp h
def aS{c:BC}{id:String}{pos:!SV}(h:eV c=.bi id pos []):∃t,c=.builtin id ⟨gh pos t,[]⟩:=by
 let((p,k),rfl,H,e):=((by
   cases c with
   |builtin i a=>let(H,e,b):=EC.bi.inj h;subst H;rw[(a,rfl,e,b)]
   |_=>cases h):∃args,A3 (c=.builtin id args) (args.pos.map aC=pos) (args.kw.map (λq=>(q.1,aC q.2))=Ck))
 let(t,rfl):=gc H;rw[(t,Z8 (λk=>Kg id ⟨_,k⟩)<|DG.mp e)]
def oE(g:bh h b<|.seq c xs):dK λt n=>h.get? b=Y {cls:=c,dict:=As,data:=.seq (gh xs t).toArray n,slots:=#[]}:=by let(o,e,r):=g;let(⟨v⟩,n,rfl,x):=c0 r;let(t,rfl):=gc x;rw[(t,n,e)]
def cp(g:bh h b<|.seq c xs):dK λi n=>h.get? b=Y {cls:=c,dict:=As,data:=.seq i n,slots:=#[]}/\i.toList.map aC=xs:=by let(o,e,r):=g;let(v,n,rfl,x):=c0 r;rw[(v,n,e,x)]
noncomputable def y6(id:String)(pos:!SV)(b:AL->Prop)(Pre:CF->Prop)(ab:EE)(Post:CF->CF->Prop):Ct:=⟨.bi id pos [],As,400,[],0,λQ=>ab,λQ=>[],λQ=>[],b,Pre,λQ h M=>Post h M⟩
def ajG{id:String}{pos:!SV}{b:AL->Prop}{Pre:CF->Prop}{ab:EE}{Post:CF->CF->Prop}{h h':CF}{r:BL}(e:a0 r=ab)(p:Post h h'):∃y,(y6 id pos b Pre ab Post).End h r h' y:=
 ⟨y0,e,(λQ h=>(nomatch h)),rfl,(λQ h=>(nomatch h)),rfl,(λQ h=>(nomatch h)),AS,p⟩
def aq8(l:AL)(xs:!SV)(v:SV):Ct:=y6 "list.append" [.ref l,v] (·=l) (λh=>bh h l<|.seq Lt xs) (.ok .none) λQ M=>bh M l<|.seq Lt<|xs++[v]
def aum(hd:Option AF)(l:AL)(xs:!SV)(v:SV):Ct:={aq8 l xs v with hd:=hd}
theorem abN(w:AW)(hd:Option AF) l xs v (hl:xs.length<2^20):(aum hd l xs v).Holds w:=by
 intro A c s ec B hd St _ _ _ m;let(t,rfl):=aS ec;let(i,n,b,d):=cp m
 let H:i.size<=AO:=by
  have:i.size=xs.length:=by rw[<-d,Ap];rfl
  let e:AO=2^24:=rfl;rw[to hl this]
 rw[bk (by decide+kernel) F.entry_list_append (IR l i n (v.val<|t 1) H) ⟨b,?_⟩];let E:DY (λx=>x.push<|v.val<|t 1) {cls:=.type "list",dict:=As,data:=.seq i n,slots:=#[]}={cls:=.type "list",dict:=As,data:=.seq (i.push<|v.val<|t 1)<|n+1,slots:=#[]}:=by show(Obj.mk _ _ (.seq (i.push<|v.val<|t 1) (if((i.push<|v.val<|t 1).size==i.size)=J then n else n+1)) _)=_;rw[Z7 (by rw[Array.size_push,];simp),]
 let j:=Bn (h:=s.heap) (a:=l) (f:=DY λx=>x.push<|v.val<|t 1);let k:=Bg (h:=s.heap) (a:=l) (DY λx=>x.push<|v.val<|t 1) b (by rw[E,];rfl);rw[E]at k;rw[(⟨λx I r N=>?_,AY j.1.symm,rfl,rfl,rfl⟩,y0,rfl,(λQ h=>(nomatch h)),rfl,(λQ h=>(nomatch h)),rfl,(λQ h=>(nomatch h)),AS,_,k,?_)]
 .rw[(j.2 x λe=>N<|.inr e).trans r]
 .show rd _=_;rw[oC,IS,AE,d,Cv,gJ];rfl
def aun w l xs v (hl:xs.length<2^20):(aq8 l xs v).Holds w:=abN w As l xs v hl
section
open PySem.Builtin
local macro_rules | `(tactic| kpc_if) => `(tactic| ((fail_if_success (fail_if_success with_reducible rw[wpAny_ite ?_])); first | refine (?_ : wpAny _ _ (pure _) _ _ _) | refine (?_ : wpAny _ _ (_ >>= _) _ _ _)))
def aO(x:U)(n:Int):U:=((S "\""++x)++S "\", line "++S (CW n))++S ": "
def rP(b:AL)(x:U)(n:Int):Ct:=y5 (.bi "str.__mod__" [.str<|S "\"%s\", line %d: ",.ref b] []) As 400 [(b,.seq Tt [.str x,.int n])] (.ok<|.str<|aO x n) [.seq Tt [.str x,.int n]]
theorem oG w b x n (r:x.length<=1000000)(B:0<=n)(C:n<10^10):(rP b x n).Holds w:=by
 intro A c s ec E G St i _ _ _;let(t,rfl):=aS ec;let H:=i _ aE;let(u,m,j):=oE H;let es:S "\"%s\", line %d: "=⟨#[34,37,115,34,44,32,108,105,110,101,32,37,100,58,32]⟩:=rfl
 let z:=((by
   let I:(10:Int)^10=10000000000:=rfl
   kpt_run):LB (Builtin.«str.__mod__» ⟨[.str ⟨#[34,37,115,34,44,32,108,105,110,101,32,37,100,58,32]⟩<|t 0,.ref b],[]⟩) (λQ R s=>IsTup s.heap b #[.str x<|u 0,.int n<|u 1]/\∀d k,R (.ok<|.ret<|.str (((BV "\""++x)++BV "\", line "++BV (CW n))++BV ": ") d) {s with toks:=k}))
 rw[<-es]at z;rw[bk (by decide+kernel) F.entry_str_mod z ⟨⟨_,j,rfl,_,rfl⟩,λd k=>⟨Kp.refl.trans ⟨λQ Q e Q=>e,AA _,rfl,rfl,rfl⟩,y0,rfl,λq l=>Au.mp l▸H,rfl,(λQ h=>(nomatch h)),rfl,(λQ h=>(nomatch h)),AS,trivial⟩⟩]
end
section
open PySem.Builtin
def eX(h:rd o=.fld c xs):∃i,o={cls:=c,dict:=As,data:=.fields i,slots:=#[]}/\i.toList.map aC=xs:=by
 let(cl,d,L,sl):=o;cases L with
 |fields i=>
  rcases g8 h with⟨e,H,b⟩|e
  .obtain rfl:d=As:=H;obtain rfl:sl=#[]:=b;cases e;rw[(i,rfl,rfl)]
  .cases e
 |dict=>induction d<;>cases h
 |cell=>rw[(eU h (λe=>nomatch e) λe=>nomatch e).elim]
 |seq=>rw[(eU h (λe=>nomatch e) λe=>nomatch e).elim]
 |_=>cases h
def auo c i:rd {cls:=c,dict:=As,data:=.fields i,slots:=#[]}=.fld c (i.toList.map aC):=rfl
noncomputable abbrev Di:AF:=.type "collections._deque_iterator"
noncomputable abbrev Dq:AF:=.type "collections.deque"
def aad:DN Ei "collections._deque_iterator.__next__"=Y Builtin.«collections._deque_iterator.__next__»:=entryFor_of_tree (by kernel_rfl)
def qN(d:AL)(i s l:Int):SO:=.fld Di [.ref d,.int i,.int s,.int l]
def xv(s:Int)(xs:!SV):SO:=.fld Dq<|.none::.int s::xs
def ad8(it d:AL)(i s l:Int)(xs:!SV)(x:SV):Ct:=y5 (.bi "collections._deque_iterator.__next__" [.ref it] []) As 400 [(it,qN d i s l),(d,xv s xs)] (.ok x) [qN d (i+1) s<|l-1,xv s xs]
def yL2(a b:Nat):aW:=(yQ (λi=>if i=0 then a else b) (λQ=>⟨#[]⟩) (λQ=>0) (λQ=>O) λQ=>[])
def rQ(it d:AL)(i s:Int)(xs:!SV):Ct:=⟨.bi "collections._deque_iterator.__next__" [.ref it] [],As,400,[(it,qN d i s 0),(d,xv s xs)],1,λy=>.err<|.ref<|nu y 0,λQ=>[qN d i s 0,xv s xs],λy=>[.fld (.type "StopIteration") [.ref<| -y.n 1,.none,.none,.none,.bool O,.none]],λQ=>False,λQ=>True,λQ Q Q=>True⟩
end
noncomputable def kT:CF:={}
noncomputable def rR(cn:AF)(vs:Array AF):Obj:={cls:=cn,dict:=As,data:=.fields vs,slots:=#[]}
noncomputable abbrev Tb:AF:=.type "traceback"
def aq9(c:Option SV)(vs:Array AF):Prop:=∀v,c=Y v->(vs[2]?).map aC=Y v
structure rS(h:CF)(e T:AL)(fl cn:AF)(c:Option SV)(vs ts:Array AF):Prop where
 he:h.get? e=Y (rR cn vs)
 ez:vs.size=6
 e1:vs[1]?=Y (.ref T)
 hT:h.get? T=Y (rR Tb ts)
 tz:ts.size=11
 t3:ts[3]?=Y fl
 ne:T≠e
 e2:aq9 c vs
structure gK(fr:!AL)(e T:AL)(h h':CF):Prop where
 grow:h.objs.size<=h'.objs.size
 keep:∀b o,h.get? b=Y o->b≠e->b≠T->b∉fr->h'.get? b=Y o
 slots:∀b o,h.get? b=Y o->b∈fr->(∀vs,o.data≠.fields vs)->∃sl,h'.get? b=Y {o with slots:=sl}
noncomputable abbrev a7(l:!Env):!AL:=l.filterMap (·.frame)
section
variable{L e T:AL}
def nL{h:CF}{b e:AL}{o:Obj}(H:h.get? b=Y o)(c:∀vs,o.data≠.fields vs)(d:h.get? e=Y (rR cn vs)):b≠e:=λq=>by rw[q,d]at H;cases H;rw[c vs rfl]
def j2{h:CF}{e T:AL}{fr:!AL}{f:Array AF->Array AF}(d:h.get? T=Y (rR cn vs)):gK fr e T h<|h.update T<|CN f:=
 ⟨AY (Bn ..).1.symm,λb o H Q c Q=>(Dh _ _<|Ne.symm c).trans H,λb o H Q c=>⟨o.slots,(Dh _ _<|Ne.symm<|nL H c d).trans H⟩⟩
def abO{h:CF}{T:AL}{f:Array AF->Array AF}(d:h.get? T=Y (rR cn vs)):(h.update T<|CN f).get? T=Y (rR cn<|f vs):=Bg (CN f) d rfl
def gK.fun{h h':CF}(t:gK (a7 l) e T h h')(hl:h.FunFrames kT l)(d:h.get? e=Y (rR cn vs))(i:T=e\/∃ts,h.get? T=Y (rR Tb ts)):h'.FunFrames kT l:=hl.of_keeps λb o H c=>by
 by_cases m:b∈a7 l
 .let(sl,z):=t.slots b o H m c;rw[(_,z,rfl)]
 .rw[(o,t.keep b o H (nL H c d) (i.elim (λq=>q▸nL H c d) λ⟨_,q⟩=>nL H c q) m,rfl)]
def gK.trans(x:gK fr e T h h')(y:gK fr e j h' H)(k:∀b o,h.get? b=Y o->b≠e->b≠T->b≠j):gK fr e T h H:=
 ⟨Ax x.grow y.grow,λb o g a c n=>y.keep b o (x.keep b o g a c n) a (k b o g a c) n,λb o g m d=>by
  let(sl,E):=x.slots b o g m d;let(i,l):=y.slots b _ E m d
  rw[(i,l)]⟩
def aav{n:AF}{l:Bool}(C:A.frames=Y (env::d))(hl:s.heap.FunFrames kT<|env::d)(hf:env.frame=Y L)(G:s.heap.get? e=Y (rR cn vs))(hz:vs.size=6)(h2:aq9 c vs)
  (h:∀h' T' V I,s.heap.objs.size<=T'->gK (a7<|env::d) e e s.heap h'->h'.FunFrames kT (env::d)->rS h' e T' (Co L) cn c V I->Q () {s with heap:=h'}):
  A0 M A (do let a<-frameOf env;let B<-entryPlaceOf L l;let b<-KR n a .none (Co L) .none B;D3 (.ref e) 1 b) Q E s:=by
 let w:e∉a7 (env::d):=λhm=>by let(_,o,ho,N):=hl.mem hm;rw[nL ho N G rfl]
 rw[Al<|wpAny_frameOf_fun C hl hf λi H=>?_]
 rw[Al<|wpAny_entryPlaceOf λB r=>?_]
 rw[Al<|Db ?_<|r.sizeOk5 _ _ _ _ _];let j:=(H.2.1 e w).trans G;refine_lift let K1:=rR Tb ([n,.ref L,.none,Co L,.none]++(if B.isEmpty then List.replicate 6 B8 else B)).toArray;?_;let k:=AU (h:=i) K1 j;let x:1<vs.size:=by rw[hz,];decide
 refine_lift let K2:=BZ i.objs.size;?_
 let t:gK (a7<|env::d) e e s.heap<|(i.push K1).update e<|CN (·.setIfInBounds 1 K2):=by
  let u:=j2 (fr:=a7<|env::d) (e:=e) (f:=(·.setIfInBounds 1 K2)) k;rw[(Ax ?_ u.grow,λb o hb n1 n2 n3=>u.keep b o (AU _<|(H.2.1 b n3).trans hb) n1 n2 n3,λb o hb m hn=>?_)]
  .rw[Cq,H.1];rw[CE _]
  .let(sl,e1):=H.2.2 b o hb;let(sl2,e2):=u.slots b _ (AU _ e1) m hn;rw[(sl2,e2)]
 rw[CP k rfl x<|h _ i.objs.size _ _ (by rw[H.1,];rw[AA _]) t (t.fun hl G (.inl rfl)) ⟨abO k,by rw[Gf,hz],by simp[x],(Dh _ _ (DA (AP j))).trans (BB i rfl),?_,?_,Dz (AP j),λv hv=>by rw[Array.getElem?_setIfInBounds_ne (by decide),];rw[h2 v hv]⟩]
 .rcases r with rfl|⟨_,_,_,_,_,_,_,rfl⟩<;>rfl
 .rcases r with rfl|⟨_,_,_,_,_,_,_,rfl⟩<;>rfl
def aaa(hl:s.heap.FunFrames kT l)(x:rS s.heap e T fl cn c vs ts)
  (h:∀h' I,gK (a7 l) e T s.heap h'->h'.FunFrames kT l->rS h' e T .none cn c vs I->Q () {s with heap:=h'}):A0 M A (Fb (.ref e) As) Q E s:=by
 let H:3<ts.size:=by rw[x.tz,];decide
 rw[Al<|Bf x.he rfl x.e1 ?_];let t:=j2 (fr:=a7 l) (e:=e) (f:=(·.setIfInBounds 3 B8)) x.hT;rw[CP x.hT rfl H<|h _ _ t (t.fun hl x.he (.inr ⟨_,x.hT⟩)) ⟨(Dh _ _ x.ne).trans x.he,x.ez,x.e1,abO x.hT,by rw[Gf,x.tz],by simp[H],x.ne,x.e2⟩]
def aaT(C:A.frames=Y (env::d))(hl:s.heap.FunFrames kT<|env::d)(H:env.frame=Y L)(x:rS s.heap e T fl cn c vs ts)
  (h:∀h' b V I,(b=T\/s.heap.objs.size<=b)->gK (a7<|env::d) e T s.heap h'->h'.FunFrames kT (env::d)->(∃i,rS h' e b i cn c V I)->Q () {s with heap:=h'}):A0 M A (CL (.ref e) env) Q E s:=by
 delta CL;simp only[H];rw[Al<|Bf x.he rfl x.e1 ?_];rw[Al<|Bf x.hT rfl x.t3 ?_];by_cases k:(fl==Co L)=J
 .rw[Z0 k,];rw[Aw<|h _ T vs ts (.inl rfl) ⟨AA _,λw w g w w w=>g,λw o g w w=>⟨o.slots,g⟩⟩ hl ⟨_,x⟩]
 .rw[Z7 k,];let j:=j2 (fr:=a7<|env::d) (e:=e) (f:=(·.setIfInBounds 3 B8)) x.hT;rw[Al<|CP x.hT rfl (by rw[x.tz,];decide) ?_];rw[aav (s:={s with heap:=_}) C (j.fun hl x.he (.inr ⟨_,x.hT⟩)) H ((Dh _ _ x.ne).trans x.he) x.ez x.e2 λh' b V I l m f1 n=>h h' b V I (.inr<|Ax j.grow l) (j.trans m λw w w a w=>a) f1 ⟨_,n⟩]
def acZ(C:A.frames=Y (env::d))(hl:s.heap.FunFrames kT<|env::d)(l:env.frame=Y L)(x:rS s.heap e T fl cn c vs ts)
  (h:∀h' i V I,(i=T\/s.heap.objs.size<=i)->gK (a7<|env::d) e T s.heap h'->h'.FunFrames kT (env::d)->rS h' e i .none cn c V I->Q () {s with heap:=h'}):A0 M A (Lb env<|.ref e) Q E s:=by
 rw[Al<|aaT C hl l x ?_];rintro h' i V I k m f1 ⟨w,B⟩;rw[aaa (s:={s with heap:=h'}) f1 B λH j G N x2=>h H i V j k (m.trans G λb o g _ n=>k.elim (λq=>q▸n) λq r=>ZZ (r▸AP g)<|AX.mpr q) N x2]
end
def aaU{h h':CF}:∀{l:!Env},h.FunFrames kT l->(∀b∈a7 l,∀o,h.get? b=Y o->∃sl,h'.get? b=Y {o with slots:=sl})->h'.FunFrames kT l:=by
 cases _ with
 |nil=>intro _ _;rw[Z9]
 |cons env l i=>
  intro H k;let(c,(L,o,C,w,d,j),n):=H;let m:L∈a7 (env::l):=by delta a7;rw[Dd,C];rw[aE]
  let(sl,e):=k L m o d;rw[(c,⟨L,_,C,rfl,e,j⟩,i n λb r=>k b ?_)];delta a7;rw[Dd,C];rw[.tail _ r]
def oH{h:CF}{l:!Env}(hl:h.FunFrames kT l):∀b∈a7 l,b<h.objs.size:=by intro b H;let(_,o,i,_):=hl.mem H;rw[AP i]
noncomputable abbrev bm:=HN
noncomputable abbrev lR:=HO
noncomputable abbrev rT:=HP
noncomputable abbrev abP:=HQ
def bK:@CM=bm:=HR
def aaw:@Hr=lR:=HT
def abQ:@GD=rT:=HU
def ajH:@handleWith=abP:=HV
noncomputable def tB:Fin->Sem Fin
 |.done f=>.pure<|.done f
 |.again _=>.unsupported ""
def v2:BC->Sem Fin
 |.func b env=>BD (bm b env) λfl=>Bw<|.done fl
 |.block b env=>BD (bm b env) λfl=>Bw<|.done fl
 |.handlers e h env=>BD (abP e env h) λfl=>Bw<|.done fl
 |.whileLoop t b o env=>BD (lR t b o env) tB
 |.forLoop t it b o env=>BD (rT t it b o env) tB
 |_=>.unsupported ""
section
def a8
  (h:Bq M A c m Q (λe i=>Bq M A c (k e) (λx b=>E e b) E i) s):Bq M A c (m.onRaise k) Q E s:=λΓ p j H=>by
 rw[JL,];rw[Cb M Γ m (λx x x d=>d) (λe l i d=>d Γ l j H) p s<|h Γ p j H]
def be{α β:Type}{c:BC}{m:Sem α}{f:α->β}{Q:β->AJ->Prop}{E:AF->AJ->Prop}
  (h:Bq M A c (CK m λa=>Bw<|f a) Q E s):Bq M A c m (λa b=>Q (f a) b) E s:=λΓ p d H=>by
 let z:=h Γ p d H;let z:Iu M Γ (m>>=λa=>Bw<|f a) (λa x b=>Q a b) (λe x b=>E e b) p s:=z;rw[B2]at z;rw[z]
end
section
def abR{b:!Gc}{env:Env}{r:BL->AJ->Prop}(h:Bq (AN c w) A (.func b env) (v2 (.func b env)) (CH c w A r) (C7 r) s)
  (ok:∀fl d,r (.ok fl) d->G (.ok<|.ret (match fl with|.ret v=>v|_=>.none)) d)
  (er:∀e d,r (.error e) d->Bq (AN c w) A (.func b env) (Lb env e) (λQ i=>G (.error e) i) (λE i=>G (.error E) i) d):Be (AN c w) A (.func b env) G s:=by
 rw[FN _ _ _ _ _ _ ?_];let h:Bq (AN c w) A (.func b env) (BD (bm b env) λfl=>Bw<|Fin.done fl) (CH c w A r) (C7 r) s:=h;rw[<-Cr,<-bK]at h;rw[AR<|AH<|G9 ?_];rw[AR<|a8<|Bk (be h) (λfl d l=>?_) λe d l=>?_]
 .let l:=l;let z:=ok fl d l;induction fl<;>rw[AH (Aw z)]
 .rw[er e d l]
def ad9(j:DM Ei c=t.onRaise λx=>do CL x env;Dx x)(h:Bq (AN b w) A c (BD t tB) (CH b w A r) (C7 r) s)
  (ok:∀f d,r (.ok f) d->G (.ok f) d)
  (er:∀e d,r (.error e) d->Bq (AN b w) A c (CL e env) (λQ i=>G (.error e) i) (λE i=>G (.error E) i) d):Be (AN b w) A c G s:=by
 rw[FN _ _ _ _ _ _ ?_];rw[j,];rw[<-Cr]at h
 rw[a8 (Bk (λΓ p k H=>by
   let z:=h Γ p k H;let z:Iu (AN b w) Γ (t>>=tB) (λa Q d=>(CH b w A r) a d) (λe Q d=>(C7 r) e d) p s:=z;rw[B2]at z;rw[Cb (AN b w) Γ t (λfin m d M=>?_) (λQ Q Q M=>M) p s z];cases fin with
   |done f=>rw[(f,rfl,M)]
   |again c=>rw[M.elim]:Bq (AN b w) A c t (λfin d=>∃f,fin=.done f/\(CH b w A r) (.done f) d) (C7 r) s) (λfin d l=>?_) λe d l=>?_)]
 .let(f,rfl,l):=l;rw[ok f d l]
 .rw[AR<|Bk (er e d l) (λQ i z=>AH<|wpAny_theTreesLotGoes z) λQ Q z=>z]
def as1 t it b o env:DM Ei (.forLoop t it b o env)=(rT t it b o env).onRaise (λx=>do CL x env;Dx x):=by rw[<-abQ];rfl
end
section
open PySem.Builtin
def bZ(g:bh h b<|.fld c xs):∃t,h.get? b=Y {cls:=c,dict:=As,data:=.fields (gh xs t).toArray,slots:=#[]}:=by let(o,e,r):=g;let(⟨v⟩,rfl,x):=eX r;let(t,rfl):=gc x;rw[(t,e)]
def fH{b:Dg}{w:AW}{id:String}{B:EL}{args:Hw}{A:CB}{G:BL->AJ->Prop}{s:AJ}(plain:C8 id=J)(c:DN Ei id=Y B)
  (h:∀(Q:Fin->AJ->Prop)(E:AF->AJ->Prop),(∀v d,G (.ok<|.ret v) d->Q (.done<|.ret v) d)->(∀e d,G (.error e) d->E e d)->A0 (AN b w) A.in1 (B args) Q E s):Be (AN b w) A (.builtin id args) G s:=
 AZ c (by rw[Bx plain,];rw[h _ _ (λx x h=>h) λx x h=>h])
def ud(g:bh h a so):HS h [(a,so)]:=λQ m=>Au.mp m▸g
def jr{C:Ct}{s:AJ}{h':CF}(k:∀b o,s.heap.get? b=Y o->¬C.all b->h'.get? b=Y o)(m:s.heap.objs.size<=h'.objs.size)(ab:∀y,a0 r=C.ab y)(ps:HS h'<|(aH C.pre).zip<|C.post y0)(lp:(C.post y0).length=C.pre.length)(H:C.k=0)(c:C.al y0=[])(d:C.Post y0 s.heap h'):C.ax s r {s with heap:=h',toks:=n}:=by
 rw[(⟨k,m,rfl,rfl,rfl⟩,y0,ab y0,ps,lp,?_,?_,?_,?_,d)]
 .rw[H,];rw[λQ h=>nomatch h]
 .rw[H,c];rfl
 .rw[H,];rw[λQ h=>nomatch h]
 .rw[H,];rw[AS]
noncomputable def eC(i:Nat)(v:AF):Obj->Obj:=CN λx=>x.setIfInBounds i v
def lS{h:CF}{vs:!AF} i v (g:h.get? a=Y {cls:=c,dict:=As,data:=.fields vs.toArray,slots:=#[]}):(h.update a<|eC i v).get? a=Y {cls:=c,dict:=As,data:=.fields<|vs.toArray.setIfInBounds i v,slots:=#[]}:=Bg (eC i v) g rfl
section
variable{C:Ct}
def lT(k:∀b,¬C.all b->b≠it)(g:bh (s.heap.update it<|eC i v) it so')(ab:∀y,a0 r=C.ab y)(H:(aH C.pre).zip (C.post y0)=[(it,so')])(lp:(C.post y0).length=C.pre.length)(c:C.k=0)(d:C.al y0=[])(l:C.Post y0 s.heap<|s.heap.update it<|eC i v):C.ax s r {s with heap:=s.heap.update it<|eC i v,toks:=n}:=
 have j:=Bn (h:=s.heap) (a:=it) (f:=eC i v)
 jr (λb o e q=>(j.2 b<|k b q).trans e) (AY j.1.symm) ab (H▸ud g) lp c d l
end
def c2{C:Ct}(h:C.pre=(it,so)::l) b (q:¬C.all b):b≠it:=λe=>q<|.inl (by rw[h,e];rw[aE])
def fI{C:Ct}{s:AJ}{o:Obj}{so:SO}{y:aW}(B:-y.n 0=s.heap.objs.size)(ab:a0 r=C.ab y)(i:HS s.heap C.pre)(c:(aH C.pre).zip (C.post y)=C.pre)(lp:(C.post y).length=C.pre.length)(H:C.k=1)(d:C.al y=[so])(l:so.is o)(j:o.isFreed=O)(ext:C.Post y s.heap<|s.heap.push o):C.ax s r {s with heap:=s.heap.push o,toks:=n}:=by
 rw[(⟨λb I e Q=>AU _ e,Ax (CE _)<|AY (Cq ..).symm,rfl,rfl,rfl⟩,y,ab,?_,lp,?_,?_,?_,?_,ext)]
 .rw[c,];rw[λq k=>have⟨I,e,z⟩:=i q k;⟨I,AU _ e,z⟩]
 .rw[H,d];rw[ud ⟨o,?_,l⟩];show Lj _ (-y.n 0)=_;rw[B,];rw[BB _ j]
 .rw[H,d];rfl
 .rw[H,];rw[λa m=>Au.mp m▸AY B.symm]
 .rw[H,];rw[AC.mpr ⟨(λh=>nomatch h),AS⟩]
end
noncomputable def j3(x left I6:Int):SO:=.fld (.type "range_iterator") [.int x,.int left,.int I6]
def y7(it:AL)(x left I6:Int):Ct:=y5 (.bi "range_iterator.__next__" [.ref it] []) As 400 [(it,j3 x left I6)] (.ok<|.int x) [j3 (x+I6) (left-1) I6]
theorem aaV w it x left I6 (n:0<left):(y7 it x left I6).Holds w:=by intro A c j ec B H St m nd _ _;let(_,rfl):=aS ec;let(t,G):=bZ<|m _ aE;rw[bk (by decide+kernel) F.entry_range_iterator_next (.of_wp λk w A R s h=>by let(C,g,d,tk,os):=s;let(E,h):=h;wp_walk;rw[(_,rfl,h)]:LB (Builtin.«range_iterator.__next__» ⟨[.ref it],[]⟩) λQ R s=>s.heap.get? it=Y {cls:=.type "range_iterator",dict:=As,data:=.fields #[.int x<|t 0,.int left<|t 1,.int I6<|t 2],slots:=#[]}/\R (.ok<|.ret<|FK x s.toks) {s with heap:=(s.heap.update it<|CN λi=>i.setIfInBounds 0<|Co<|x+I6).update it<|CN λx=>x.setIfInBounds 1<|Co<|left-1,toks:=s.toks+1}) ⟨G,?_⟩];let r:=Bn (h:=j.heap) (a:=it) (f:=eC 0<|Co<|x+I6);let l:=Bn (h:=j.heap.update it<|eC 0<|Co<|x+I6) (a:=it) (f:=eC 1<|Co<|left-1);rw[jr (λb o e q=>(l.2 b<|c2 rfl b q).trans<|(r.2 b<|c2 rfl b q).trans e) (AY (l.1.trans r.1).symm) (λQ=>rfl) (ud (so:=j3 (x+I6) (left-1) I6) ⟨_,Bg (eC 1 _) (lS 0 _ G) rfl,rfl⟩) rfl rfl rfl Z9]
section
set_option backward.match.sparseCases true
noncomputable def xw:Fin->Sem Fin
 |.again (.forLoop ..)=>.pure<|.done .next
 |_=>.unsupported ""
def ail:BC->Sem Fin
 |.forLoop t it _ o env=>BD (rT t it [] o env) xw
 |_=>.unsupported ""
def ara:BC->Sem Fin
 |.forLoop _ _ (s::_) _ env=>BD (bm (sp s).k env) λfl=>Bw<|.done fl
 |_=>.unsupported ""
section
def fJ{α:Type}{m:Sem α}{Q:Except AF α->AJ->Prop}{E:AF->AJ->Prop}(h:Bq M A c m (λa=>Q (.ok a)) (λe=>Q (.error e)) s):Bq M A c m.attempt Q E s:=λΓ p b H=>by rw[Sem.wp_attempt,];rw[h Γ p b H]
def ags(h:Bq M A c (CK m xw) Q E s):Bq M A c m (λfin d=>(uH λt it b o env=>fin=.again (.forLoop t it b o env))/\Q (.done .next) d) E s:=λΓ p j i=>by
 let z:=h Γ p j i;let z:Iu M Γ (m>>=xw) (λa x d=>Q a d) (λe x d=>E e d) p s:=z;rw[B2]at z;rw[Cb M Γ m (λfin k d H=>?_) (λx x x H=>H) p s z]
 match fin with
 |.done f=>rw[H.elim]
 |.again c=>
  cases c with
  |forLoop t it b o env=>rw[(⟨_,_,_,_,_,rfl⟩,H)]
  |_=>rw[H.elim]
def agt{R1:AJ->Prop}{Q:Fin->AJ->Prop}{E:AF->AJ->Prop}
  (k:Bq M A c (GD t it [] o env) (λfin d=>(uH λt it b o env=>fin=.again (.forLoop t it b o env))/\R1 d) (λx x=>False) s)
  (h:∀d,R1 d->Bq M A c (do match<-CM b env with|.next|.cont=>K6 (.forLoop t it b o env)|.brk=>pure (.done .next)|.ret v=>pure<|.done<|.ret v) Q E d):Bq M A c (GD t it b o env) Q E s:=λΓ p j H=>by
 let z:=k Γ p j H;unfold GD at z ⊢;rw[B2]at z ⊢;rw[Cb M Γ _ (λa i d z=>?_) (λx x x h=>h.elim) p s z];rw[B2]at z ⊢;rw[Cb M Γ _ (λa i d z=>?_) (λx x x h=>h.elim) i d z];cases a with
 |none=>let((_,_,_,_,_,e),_):=z;rw[nomatch e]
 |some v=>dsimp only at z ⊢;rw[B2]at z ⊢;rw[Cb M Γ _ (λa i d z=>?_) (λx x x h=>h.elim) i d z];rw[B2]at z ⊢;rw[Cb M Γ _ (λa i d z=>?_) (λx x x h=>h.elim) i d z];rw[h d z.2 Γ i j H]
end
section
def aea{t:Ea}{it:AF}{b k o:!Gc}{h₀:HF}{H:!HF}{pos:Pos}{env:Env}{c:BC}(m:c=.forLoop t it (.Try b (h₀::H) [] [] pos::k) o env)(M:c.quiet=J){R1 R3:AJ->Prop}{R2:AF->AJ->Prop}
  (n:Bq (AN d w) A c (ail c) (CH d w A λr h=>r=.ok .next/\R1 h) (C7 λr h=>r=.ok .next/\R1 h) s)
  (B:∀h,R1 h->Bq (AN d w) A c (ara c) (CH d w A λr h=>∃e,r=.error e/\R2 e h) (C7 λr h=>∃e,r=.error e/\R2 e h) h)
  (N:∀e h,R2 e h->A0 (AN d w) (A.under c) (CL e env) (λ_ i=>A0 (AN d w) (A.under c) (Fb e As) (λ_ l=>A0 (AN d w) (A.under c) (Ha e env<|h₀::H) (λf j=>f=.cont/\R3 j) (λ_ _=>False) l) (λ_ _=>False) i) (λ_ _=>False) h)
  (V:∀h,R3 h->Be (AN d w) A c G h):Be (AN d w) A c G s:=by
 rw[FN _ _ _ _ _ _ ?_];refine_lift let C:=.Try b (h₀::H) [] [] pos::k;?_;let e:DM Ei c=(GD t it C o env).onRaise (λx=>do CL x env;Dx x):=by rw[m,];rfl
 rw[e,];let n:Bq (AN d w) A c (BD (rT t it [] o env) xw) (CH d w A λr h=>r=.ok .next/\R1 h) (C7 λr h=>r=.ok .next/\R1 h) s:=by let z:=n;rw[m]at z ⊢;rw[z]
 rw[<-Cr,<-abQ]at n;let B:∀h,R1 h->Bq (AN d w) A c (BD (bm b env) λfl=>Bw<|.done fl) (CH d w A λr h=>∃e,r=.error e/\R2 e h) (C7 λr h=>∃e,r=.error e/\R2 e h) h:=by let z:=B;rw[m]at z ⊢;rw[z]
 rw[<-Cr,<-bK]at B;rw[a8<|Bk (Q:=CH d w A G) (E:=λ_ _=>False) (agt (R1:=R1) (Bk (ags n) (λfin h z=>⟨z.1,z.2.2⟩) λe h z=>?_) λh r1=>?_) (λ_ _ z=>z) λ_ _ z=>z.elim]
 .cases z.1
 .let hx:Bq (AN d w) A c (CM C env) (λf j=>f=.cont/\R3 j) (λ_ _=>False) h:=by
   let ee:CM C env=(do match<-exec (.Try b (h₀::H) [] [] pos) env with|.next=>CM k env|f=>pure f):=rfl;rw[AR<|AR<|AH<|Cy ?_];rw[AR<|fJ<|Bk (be<|B h r1) (λf i z=>?_) λe i z=>?_]
   .let(_,z,_):=z;cases z
   .let(e',z,r2):=z;cases z;rw[AH<|Al<|BN (N e i r2) (λ_ l z=>Al<|BN z (λ_ j z=>BN z (λf L z=>?_) λ_ _ z=>z) λ_ _ z=>z) λ_ _ z=>z]
    let(rfl,I):=z;rw[AH<|Aw ⟨rfl,I⟩]
  rw[AR<|Bk hx (λf i z=>?_) λ_ _ z=>z]
  let(rfl,I):=z;rw[AH<|Aw ?_];rw[<-m];rw[(M,V i I)]
end
end
noncomputable abbrev hC:=HW
def aaj:@LD=hC:=HX
def qi(v:AF):BC->Sem Fin
 |.forLoop t _ b _ env=>BD (hC t env v) λQ=>BD (bm b env) λfl=>Bw<|.done fl
 |_=>.unsupported ""
section
def aaW(H:c=.forLoop t it b o env)(I:c.quiet=J){R0 R1:AF->AJ->Prop}{R2:AJ->Prop}
  (L:A0 (AN d w) (A.under c) (Fu it) (λr k=>∃v,r=Y v/\R0 v k) (λ_ _=>False) s)
  (M:∀v k,R0 v k->A0 (AN d w) (A.under c) (D5 t it v) (λ_ i=>R1 v i) (λ_ _=>False) k)
  (N:∀v k,R1 v k->Bq (AN d w) A c (qi v c) (CH d w A λr i=>(r=.ok .next\/r=.ok .cont)/\R2 i) (C7 λr i=>(r=.ok .next\/r=.ok .cont)/\R2 i) k)
  (V:∀k,R2 k->Be (AN d w) A c G k):Be (AN d w) A c G s:=by
 rw[FN _ _ _ _ _ _ ?_];let e:DM Ei c=(GD t it b o env).onRaise (λx=>do CL x env;Dx x):=by rw[H,];rfl
 rw[e,];rw[a8<|Bk (Q:=CH d w A G) (E:=λ_ _=>False) ?_ (λ_ _ z=>z) λ_ _ z=>z.elim]
 rw[AR<|AH<|Cy ?_];rw[AR<|a8<|AH<|BN L (λr l z=>?_) λ_ _ z=>z.elim]
 let(v,rfl,r0):=z;rw[AR<|AH<|BN (M v l r0) (λ_ j r1=>?_) λ_ _ z=>z]
 let z:=N v j r1;rw[H]at z;let z:Bq (AN d w) A (.forLoop t it b o env) (BD (hC t env v) λ_=>BD (bm b env) λfl=>Bw<|Fin.done fl) (CH d w A λr i=>(r=.ok .next\/r=.ok .cont)/\R2 i) (C7 λr i=>(r=.ok .next\/r=.ok .cont)/\R2 i) j:=z;rw[<-Cr,<-aaj,<-bK]at z;rw[<-H]at z;intro Γ p hp m;let z:=z Γ p hp m;let z:Iu (AN d w) Γ (LD t env v>>=λ_=>CM b env>>=λfl=>Bw<|Fin.done fl) _ _ p j:=z;rw[B2]at z ⊢;rw[Cb _ Γ _ (λa B k z=>?_) (λe B k z=>?_) p j z]
 .rw[B2]at z ⊢;rw[Cb _ Γ _ (λfl n i z=>?_) (λe n i z=>?_) B k z]
  .let z:=z;let C:c.quiet=J/\Be (AN d w) A c G i:=⟨I,V _ z.2⟩;rcases z.1 with h|h<;>(cases h;rw[H]at C;rw[C])
  .let z:=z;rcases z.1 with h|h<;>cases h
 .let z:=z;rcases z.1 with h|h<;>cases h
def aaX(H:c=.forLoop t it b [] env){R:AJ->Prop}(j:(JM [] env).quiet=J)
  (k:A0 (AN d w) (A.under c) (Fu it) (λr h=>r=As/\R h) (λV V=>False) s)(l:∀h,R h->G (.ok .next) h):Be (AN d w) A c G s:=by
 rw[FN _ _ _ _ _ _ ?_];let e:DM Ei c=(GD t it b [] env).onRaise (λx=>do CL x env;Dx x):=by rw[H,];rfl
 rw[e,];rw[a8<|Bk (Q:=CH d w A G) (E:=λV V=>False) ?_ (λV V z=>z) λV V z=>z.elim]
 rw[AR<|AH<|Cy ?_];rw[AR<|a8<|AH<|BN k (λr i z=>?_) λV V z=>z.elim]
 let(rfl,z):=z;rw[AH<|Aw ⟨j,codeAny_block<|Aw<|l _ z⟩]
end
section
set_option backward.match.sparseCases true
noncomputable def xx:Fin->Sem Fin
 |.again (.whileLoop ..)=>.pure<|.done .next
 |_=>.unsupported ""
def aim:BC->Sem Fin
 |.whileLoop t _ o env=>BD (lR t [] o env) xx
 |_=>.unsupported ""
def ain:BC->Sem Fin
 |.whileLoop _ (s::_) _ env=>BD (bm (sp s).k env) λfl=>Bw<|.done fl
 |_=>.unsupported ""
section
def agu(h:Bq M A c (CK m xx) Q E s):Bq M A c m (λfin d=>(lG λt b o env=>fin=.again (.whileLoop t b o env))/\Q (.done .next) d) E s:=λΓ p j i=>by
 let z:=h Γ p j i;let z:Iu M Γ (m>>=xx) (λa x d=>Q a d) (λe x d=>E e d) p s:=z;rw[B2]at z;rw[Cb M Γ m (λfin k d H=>?_) (λx x x H=>H) p s z]
 match fin with
 |.done f=>rw[H.elim]
 |.again c=>
  cases c with
  |whileLoop t b o env=>rw[(⟨_,_,_,_,rfl⟩,H)]
  |_=>rw[H.elim]
def ac0{R1:AJ->Prop}{Q:Fin->AJ->Prop}{E:AF->AJ->Prop}
  (l:Bq M A c (Hr t [] o env) (λfin d=>(lG λt b o env=>fin=.again (.whileLoop t b o env))/\R1 d) (λx x=>False) s)
  (h:∀d,R1 d->Bq M A c (do match<-CM b env with|.next|.cont=>K6 (.whileLoop t b o env)|.brk=>pure (.done .next)|.ret v=>pure<|.done<|.ret v) Q E d):Bq M A c (Hr t b o env) Q E s:=λΓ p k H=>by
 let z:=l Γ p k H;unfold Hr at z ⊢;rw[B2]at z ⊢;rw[Cb M Γ _ (λa i d z=>?_) (λx x x h=>h.elim) p s z];cases a with
 |false=>let z:Iu M Γ (CM o env>>=λfl=>pure<|Fin.done fl) _ _ i d:=z;show Iu M Γ (CM o env>>=λfl=>pure<|Fin.done fl) _ _ i d;rw[B2]at z ⊢;rw[Cb M Γ _ (λfl n j h=>?_) (λx x x h=>h.elim) i d z];let((_,_,_,_,e),_):=(h:(lG λt b o env=>Fin.done fl=Fin.again (.whileLoop t b o env))/\R1 j);cases e
 |true=>rw[h d z.2 Γ i k H]
end
section
def ac1(k:c=.whileLoop t [.Try b (h₀::H) [] [] pos] o env)(C:c.quiet=J){R1 R3:AJ->Prop}{R2:AF->AJ->Prop}
  (m:Bq (AN d w) A c (aim c) (CH d w A λr h=>r=.ok .next/\R1 h) (C7 λr h=>r=.ok .next/\R1 h) s)
  (n:∀h,R1 h->Bq (AN d w) A c (ain c) (CH d w A λr h=>∃e,r=.error e/\R2 e h) (C7 λr h=>∃e,r=.error e/\R2 e h) h)
  (I:∀e h,R2 e h->A0 (AN d w) (A.under c) (CL e env) (λ_ i=>A0 (AN d w) (A.under c) (Fb e As) (λ_ l=>A0 (AN d w) (A.under c) (Ha e env<|h₀::H) (λf j=>f=.next/\R3 j) (λ_ _=>False) l) (λ_ _=>False) i) (λ_ _=>False) h)
  (M:∀h,R3 h->Be (AN d w) A c G h):Be (AN d w) A c G s:=by
 rw[FN _ _ _ _ _ _ ?_];let e:DM Ei c=(Hr t [.Try b (h₀::H) [] [] pos] o env).onRaise (λx=>do CL x env;Dx x):=by rw[k,];rfl
 rw[e,];let m:Bq (AN d w) A c (BD (lR t [] o env) xx) (CH d w A λr h=>r=.ok .next/\R1 h) (C7 λr h=>r=.ok .next/\R1 h) s:=by let z:=m;rw[k]at z ⊢;rw[z]
 rw[<-Cr,<-aaw]at m;let n:∀h,R1 h->Bq (AN d w) A c (BD (bm b env) λfl=>Bw<|.done fl) (CH d w A λr h=>∃e,r=.error e/\R2 e h) (C7 λr h=>∃e,r=.error e/\R2 e h) h:=by let z:=n;rw[k]at z ⊢;rw[z]
 rw[<-Cr,<-bK]at n;rw[a8<|Bk (Q:=CH d w A G) (E:=λ_ _=>False) (ac0 (R1:=R1) (Bk (agu m) (λfin h z=>⟨z.1,z.2.2⟩) λe h z=>?_) λh N=>?_) (λ_ _ z=>z) λ_ _ z=>z.elim]
 .cases z.1
 .let V:Bq (AN d w) A c (CM [.Try b (h₀::H) [] [] pos] env) (λf j=>f=.next/\R3 j) (λ_ _=>False) h:=by
   let ee:CM [.Try b (h₀::H) [] [] pos] env=(do match<-exec (.Try b (h₀::H) [] [] pos) env with|.next=>CM [] env|f=>pure f):=rfl;rw[AR<|AR<|AH<|Cy ?_];rw[AR<|fJ<|Bk (be<|n h N) (λf i z=>?_) λe i z=>?_]
   .let(_,z,_):=z;cases z
   .let(e',z,r2):=z;cases z;rw[AH<|Al<|BN (I e i r2) (λ_ l z=>Al<|BN z (λ_ j z=>BN z (λf L z=>?_) λ_ _ z=>z) λ_ _ z=>z) λ_ _ z=>z]
    let(rfl,B):=z;rw[AH<|Jq ⟨rfl,B⟩]
  rw[AR<|Bk V (λf i z=>?_) λ_ _ z=>z]
  let(rfl,B):=z;rw[AH<|Aw ?_];rw[<-k];rw[(C,M i B)]
end
end
section
set_option backward.match.sparseCases true
def arb:BC->Sem Fin
 |.func (b::_) env=>BD (bm [b] env) λfl=>Bw<|.done fl
 |_=>.unsupported ""
def rU:BC->Sem Fin
 |.func (_::s::_) env=>BD (bm (sp s).k env) λfl=>Bw<|.done fl
 |_=>.unsupported ""
def aio:BC->Sem Fin
 |.func (_::_::k) env=>BD (bm k env) λfl=>Bw<|.done fl
 |_=>.unsupported ""
section
def aeb(n:c=.func (s0::.Try b (h₀::H) [] [] pos::k) env){R1 R3:AJ->Prop}{R2:AF->AJ->Prop}
  (h1:Bq (AN d w) A c (arb c) (CH d w A λr h=>r=.ok .next/\R1 h) (C7 λr h=>r=.ok .next/\R1 h) s)
  (h2:∀h,R1 h->Bq (AN d w) A c (rU c) (CH d w A λr h=>(r=.ok .next/\R3 h)\/∃e,r=.error e/\R2 e h) (C7 λr h=>(r=.ok .next/\R3 h)\/∃e,r=.error e/\R2 e h) h)
  (h3:∀e h,R2 e h->A0 (AN d w) (A.under c) (CL e env) (λ_ i=>A0 (AN d w) (A.under c) (Fb e As) (λ_ l=>A0 (AN d w) (A.under c) (Ha e env<|h₀::H) (λf j=>f=.next/\R3 j) (λ_ _=>False) l) (λ_ _=>False) i) (λ_ _=>False) h)
  (h4:∀h,R3 h->Bq (AN d w) A c (aio c) (CH d w A λr x=>∃v,r=.ok (.ret v)/\G (.ok<|.ret v) x) (C7 λr x=>∃v,r=.ok (.ret v)/\G (.ok<|.ret v) x) h):Be (AN d w) A c G s:=by
 rw[FN _ _ _ _ _ _ ?_];refine_lift let B:=AN d w;?_
 let hx:Bq B A c (CM (s0::.Try b (h₀::H) [] [] pos::k) env) (λf j=>∃v,f=.ret v/\G (.ok<|.ret v) j) (λ_ _=>False) s:=by
  let e1:CM (s0::.Try b (h₀::H) [] [] pos::k) env=(do match<-exec s0 env with|.next=>CM (.Try b (h₀::H) [] [] pos::k) env|f=>pure f):=rfl;let e2:CM (.Try b (h₀::H) [] [] pos::k) env=(do match<-exec (.Try b (h₀::H) [] [] pos) env with|.next=>CM k env|f=>pure f):=rfl;let e0:CM [s0] env=(do match<-exec s0 env with|.next=>CM [] env|f=>pure f):=rfl;let C:=h1;rw[n]at C;let C:Bq B A (.func (s0::.Try b (h₀::H) [] [] pos::k) env) (BD (bm [s0] env) λfl=>Bw<|Fin.done fl) _ _ s:=C;rw[<-Cr,<-bK,<-n]at C;let C:=be C;rw[e0]at C
  let k1:Bq B A c (exec s0 env) (λf h=>f=.next/\R1 h) (λ_ _=>False) s:=λΓ p N Q=>by
   let z:=C Γ p N Q;let z:=z;rw[B2]at z;rw[Cb _ Γ _ (λf p' h z=>?_) (λe p' h z=>?_) p s z]
   .cases f with
    |next=>let z:=z;let z:=z;rw[(rfl,z.2)]
    |brk=>let(z,_):=(show(DO LF:BL)=.ok .next/\R1 h from z);cases z
    |cont=>let(z,_):=(show(DO Lk:BL)=.ok .next/\R1 h from z);cases z
    |ret v=>let(z,_):=(show(DO (Flow.ret v):BL)=.ok .next/\R1 h from z);cases z
   .let(z,_):=(show(FG e:BL)=.ok .next/\R1 h from z);cases z
  rw[AR<|Bk k1 (λf h z=>?_) λ_ _ z=>z]
  let(rfl,r1):=z;let I:=h2 h r1;rw[n]at I;let I:Bq B A (.func (s0::.Try b (h₀::H) [] [] pos::k) env) (BD (bm b env) λfl=>Bw<|Fin.done fl) _ _ h:=I;rw[<-Cr,<-bK,<-n]at I
  let m:∀l,R3 l->Bq B A c (CM k env) (λf j=>∃v,f=.ret v/\G (.ok<|.ret v) j) (λ_ _=>False) l:=λl E=>by
   let L:=h4 l E;rw[n]at L;let L:Bq B A (.func (s0::.Try b (h₀::H) [] [] pos::k) env) (BD (bm k env) λfl=>Bw<|Fin.done fl) _ _ l:=L;rw[<-Cr,<-bK,<-n]at L;rw[Bk (be L) (λfl j z=>?_) λe j z=>?_]
   .let(v,e,g):=z;cases e;rw[(v,rfl,g)]
   .let(v,e,_):=z;cases e
  rw[AR<|AR<|AH<|Cy ?_];rw[AR<|fJ<|Bk (be I) (λf i z=>?_) λe i z=>?_]
  .rcases z with⟨z,E⟩|⟨_,z,_⟩
   .cases z;rw[AH<|Jq<|m i E]
   .cases z
  .rcases z with⟨z,E⟩|⟨e',z,r2⟩
   .cases z
   .cases z;rw[AH<|Al<|BN (h3 e i r2) (λ_ l z=>Al<|BN z (λ_ j z=>BN z (λf M z=>?_) λ_ _ z=>z) λ_ _ z=>z) λ_ _ z=>z]
    let(rfl,E):=z;rw[m M E]
 rw[n]at hx ⊢;rw[AR<|AH<|G9 ?_];rw[AR<|a8<|Bk hx (λfl h V=>?_) λe h V=>V.elim]
 let(v,rfl,g):=V;rw[AH<|Aw g]
end
end
section
set_option backward.match.sparseCases true
def ra(i:Nat):BC->Sem Fin
 |.func b env=>match b[i]? with
  |some c=>BD (bm [c] env) λfl=>Bw<|.done fl
  |none=>.unsupported ""
 |_=>.unsupported ""
section
variable{prog:Dg}{w:AW}{A:CB}{s:AJ}{G:BL->AJ->Prop}
def cD{s0:Gc}{k:!Gc}{env:Env}{c:BC}{R1:AJ->Prop}{Q:KW->AJ->Prop}
  (d:Bq (AN prog w) A c (BD (bm [s0] env) λfl=>Bw<|.done fl) (CH prog w A λr b=>r=.ok .next/\R1 b) (C7 λr b=>r=.ok .next/\R1 b) s)
  (h:∀b,R1 b->Bq (AN prog w) A c (CM k env) Q (λx x=>False) b):Bq (AN prog w) A c (CM (s0::k) env) Q (λx x=>False) s:=by
 let E:CM (s0::k) env=(do match<-exec s0 env with|.next=>CM k env|f=>pure f):=rfl;let e0:CM [s0] env=(do match<-exec s0 env with|.next=>CM [] env|f=>pure f):=rfl;rw[<-Cr,<-bK]at d;let C:=be d;rw[e0]at C
 let i:Bq (AN prog w) A c (exec s0 env) (λf b=>f=.next/\R1 b) (λx x=>False) s:=λΓ p N H=>by
  let z:=C Γ p N H;let z:=z;rw[B2]at z;rw[Cb _ Γ _ (λf j b z=>?_) (λe j b z=>?_) p s z]
  .cases f with
   |next=>let z:=z;let z:=z;rw[(rfl,z.2)]
   |brk=>let(z,_):=(show(DO LF:BL)=.ok .next/\R1 b from z);cases z
   |cont=>let(z,_):=(show(DO Lk:BL)=.ok .next/\R1 b from z);cases z
   |ret v=>let(z,_):=(show(DO (Flow.ret v):BL)=.ok .next/\R1 b from z);cases z
  .let(z,_):=(show(FG e:BL)=.ok .next/\R1 b from z);cases z
 rw[AR<|Bk i (λf b z=>?_) λx x z=>z]
 let(rfl,l):=z;rw[h b l]
def agv
  (H:Bq (AN prog w) A c (BD (bm [s0] env) λfl=>Bw<|.done fl) (CH prog w A λr h=>∃v,r=.ok (.ret v)/\G (.ok<|.ret v) h) (C7 λr h=>∃v,r=.ok (.ret v)/\G (.ok<|.ret v) h) s):
  Bq (AN prog w) A c (CM [s0] env) (λf j=>∃v,f=.ret v/\G (.ok<|.ret v) j) (λQ Q=>False) s:=by
 rw[<-Cr,<-bK]at H;rw[Bk (be H) (λfl j z=>?_) λe j z=>?_]
 .let(v,e,g):=z;cases e;rw[(v,rfl,g)]
 .let(v,e,_):=z;cases e
def gL(h:c=.func b env)(H:Bq (AN prog w) A c (CM b env) (λf j=>∃v,f=.ret v/\G (.ok<|.ret v) j) (λQ Q=>False) s):Be (AN prog w) A c G s:=by
 rw[FN _ _ _ _ _ _ ?_];rw[h]at H ⊢;rw[AR<|AH<|G9 ?_];rw[AR<|a8<|Bk H (λfl d l=>?_) λe d l=>l.elim]
 let(v,rfl,g):=l;rw[AH<|Aw g]
end
end
section
set_option backward.match.sparseCases true
noncomputable abbrev rV:=HY
def aaY:@PySem.eval=rV:=H0
def gM(e:Ea)(env:Env):Sem Fin:=BD (rV e env) λv=>Bw<|.done<|.ret v
section
def c5{R1:AF->AJ->Prop}(h:Bq (AN b w) A c (gM e env) (CH b w A λr d=>∃v,r=.ok (.ret v)/\R1 v d) (C7 λr d=>∃v,r=.ok (.ret v)/\R1 v d) s):Bq (AN b w) A c (eval e env) (λv d=>R1 v d) (λQ Q=>False) s:=by
 delta gM at h;rw[<-Cr,<-aaY]at h;rw[Bk (be h) (λv d z=>?_) λe d z=>?_]
 .let(V,e,g):=z;cases e;rw[g]
 .let(_,e,_):=z;cases e
def fK(h:Bq (AN b w) A c m Q E s):Bq (AN b w) A c (holding vs m) Q E s:=λΓ p d H=>by rw[Sem.wp_holding,];rw[h Γ p d H]
def ac2{R1:AF->AJ->Prop}{R2:AF->AF->AJ->Prop}{R3:AJ->Prop}{Q:KW->AJ->Prop}(H:CI .NotEq r (eval r env)=eval r env)
  (n:Bq (AN h w) A c (eval l env) (λa i=>R1 a i) (λV V=>False) s)
  (x:∀a i,R1 a i->Bq (AN h w) A c (eval r env) (λb j=>R2 a b j) (λV V=>False) i)
  (B:∀a b i,R2 a b i->Kh (A.under c) i a b O/\R3 i)
  (E:∀i,R3 i->Bq (AN h w) A c (CM d env) Q (λV V=>False) i):Bq (AN h w) A c (exec (.If (.Compare l [.NotEq] [r] C) body d pos) env) Q (λV V=>False) s:=by
 let e:exec (.If (.Compare l [.NotEq] [r] C) body d pos) env=(do Lc pos;if<-(do testChain C (<-eval l env) [.NotEq] [CI .NotEq r<|eval r env])then CM body env else CM d env):=rfl;rw[e,H];rw[AR<|AH<|Cy ?_];rw[AR<|AR<|Bk n (λa G I=>?_) λV V z=>z.elim]
 rw[AR<|fK<|Bk (x a G I) (λb m L=>?_) λV V z=>z.elim]
 let(k,M):=B a b m L;rw[AR<|AH<|Cy ?_];rw[AR<|AH<|Hb<|k h w _ _ ?_];rw[AH<|BP<|F5 ?_];rw[E m M]
def y8:BC->Sem Fin
 |.forLoop t it _ _ env=>BD (Fu it) λr=>match r with
  |some v=>BD (D5 t it v) λQ=>BD (hC t env v) λQ=>Bw<|.done .next
  |none=>.unsupported ""
 |_=>.unsupported ""
def wk(i:Nat):BC->Sem Fin
 |.forLoop _ _ b _ env=>match b[i]? with
  |some c=>BD (bm [c] env) λfl=>Bw<|.done fl
  |none=>.unsupported ""
 |_=>.unsupported ""
def tC(right:Bool)(i:Nat):BC->Sem Fin
 |.forLoop _ _ b _ env=>match b[i]? with
  |some s=>match right with
   |true=>gM (e0 (ep<|e0 (sp s).e).e) env
   |false=>gM (e0 (ep<|e0 (sp s).e).q) env
  |none=>.unsupported ""
 |_=>.unsupported ""
def aec(i:c=.forLoop t it b [] env)(V:c.quiet=J){R1 R2:AJ->Prop}
  (m:Bq (AN d w) A c (y8 c) (CH d w A λr h=>r=.ok .next/\R1 h) (C7 λr h=>r=.ok .next/\R1 h) s)
  (h2:∀h,R1 h->Bq (AN d w) A c (CM b env) (λf j=>f=.next/\R2 j) (λ_ _=>False) h)
  (h4:∀h,R2 h->Be (AN d w) A c G h):Be (AN d w) A c G s:=by
 rw[FN _ _ _ _ _ _ ?_];let e:DM Ei c=(GD t it b [] env).onRaise (λx=>do CL x env;Dx x):=by rw[i,];rfl
 rw[e,];rw[a8<|Bk (Q:=CH d w A G) (E:=λ_ _=>False) ?_ (λ_ _ z=>z) λ_ _ z=>z.elim]
 rw[AR<|AH<|Cy ?_]
 let e1:y8 c=BD (Fu it) λr=>match r with
  |some v=>BD (D5 t it v) λ_=>BD (hC t env v) λ_=>Bw<|Fin.done Flow.next
  |none=>(Jr "":Sem Fin):=by
  rw[i,];rfl
 rw[e1,<-Cr,<-aaj]at m;intro Γ p n H;let z:=m Γ p n H
 let z:Iu (AN d w) Γ (Fu it>>=λr=>match r with
  |some v=>D5 t it v>>=λ_=>LD t env v>>=λ_=>Bw (Fin.done Flow.next)
  |none=>(Jr "":Sem Fin)) _ _ p s:=z
 rw[B2]at z ⊢;rw[JL,];rw[Cb _ Γ _ (λr B C z=>?_) (λx B C z=>?_) p s z]
 .cases r with
  |none=>let z:=z;rw[Sem.wp_unsupported]at z;rw[z.elim]
  |some v=>
   let z:=z;rw[B2]at z ⊢;rw[Cb _ Γ _ (λ_ I L z=>?_) (λx I L z=>?_) B C z]
   .rw[B2]at z ⊢;rw[Cb _ Γ _ (λ_ k l z=>?_) (λx k l z=>?_) I L z]
    .let z:=z;let y:=h2 l z.2 Γ k n H;rw[B2,];rw[Cb _ Γ _ (λf p4 M y=>?_) (λx p4 M y=>?_) k l y]
     .let(rfl,y):=y;let N:c.quiet=J/\Be (AN d w) A c G M:=⟨V,h4 _ y⟩;rw[i]at N;rw[N]
     .rw[y.elim]
    .let z:=z;rw[nomatch z.1]
   .let z:=z;rw[nomatch z.1]
 .let z:=z;rw[nomatch z.1]
def aaZ{R1:AJ->Prop}{Q:KW->AJ->Prop}(H:Bq (AN b w) A c (exec s0 env) (λf d=>f=.next/\R1 d) (λx x=>False) s)(h:∀d,R1 d->Bq (AN b w) A c (CM k env) Q (λx x=>False) d):Bq (AN b w) A c (CM (s0::k) env) Q (λx x=>False) s:=by
 let E:CM (s0::k) env=(do match<-exec s0 env with|.next=>CM k env|f=>pure f):=rfl;rw[AR<|Bk H (λf d z=>?_) λx x z=>z]
 let(rfl,e):=z;rw[h d e]
def aed{R1:AJ->Prop}(H:Bq (AN d w) A c (BD (bm [s0] env) λfl=>Bw (.done fl)) (CH d w A λr b=>r=.ok .next/\R1 b) (C7 λr b=>r=.ok .next/\R1 b) s):Bq (AN d w) A c (CM [s0] env) (λf b=>f=.next/\R1 b) (λQ Q=>False) s:=by
 rw[<-Cr,<-bK]at H;rw[Bk (be H) (λfl b z=>?_) λx b z=>?_]
 .let(e,g):=(show(DO fl:BL)=.ok .next/\R1 b from z);cases e;rw[(rfl,g)]
 .let(e,_):=(show(FG x:BL)=.ok .next/\R1 b from z);rw[nomatch e]
end
end
section
def abT{R1:AF->AJ->Prop}{R2:AF->AF->AJ->Prop}{R3:AF->AJ->Prop}(H:CI N r (eval r env)=eval r env)(m:∀a b,compareOp N a b=KC N a b)
  (j:Bq (AN d w) A c (eval l env) (λa h=>R1 a h) (λQ Q=>False) s)
  (k:∀a h,R1 a h->Bq (AN d w) A c (eval r env) (λb i=>R2 a b i) (λQ Q=>False) h)
  (n:∀a b h,R2 a b h->A0 (AN d w) (A.under c) (KC N a b) (λv i=>R3 v i) (λQ Q=>False) h):Bq (AN d w) A c (eval (.Compare l [N] [r] C) env) (λv h=>R3 v h) (λQ Q=>False) s:=by
 let e:eval (.Compare l [N] [r] C) env=(do compareChain C (<-eval l env) [N] [CI N r<|eval r env]):=rfl;rw[e,H];rw[AR<|Bk j (λa x B=>?_) λQ Q z=>z.elim]
 rw[AR<|fK<|Bk (k a x B) (λb E L=>?_) λQ Q z=>z.elim]
 rw[AR<|AH<|Cy ?_];rw[m,];rw[AH<|Hb<|n a b E L]
def abU{R1:AJ->Prop}{R2:AF->AJ->Prop}(H:Bq (AN b w) A c (eval E env) (λv d=>v=.bool J/\R1 d) (λQ Q=>False) s)
  (j:∀d,R1 d->Bq (AN b w) A c (eval h env) (λv i=>R2 v i) (λQ Q=>False) d):Bq (AN b w) A c (eval (.BoolOp .And [E,h] B) env) (λv d=>R2 v d) (λQ Q=>False) s:=by
 let e:eval (.BoolOp .And [E,h] B) env=boolOp B .And [eval E env,eval h env]:=rfl;rw[e,];rw[AR<|Bk H (λv r z=>?_) λQ Q z=>z.elim]
 let(rfl,k):=z;rw[AR<|AH<|Cy ?_];rw[AR<|AH<|BP<|F5 ?_];rw[j r k]
def aak{R:AF->AJ->Prop}(h:Bq (AN b w) A c (eval E env) (λv d=>R v d) (λQ Q=>False) s):Bq (AN b w) A c (exec (.Return (Y E) p) env) (λf d=>∃v,f=.ret v/\R v d) (λQ Q=>False) s:=by
 let e:exec (.Return (Y E) p) env=(do Lc p;return .ret (<-eval E env)):=rfl;rw[AR<|AH<|Cy ?_];rw[AR<|Bk h (λv r z=>?_) λQ Q z=>z.elim]
 rw[AH<|Aw ⟨v,rfl,z⟩]
end
section
set_option backward.match.sparseCases true
noncomputable abbrev abV:=H1
def abx:@PySem.isTrue=abV:=H3
def xy(e:Ea)(env:Env):Sem Fin:=BD (abV e env<|rV e env) λb=>Bw<|.done<|.ret<|.bool b
section
def aee{e:Ea}{R1:Bool->AJ->Prop}(h:Bq (AN d w) A c (xy e env) (CH d w A λr i=>∃b,r=.ok (.ret<|.bool b)/\R1 b i) (C7 λr i=>∃b,r=.ok (.ret<|.bool b)/\R1 b i) s):Bq (AN d w) A c (isTrue e env<|eval e env) (λb i=>R1 b i) (λQ Q=>False) s:=by
 unfold xy at h;rw[<-Cr,<-abx,<-aaY]at h;rw[Bk (be h) (λb i z=>?_) λe i z=>?_]
 .let(G,e,g):=z;cases e;rw[g]
 .let(_,e,_):=z;cases e
def ac3{l r:Ea}{C:Pos}{b:Bool}{R1:AF->AJ->Prop}{R2:AF->AF->AJ->Prop}{R3:AJ->Prop}(H:CI .Eq r (eval r env)=eval r env)
  (j:Bq (AN d w) A c (eval l env) (λa h=>R1 a h) (λQ Q=>False) s)
  (m:∀a h,R1 a h->Bq (AN d w) A c (eval r env) (λb i=>R2 a b i) (λQ Q=>False) h)
  (n:∀a G h,R2 a G h->JN (A.under c) h a G b/\R3 h):Bq (AN d w) A c (isTrue (.Compare l [.Eq] [r] C) env<|eval (.Compare l [.Eq] [r] C) env) (λv h=>v=b/\R3 h) (λQ Q=>False) s:=by
 let e:isTrue (.Compare l [.Eq] [r] C) env (eval (.Compare l [.Eq] [r] C) env)=(do testChain C (<-eval l env) [.Eq] [CI .Eq r<|eval r env]):=rfl;rw[e,H];rw[AR<|Bk j (λa x B=>?_) λQ Q z=>z.elim]
 rw[AR<|fK<|Bk (m a x B) (λG E L=>?_) λQ Q z=>z.elim]
 let(k,I):=n a G E L;rw[AR<|AH<|Cy ?_];rw[AR<|AH<|Hb<|k d w _ _ ?_];rw[AH<|BP<|F5 ⟨rfl,I⟩]
def aax{x y:Ea}{B pos:Pos}{body d:!Gc} b {R1 R2:AJ->Prop}{Q:KW->AJ->Prop}
  (H:Bq (AN h w) A c (isTrue x env<|eval x env) (λv i=>v=b/\R1 i) (λV V=>False) s)
  (l:b=O->∀i,R1 i->Bq (AN h w) A c (isTrue y env<|eval y env) (λv j=>v=O/\R2 j) (λV V=>False) i)
  (m:b=J->∀i,R1 i->Bq (AN h w) A c (CM body env) Q (λV V=>False) i)
  (n:b=O->∀i,R2 i->Bq (AN h w) A c (CM d env) Q (λV V=>False) i):Bq (AN h w) A c (exec (.If (.BoolOp .Or [x,y] B) body d pos) env) Q (λV V=>False) s:=by
 let e:exec (.If (.BoolOp .Or [x,y] B) body d pos) env=(do Lc pos;if<-allTrue .Or [x,y] env then CM body env else CM d env):=rfl;rw[AR<|AH<|Cy ?_];rw[AR ?_]
 let E:allTrue .Or [x,y] env=(isTrue x env (eval x env)>>=λa=>match BoolOp.Or,a with
  |.And,O=>pure O
  |.Or,J=>pure J
  |_,_=>isTrue y env (eval y env)>>=λa=>match BoolOp.Or,a with
   |.And,O=>pure O
   |.Or,J=>pure J
   |_,_=>pure<|BoolOp.Or==.And):=rfl
 rw[AR<|Bk H (λv r z=>?_) λV V z=>z.elim]
 let(rfl,k):=z;cases v with
 |true=>rw[AH<|Aw<|m rfl r k]
 |false=>
  rw[AR<|Bk (l rfl r k) (λv C z=>?_) λV V z=>z.elim]
  let(rfl,L):=z;rw[AH<|Aw<|n rfl C L]
def xz:BC->Sem Fin
 |.builtin _ ⟨[_,it],_⟩=>BD (Fu it) λr=>Bw (.done (match r with
  |some v=>.ret v
  |none=>.next))
 |_=>.unsupported ""
theorem aae{S:AL}{it:AF}(H:c=.builtin "set.update.loop" ⟨[.ref S,it],[]⟩){R1:AF->AJ->Prop}
  (j:Bq (AN d w) A c (xz c) (CH d w A λr h=>(r=.ok .next/\G (.ok<|.ret .none) h)\/∃v,r=.ok (.ret v)/\R1 v h) (C7 λr h=>(r=.ok .next/\G (.ok<|.ret .none) h)\/∃v,r=.ok (.ret v)/\R1 v h) s)
  (k:∀v h,R1 v h->A0 (AN d w) (A.under c) (LH S v) (λQ i=>Be (AN d w) A c G i) (λQ Q=>False) h):Be (AN d w) A c G s:=by
 rw[FN _ _ _ _ _ _ ?_]
 let e:DM Ei c=Builtin.«set.update.loop» ⟨[.ref S,it],[]⟩:=by
  rw[H,];show(match DN Ei "set.update.loop" with|some b=>b ⟨[.ref S,it],[]⟩|none=>KD<|(withoutEnding? "set.update.loop" "#data").getD "set.update.loop")=_
  rewrite [F.entry_set_update_loop]
  rfl
 let E:xz c=BD (Fu it) λr=>Bw (.done (match r with
  |some v=>.ret v
  |none=>.next)):=by
  rw[H,];rfl
 rw[E,<-Cr]at j;rw[e,];rw[AR<|Bk (be j) (λr h z=>?_) λe h z=>?_]
 .cases r with
  |none=>
   obtain⟨_,g⟩|⟨v,e,_⟩:=(show((DO Flow.next:BL)=.ok .next/\G (.ok<|.ret .none) h)\/∃v,(DO Flow.next:BL)=.ok (.ret v)/\R1 v h from z)
   .rw[AH<|Aw g]
   .cases e
  |some x=>
   obtain⟨e,_⟩|⟨v,e,g⟩:=(show((DO (Flow.ret x):BL)=.ok .next/\G (.ok<|.ret .none) h)\/∃v,(DO (Flow.ret x):BL)=.ok (.ret v)/\R1 v h from z)
   .cases e
   .cases e;rw[AH<|Al<|BP<|BN (k x h g) (λQ l m=>?_) λQ Q z=>z.elim]
    let C:c.quiet=J/\Be (AN d w) A c G l:=⟨(by rw[H,];rw[plainId_quiet F.plain_set_update_loop _]),m⟩;rw[H]at C;rw[Aw C]
 .obtain⟨e,_⟩|⟨_,e,_⟩:=(show((FG e:BL)=.ok .next/\G (.ok<|.ret .none) h)\/∃v,(FG e:BL)=.ok (.ret v)/\R1 v h from z)
  .cases e
  .cases e
end
end
section
set_option backward.match.sparseCases true
open PySem.Builtin
noncomputable def kZ(i:String)(l:SV)(j:Int):SO:=.fld (.type i) [l,.int j]
noncomputable def j4(id:String)(self:AF):Sem PySem.Fin:=do
 let seq<-GN self 0
 if seq==.none then LN s!"{id}.ended";Gg
 let .int i _<-GN self 1|unsupported s!"internal:{id}"
 let Y xs<-Hs seq|unsupported s!"internal:{id}"
 match xs[i.toNat]? with
 |some x=>D3 self 1<|Co<|i+1;ret x
 |none=>LN s!"{id}.end";D3 self 0 .none;Gg
def cT it:Builtin.«list_iterator.__next__» ⟨[.ref it],[]⟩=j4 "list_iterator.__next__" (.ref it):=rfl
def aaf it:Builtin.«tuple_iterator.__next__» ⟨[.ref it],[]⟩=j4 "tuple_iterator.__next__" (.ref it):=rfl
def ue(id i:String)(it l:AL)(c:AF)(xs:!SV)(j:Nat)(x:SV):Ct:=
 ⟨.bi id [.ref it] [],As,400,[(it,kZ i (.ref l) j)],0,λQ=>.ok x,λQ=>[kZ i (.ref l)<|j+1],λQ=>[],λQ=>False,λh=>bh h l<|.seq c xs,λQ Q Q=>True⟩
def y9(id i:String)(it l:AL)(c:AF)(xs:!SV)(j:Nat):Ct:=
 ⟨.bi id [.ref it] [],As,400,[(it,kZ i (.ref l) j)],1,λy=>.err<|.ref<|nu y 0,λQ=>[kZ i .none j],λy=>[.fld (.type "StopIteration") [.ref<| -y.n 1,.none,.none,.none,.bool O,.none]],λQ=>False,λh=>bh h l<|.seq c xs,λQ Q Q=>True⟩
abbrev tD:=ue "list_iterator.__next__" "list_iterator"
abbrev uY:=y9 "list_iterator.__next__" "list_iterator"
abbrev arc:=ue "tuple_iterator.__next__" "tuple_iterator"
abbrev ard:=y9 "tuple_iterator.__next__" "tuple_iterator"
end
section
open PySem.Builtin
abbrev DL:=List<|U×SV
def aM(l:DL):SO:=.ns (.type "dict")<|l.map λp=>(.str p.1,p.2)
noncomputable def cU:DL->U->Option SV
 |[],_=>As
 |(y,v)::l,k=>if y==k then Y v else cU l k
noncomputable def iE:DL->U->SV->DL
 |[],k,v=>[(k,v)]
 |(y,u)::l,k,v=>if y==k then(y,v)::l else(y,u)::iE l k v
noncomputable def nM:DL->U->DL
 |[],_=>[]
 |(y,u)::l,k=>if y==k then l else(y,u)::nM l k
def eE(e:B5):SV×SV:=(aC e.key,aC e.val)
noncomputable def eD(p:U×SV):SV×SV:=(.str p.1,p.2)
def dct(l:DL)(ep:Nat):SO:=.dct (.type "dict") (l.map eD) ep
def aa0(h:rd o=aM l):dK λes n=>o={cls:=.type "dict",dict:=As,data:=.dict es n,slots:=#[]}/\es.toList.map eE=l.map eD:=by
 let(p,n,rfl):=((by
   let(p,n,⟨sl⟩,rfl,e):=abH h;cases DG.mp e
   rw[(p,n,rfl)]):dK λp n=>o=uR (EF "dict") p (D6 (λp=>{fst:=SV.str p.fst,snd:=p.snd}) l) n)
 rw[(_,n,rfl,?_)];rw[(SO.nss.inj h).2.1]
def js es n {l:DL}(h:es.toList.map eE=l.map eD):rd {cls:=.type "dict",dict:=As,data:=.dict es n,slots:=#[]}=aM l:=Z8 (SO.ns<|.type "dict") h
theorem dT:∀{es:!B5}{l:DL},es.map eE=l.map eD->keysOf es=Y (l.map (·.1))
 |[],[],_=>rfl
 |[],_::_,h=>by cases h
 |_::_,[],h=>by cases h
 |e::es,p::l,h=>by let(H,b):=DF h;let(t,c):=bA (show aC e.key=.str p.1 from(DV H).1);show(match e.key with|.str s _=>_|_=>As)=_;rw[c,dT b];rfl
@[elab_as_elim] theorem map_ind{f:α->γ}{g:β->γ}{motive:!α->!β->Prop}(H:motive [] [])(b:∀e es d l,f e=g d->es.map f=l.map g->motive es l->motive (e::es) (d::l)){es:!α}:∀{l:!β},es.map f=l.map g->motive es l:=by
 cases es with
 |nil=>
  intro l h;cases l with
  |nil=>rw[H]
  |cons=>rw[nomatch h]
 |cons e es i=>
  intro l h;cases l with
  |nil=>rw[nomatch h]
  |cons d l=>rw[b _ _ _ _ (DF h).1 (DF h).2 (i (DF h).2)]
def ajI k {es:!B5}{l:DL}(h:es.map eE=l.map eD):((iv (l.map (·.1)) k).bind λi=>es[i]?.map (·.val)).map aC=cU l k:=
 map_ind (motive:=λes l=>((iv (l.map (·.1)) k).bind λi=>es[i]?.map (·.val)).map aC=cU l k) rfl (λe es d l H b I=>by
  let(y,v):=d;show((if y==k then Y 0 else(iv (l.map (·.1)) k).map (·+1)).bind λi=>(e::es)[i]?.map (·.val)).map aC=if y==k then Y v else cU l k
  cases y==k with
  |true=>rw[Z8 Y (DV H).2]
  |false=>
   rw[<-I]
   cases iv (l.map (·.1)) k<;>rfl) h
def j5{l:DL}:cU l k=As<->iv (l.map (·.1)) k=As:=by
 cases l with
 |nil=>rw[(λQ=>rfl,λQ=>rfl)]
 |cons d l i=>
  show(if d.1==k then Y d.2 else cU l k)=As<->(if d.1==k then Y 0 else(iv (l.map (·.1)) k).map (·+1))=As;cases d.1==k with
  |true=>rw[((nomatch·),(nomatch·))]
  |false=>rw[i.trans EM.symm]
def ac4{es:!B5}{l:DL}(h:es.map eE=l.map eD):∀{i:Nat},iv (l.map (·.1)) k=Y i->(es.modify i λe=>{e with val:=v}).map eE=(iE l k<|aC v).map eD:=
 map_ind (motive:=λes l=>∀{i:Nat},iv (l.map (·.1)) k=Y i->(es.modify i λe=>{e with val:=v}).map eE=(iE l k<|aC v).map eD) (λh=>nomatch h) (λe es d l b c I i H=>by
  let(y,u):=d;let H:(if y==k then Y 0 else(iv (l.map (·.1)) k).map (·+1))=Y i:=H;show _=D6 eD (if y==k then(y,aC v)::l else(y,u)::iE l k (aC v));cases B:y==k with
  |true=>rw[B,Z0 rfl]at H;cases H;show _::_=_::_;rw[c,show eE {e with val:=v}=eD (y,aC v)from by delta eE eD at*;rw[(DV b).1,]]
  |false=>
   rw[B,Z7 A9]at H;let(j,m,rfl):=Bj.mp H
   rw[Z7 A9,List.modify_succ_cons,Cv,Cv,b,I m]) h
def iF{l:DL}(H:iv (l.map (·.1)) k=As):iE l k v=l++[(k,v)]:=by
 cases l with
 |nil=>rfl
 |cons d l i=>
  let H:(if d.1==k then Y 0 else(iv (l.map (·.1)) k).map (·+1))=As:=H;show(if d.1==k then(d.1,v)::l else(d.1,d.2)::iE l k v)=_;cases B:d.1==k with
  |true=>rw[B]at H;rw[nomatch H]
  |false=>rw[B]at H;rw[Z8 (_::·)<|i<|EM.mp H]
def ac5{k:U}{es:!B5}{l:DL}(h:es.map eE=l.map eD):∀{i:Nat},iv (l.map (·.1)) k=Y i->(es.eraseIdx i).map eE=(nM l k).map eD:=
 map_ind (motive:=λes l=>∀{i:Nat},iv (l.map (·.1)) k=Y i->(es.eraseIdx i).map eE=(nM l k).map eD) (λh=>nomatch h) (λe es d l b c I i H=>by
  let(y,u):=d;let H:(if y==k then Y 0 else(iv (l.map (·.1)) k).map (·+1))=Y i:=H;show _=D6 eD (if y==k then l else(y,u)::nM l k);cases B:y==k with
  |true=>rw[B,Z0 rfl]at H;cases H;rw[c]
  |false=>
   rw[B,Z7 A9]at H;let(j,m,rfl):=Bj.mp H;show eE e::_=eD (y,u)::_
   rw[b,I m]) h
noncomputable def uf(hd:Option AF)(id:String)(pos:!SV)(b:AL->Prop)(Pre:CF->Prop)(ab:EE)(Post:CF->CF->Prop):Ct:=⟨.bi id pos [],hd,400,[],0,λQ=>ab,λQ=>[],λQ=>[],b,Pre,λQ h M=>Post h M⟩
def jt{hd:Option AF}{id:String}{pos:!SV}{b:AL->Prop}{Pre:CF->Prop}{ab:EE}{Post:CF->CF->Prop}{h h':CF}{r:BL}(e:a0 r=ab)(p:Post h h'):∃y,(uf hd id pos b Pre ab Post).End h r h' y:=
 ⟨y0,e,(λQ h=>(nomatch h)),rfl,(λQ h=>(nomatch h)),rfl,(λQ h=>(nomatch h)),AS,p⟩
def oI(hd:Option AF)(id:String)(pos:!SV)(a:AL)(so:SO)(ab:EE):Ct:=uf hd id pos (λQ=>False) (λh=>bh h a so) ab λQ Q=>True
def ug(id:String)(pos:!SV)(a:AL)(so:SO)(ab:EE):Ct:=uf As id pos (λQ=>False) (λh=>bh h a so) ab λQ Q=>True
def v3(hd:Option AF)(id:String)(pos:!SV)(a:AL)(so so':SO)(ab:EE):Ct:=uf hd id pos (·=a) (λh=>bh h a so) ab λQ M=>bh M a so'
def eF{w:AW}{hd:Option AF}{id:String}{pos:!SV}{a:AL}{so:SO}{ab:EE}{s:AJ}{r:BL} t (e:a0 r=ab):(oI hd id pos a so ab).ax s r {s with toks:=t}:=⟨⟨λQ Q e Q=>e,AA _,rfl,rfl,rfl⟩,jt e trivial⟩
def ju{w:AW}{id:String}{pos:!SV}{a:AL}{so:SO}{ab:EE}{s:AJ}{r:BL} t (e:a0 r=ab):(ug id pos a so ab).ax s r {s with toks:=t}:=eF (w:=w) (hd:=As) t e
def jv{w:AW}{hd:Option AF}{id:String}{pos:!SV}{a:AL}{so so':SO}{ab:EE}{s:AJ}{r:BL} t {h':CF}{I:Obj}(j:GB a s.heap h')(g:h'.get? a=Y I)(l:rd I=so')(e:a0 r=ab):(v3 hd id pos a so so' ab).ax s r {s with toks:=t,heap:=h'}:=
 ⟨⟨λb o E N=>(j.2 b λe=>N<|.inr e).trans E,AY j.1.symm,rfl,rfl,rfl⟩,jt e ⟨_,g,fF l⟩⟩
noncomputable def wrL(hd:Option AF)(id:String)(pos:!SV)(a:AL)(so so':SO)(ab:EE):Ct:=⟨.bi id pos [],hd,400,[(a,so)],0,λQ=>ab,λQ=>[so'],λQ=>[],λQ=>False,λQ=>True,λQ Q Q=>True⟩
section
variable(w:AW)(hd:Option AF)(d:AL)(l:DL)(k:U)
def eY{h:CF}{d:AL}{l:DL}(g:bh h d<|aM l):dK λes n=>h.get? d=Y {cls:=.type "dict",dict:=As,data:=.dict es n,slots:=#[]}/\es.toList.map eE=l.map eD:=by let(o,e,r):=g;let(v,n,rfl,x):=aa0 r;rw[(v,n,e,x)]
def uZ{b:Dg}{A:CB}{E:AF->AJ->Prop}{s:AJ}{u:Tok}{Q:Option AF->AJ->Prop}{d:AL}{l:DL}{k:U}(j:bh s.heap d<|aM l)(h:∀x n,CS aC x=cU l k->Q x {s with toks:=n}):A0 (AN b w) A (F4 d<|.str k u) Q E s:=by let(es,n,i,H):=eY j;let(c,e):=cS (dT H) k;rw[dS i rfl c<|h _ _ ?_];rw[e,<-ajI k H];simp only[Bt]
def jw(v:SV)(h:cU l k=Y v):(oI hd "dict.__getitem__" [.ref d,.str k] d (aM l)<|.ok v).Holds w:=by
 intro A c s ec i H St _ _ _ j;let(t,rfl):=aS ec;rw[AZ (id:="dict.__getitem__") G8 ?_];show A0 _ _ (F4 d (.str k<|t 1)>>=_) _ _ _;rw[Al<|uZ w j λx n z=>?_]
 rw[h]at z;let(x,rfl,C):=Bj.mp z;rw[Aw<|eF (w:=w) _<|Z8 EE.ok C]
def eZ v (x:cU l k=Y v):(ug "dict.__getitem__" [.ref d,.str k] d (aM l)<|.ok v).Holds w:=jw w As d l k v x
def oJ(v:SV)(h:(cU l k).getD .none=v)(ce:d≠1):(ug "dict.get" [.ref d,.str k] d (aM l)<|.ok v).Holds w:=by
 intro A c s ec i H St _ _ _ j;let(t,rfl):=aS ec;rw[AZ (id:="dict.get") I2 ?_];show A0 _ _ (F4 d (.str k<|t 1)>>=_) _ _ _;rw[Al<|uZ w j λx n z=>?_]
 rw[<-z]at h;cases x with
 |none=>rw[Al ?_];delta Hz;rw[show(d==Iq)=O from ZX ce,];rw[Aw<|Aw<|ju (w:=w) _<|Z8 EE.ok h]
 |some x=>rw[Aw<|ju (w:=w) _<|Z8 EE.ok h]
def abX(b:Bool)(h:(cU l k).isSome=b)(ce:d≠1):(oI hd "dict.__contains__" [.ref d,.str k] d (aM l)<|.ok<|.bool b).Holds w:=by
 intro A c s ec i H St _ _ _ j;let(t,rfl):=aS ec;rw[AZ (id:="dict.__contains__") GS ?_];show A0 _ _ (F4 d (.str k<|t 1)>>=_) _ _ _;rw[Al<|uZ w j λx n z=>?_]
 rw[<-z]at h;cases x with
 |none=>rw[Al<|GC (ZX ce)<|Aw<|eF (w:=w) _<|Z8 (λb=>EE.ok<|.bool b) h]
 |some x=>rw[Aw<|eF (w:=w) _<|Z8 (λb=>EE.ok<|.bool b) h]
def oK(b:Bool)(h:(cU l k).isSome=b)(ce:d≠1):(ug "dict.__contains__" [.ref d,.str k] d (aM l)<|.ok<|.bool b).Holds w:=abX w As d l k b h ce
def aa1{b:Dg}{A:CB}{E:AF->AJ->Prop}{s:AJ}{es:Array B5}{n:Nat}{x:U}{u:Tok}{v:AF}{Q:Unit->AJ->Prop}(H:s.heap.get? d=Y {cls:=.type "dict",dict:=As,data:=.dict es n,slots:=#[]})(c:es.toList.map eE=l.map eD)(e:l.length<=AO)
  (h:∀h' I,GB d s.heap h'->h'.get? d=Y I->rd I=aM (iE l x<|aC v)->Q () {s with toks:=s.toks+1,heap:=h'}):A0 (AN b w) A (Ld d (.str x u) v) Q E s:=by
 let(r,k2):=cS (dT c) x;let j:es.size<=AO:=by have:=Z8 Eh c;simp only[Ap,Ba]at this;rw[atb e this]
 delta Ld;try with_reducible refine BP ?_
 rw[Al<|Gl ?_];delta dictSetHashed;try with_reducible refine BP ?_
 rw[Al<|eW (s:={s with toks:=s.toks+1}) H rfl r ?_];rw[k2,];cases m:iv (l.map (·.1)) x with
 |some i=>rw[Al<|E9<|Al<|wpAny_updateDict (s:={s with toks:=s.toks+1}) H rfl<|G9<|h _ _ (Bn ..) (Bg _ H rfl) ?_];rw[js _ n ?_];let z:=ac4 (v:=v) c m;rw[<-z];simp
 |none=>rw[Al<|E9<|Hc (hz:=j) (s:={s with toks:=s.toks+1}) H rfl<|h _ _ (Bn ..) (Bg _ H rfl) ?_];rw[js _ (n+1) ?_];rw[iF m,IS,AE,AE,c];rfl
theorem oM(v:SV)(hl:l.length<=100000):(v3 hd "dict.__setitem__" [.ref d,.str k,v] d (aM l) (aM<|iE l k v)<|.ok .none).Holds w:=by intro A c s ec m H St _ _ _ j;let(t,rfl):=aS ec;let(es,n,i,h):=eY j;rw[AZ (id:="dict.__setitem__") F.entry_dict_setitem ?_];rw[Al<|Eb ⟨_,i,rfl⟩ ?_];show A0 _ _ (Ld d (.str k<|t 1) (v.val<|t 2)>>=_) _ _ s;rw[Al<|aa1 w d l i h (by have:AO=2^24:=rfl;rw[atc hl]) λM I b g e=>Aw<|jv (w:=w) _ b g (e.trans<|Z8 (λv=>aM<|iE l k v)<|gJ _ v) rfl]
theorem ajJ(x:(cU l k).isSome=J)(hl:l.length<=100000):(v3 hd "dict.__delitem__" [.ref d,.str k] d (aM l) (aM<|nM l k)<|.ok .none).Holds w:=by
 intro A c s ec E r St _ _ _ B;let(t,rfl):=aS ec;let(es,n,h,H):=eY B;let(C,b):=cS (dT H) k;let j:es.size<=AO:=by have:=Z8 Eh H;simp only[Ap,Ba]at this;have:AO=2^24:=rfl;rw[atd hl (by assumption)]
 rw[AZ (id:="dict.__delitem__") F.entry_dict_delitem ?_];rw[Bx (by decide+kernel:C8 "dict.__delitem__"=J),];rw[Al ?_];rw[Al<|Eb ⟨_,h,rfl⟩ ?_];rw[Aw ?_];show A0 _ _ (KG d (.str k<|t 1)>>=_) _ _ s;rw[Al ?_];try with_reducible refine BP ?_
 rw[Al<|Gl<|Al<|eW (s:={s with toks:=s.toks+1}) h rfl C ?_];rw[b,];cases e:iv (l.map (·.1)) k with
 |none=>rw[j5.mpr e]at x;rw[nomatch x]
 |some i=>
  let m:i<es.size:=by rw[e]at b;rw[(Dr.mp b).1]
  rw[Al<|B1 (s:={s with toks:=s.toks+1}) h rfl ?_];simp only[CR m];rw[Al<|Hc (hz:=j) (s:={s with toks:=s.toks+1}) h rfl<|Aw ?_];rw[Al<|FY<|Aw<|jv (w:=w) _ (Bn ..) (Bg _ h rfl) ?_ rfl];rw[js _ (n+1) ?_];rw[<-ac5 H e];simp
end
end
section
open PySem.Builtin
abbrev hG:AL->Prop:=λQ=>False
def ng1{n:Nat}(h:0<n):Neg.neg (n:Int)<=Fj 0:=Int.neg_le_neg<|EJ.mpr h
def tn1{n:Nat}:(Fj 0+(n:Int)).toNat=n-1:=(Z8 Int.toNat (EK ..)).trans<|Int.toNat_sub n 1
def are(a b:U):Ct:=y6 "str.__add__" [.str a,.str b] hG (λQ=>True) (.ok<|.str<|a++b) λQ Q=>True
def abY{a:U}(h:(a.length==0)=J):a=⟨#[]⟩:=by
 let⟨⟨l⟩⟩:=a;cases l with
 |nil=>rfl
 |cons=>cases h
def rW(b:U)(a:AL)(l:!U):Ct:=ug "str.join" [.str b,.ref a] a (.seq Lt<|l.map .str)<|.ok<|.str<|JK b l
def agw{vs:!AF}{l:!U}(h:vs.map aC=l.map .str):∃r:List<|U×Tok,vs=I4 r/\r.map (·.1)=l:=
 map_ind (motive:=λvs l=>∃r:List<|U×Tok,vs=I4 r/\r.map (·.1)=l) ⟨[],rfl,rfl⟩ (λv vs x l H Q i=>by
  let(t,e):=bA H;let(r,b,E):=i
  rw[((x,t)::r,by rw[e,b];rfl,by rw[<-E];rfl)]) h
def ac6 b x:JK b [x]=x:=by rfl
def agx(w:AW) b a l (H:FF (l.toArray.foldl (·+·.length+b.length) 0)=O)(d:(JK b l).length<=AO):(rW b a l).Holds w:=by
 intro A c s ec k m St _ _ _ j;clear k m;let(t,rfl):=aS ec;let(i,n,B,h):=cp j;clear ec j;let(r,e,rfl):=agw h;let en:∀{q:BL}{n:Nat},a0 q=.ok (.str<|JK b<|r.map (·.1))->(rW b a<|r.map (·.1)).ax s q {s with toks:=n}:=λe=>ju (w:=w) _ e
 rw[bk rfl I5 (HB b (t 0) _ r H) ⟨⟨_,B,rfl,n,?_⟩,?_⟩]
 .rw[<-e]
 .delta joinMade;clear e H h;split
  .rename_i x;rw[en (n:=s.toks)<|Z8 (λx=>EE.ok<|.str x) (ac6 b _).symm]
  .rw[(d,en rfl)]
def ajK(f:α->β):∀(l:!α)(i:Nat),(l.eraseIdx i).map f=(l.map f).eraseIdx i:=by
 cases _ with
 |nil=>intro _;rw[rfl]
 |cons a l I=>
  cases _ using BE with
  |zero=>rw[rfl]
  |succ i=>rw[Gn,Cv,Cv,Gn,I i]
section
variable(w:AW)(l:AL)(xs:!SV)
def oO{I:Array AF}{i:Nat}{x:SV}(h:I.toList.map aC=xs)(H:xs[i]?=Y x):∃v,I[i]?=Y v/\aC v=x:=by rw[<-h,AG]at H;let(v,b,H):=Bj.mp H;rw[(v,by rw[<-Bt];rw[b],H)]
def oQ i x (H:0<=i)(C:i<2^63)(b:xs[i.toNat]?=Y x):(ug "list.__getitem__" [.ref l,.int i] l (.seq Lt xs)<|.ok x).Holds w:=by intro A c s ec e k St _ _ _ d;clear e k;let(t,rfl):=aS ec;let(I,n,m,r):=cp d;clear ec d;let(v,h,rfl):=oO xs r b;rw[AZ (id:="list.__getitem__") Fk ?_];show A0 _ _ (Ee (.int i<|t 1)>>=_) _ _ s;rw[Al<|Go (fitsIndex_of H C) ?_];clear C b;let(j,rfl):=Int.eq_ofNat_of_zero_le H;let h:I[j]?=Y v:=h;rw[Al<|Al<|wpAny_seqItemAt m rfl<|Aw ?_];rw[h,];rw[Aw<|ju (w:=w) s.toks rfl]
def abZ hd x (h:xs.getLast?=Y x):(oI hd "list.__getitem__" [.ref l,.int (-1)] l (.seq Lt xs)<|.ok x).Holds w:=by
 intro A c s ec k hd St _ _ _ j;clear k hd;let(t,rfl):=aS ec;let(I,n,m,b):=cp j;let H:I.size=xs.length:=by rw[<-b,Ap];rfl
 let d:0<xs.length:=by
  clear ec b j H;cases xs using A8 with
  |nil=>cases h
  |cons=>rw[EN _]
 rw[List.getLast?_eq_getElem?]at h;clear ec j;let(v,r,rfl):=oO xs b h;rw[AZ (id:="list.__getitem__") Fk ?_];show A0 _ _ (Ee (.int (-1)<|t 1)>>=_) _ _ s;rw[Al<|Go (fitsIndex_neg (by decide) (by decide)) ?_];show A0 _ _ ((EO (.ref l)>>=λxs=>pure<|(seqIndex? (Fj 0) xs.size).bind λi=>xs[i]?.map (i,·))>>=_) _ _ s;rw[Al<|Al ?_];rw[Al<|DQ m rfl<|Aw<|Aw ?_];rw[seqIndex_neg (by decide)<|ng1 (H▸d),];let e:(Fj 0+(I.size:Int)).toNat=xs.length-1:=H▸tn1;simp only[Fa,e,r,Js];rw[Aw<|eF (w:=w) s.toks rfl]
def hJ hd (h:xs.length<2^63):(oI hd "len" [.ref l] l (.seq Lt xs)<|.ok<|.int xs.length).Holds w:=by
 intro A c s ec k hd St _ _ _ j;let(_,rfl):=aS ec;let(i,n,b,e):=cp j;let H:i.size=xs.length:=by rw[<-e,Ap];rfl
 let d:s.heap.IsList l i:=⟨_,b,rfl,n,rfl⟩;rw[AZ (id:="len") J7 ?_];rw[Bx (by decide+kernel:C8 "len"=J),];rw[Al (m:=oneArg "len" _)<|Aw ?_]
 rw[Al (m:=Ke (.ref l)<|BV "__len__") (B7 (name:=BV "__len__") d.typeIs JZ
  (CT JZ d.typeIs entry_list_len ?_<|args_list_len _))]
 show A0 _ _ (do LC (<-seqSize l)) _ _ s;rw[Al<|Al<|Iv b ?_];rw[Aw<|Al<|G7<|Aw ⟨_,rfl,?_⟩];rw[Al<|BP<|Aw ?_];rw[Al<|FY ?_];show A0 _ _ (if((i.size:Nat):Int)<0 then _ else _) _ _ _;rw[Z7<|DE.mpr<|BH _,];show A0 _ _ (if((i.size:Nat):Int)>=2^63 then _ else _) _ _ _;rw[Z7<|ate h H,];rw[Al<|G7<|Aw<|eF (w:=w) _ ?_];show EE.ok (.int (i.size:Int))=_;rw[H,]
def iH(h:xs.length<2^63):(ug "len" [.ref l] l (.seq Lt xs)<|.ok<|.int xs.length).Holds w:=hJ w l xs As h
theorem aef hd ys x (r:xs=ys++[x])(h:xs.length<2^20):(v3 hd "list.pop" [.ref l] l (.seq Lt xs) (.seq Lt ys)<|.ok x).Holds w:=by
 intro A c s ec L B St _ _ _ E;clear L B;let(_,rfl):=aS ec;let(I,n,j,m):=cp E;let H:I.size=xs.length:=by rw[<-m,Ap];rfl
 let b:xs.length=ys.length+1:=by rw[r,Ay];rfl
 clear ec E;let(v,C,rfl):=oO (i:=ys.length) (x:=x) xs m (by rw[r,FO<|AA _,FE];rfl);rw[AZ (id:="list.pop") F.entry_list_pop ?_];rw[Bx (by decide+kernel:C8 "list.pop"=J),];show A0 _ _ (EO (.ref l)>>=_) _ _ s;rw[Al ?_];show A0 _ _ (Hs (.ref l)>>=_) _ _ s;rw[Al<|DQ j rfl<|Aw ?_];let d:¬(I.isEmpty=J):=by rw[Array.isEmpty_iff_size_eq_zero,];rw[atf H b]
 rw[Z7 d,];show A0 _ _ (match((seqIndex? (Fj 0) I.size).bind λi=>I[i]?.map (i,·))with|some (k,x)=>_|none=>_) _ _ s;rw[seqIndex_neg (by decide)<|ng1 (by rw[H,b];rw[EN _]),];let e:(Fj 0+(I.size:Int)).toNat=ys.length:=tn1.trans (by rw[H,b];rfl);simp only[Fa,e,C,Js];show A0 _ _ (updateSeq l (·.eraseIdxIfInBounds ys.length)>>=_) _ _ s;let N:AO=2^24:=rfl
 let G:(I.eraseIdxIfInBounds ys.length).size<=I.size:=by
  delta Array.eraseIdxIfInBounds;clear e m d j H C;split
  .simp
  .rw[AA _]
 rw[Al<|wpAny_updateSeq j rfl (hz:=to h H) (_hz':=atg h H G)<|Aw ?_];clear e G d H C;let(Q,M):=Obj.data_mapSeq (o:={cls:=.type "list",dict:=As,data:=.seq I n,slots:=#[]}) rfl (·.eraseIdxIfInBounds ys.length);rw[jv (w:=w) s.toks (Bn ..) (Bg _ j rfl) ?_ rfl];show SO.seq Lt ((I.eraseIdxIfInBounds ys.length).toList.map aC)=_;have:(I.eraseIdxIfInBounds ys.length).toList=I.toList.eraseIdx ys.length:=by let⟨V⟩:=I;simp
 rw[this,ajK,m,r];simp[List.eraseIdx_append_of_length_le]
theorem ajL(h:xs.length<2^20):(v3 As "list.clear" [.ref l] l (.seq Lt xs) (.seq Lt [])<|.ok .none).Holds w:=by intro A c s ec e b St _ _ _ j;let(_,rfl):=aS ec;have⟨i,n,H,d⟩:=cp j;let m:AO=2^24:=rfl;rw[bk (by decide+kernel) F.entry_list_clear (JO l i n<|to h (by rw[<-d,Ap];rfl)) ⟨H,jv (w:=w) s.toks (Bn ..) (Bg _ H rfl) ?_ rfl⟩];rfl
end
def avH(b:U)(a:AL)(l:!U)(r:U):Ct:=wrL As "str.join" [.str b,.ref a] a (.seq Lt<|l.map .str) (.seq Lt<|l.map .str)<|.ok<|.str r
end
section
open PySem.Builtin
def DP(l:DL)(ep:Nat)(o:Obj):Prop:=∃es:Array B5,o={cls:=.type "dict",dict:=As,data:=.dict es ep,slots:=#[]}/\es.toList.map eE=l.map eD
def DP.so{l:DL}{ep:Nat}{o:Obj}(h:DP l ep o):rd o=aM l:=by let(es,rfl,h):=h;rw[js es ep h]
noncomputable def cJ(ty:String)(d:SV)(i n ep:Nat):SO:=.fld (.type ty) [d,.int i,.int n,.int ep]
noncomputable abbrev kU:String:="dict_keyiterator"
noncomputable abbrev uh:String:="dict_valueiterator"
def xA(d:AL)(l:DL):Ct:=⟨.bi "dict.__iter__" [.ref d] [],As,400,[],1,λy=>.ok<|.ref<|nu y 0,λQ=>[],λy=>[cJ kU (.ref d) 0 l.length<|y.n 1],hG,λh=>bh h d<|aM l,λy h Q=>∃o,h.get? d=Y o/\DP l (y.n 1) o⟩
def za(id ty:String)(it d:AL)(l:DL)(ep i:Nat)(x:SV):Ct:=⟨.bi id [.ref it] [],As,400,[(it,cJ ty (.ref d) i l.length ep)],0,λQ=>.ok x,λQ=>[cJ ty (.ref d) (i+1) l.length ep],λQ=>[],hG,λh=>∃o,h.get? d=Y o/\DP l ep o,λQ Q Q=>True⟩
def zb(id ty:String)(it d:AL)(l:DL)(ep:Nat):Ct:=⟨.bi id [.ref it] [],As,400,[(it,cJ ty (.ref d) l.length l.length ep)],1,λy=>.err<|.ref<|nu y 0,λQ=>[cJ ty .none l.length l.length ep],λy=>[.fld (.type "StopIteration") [.ref<| -y.n 1,.none,.none,.none,.bool O,.none]],hG,λh=>∃o,h.get? d=Y o/\DP l ep o,λQ Q Q=>True⟩
def dvC(d:AL)(l:DL):Ct:=⟨.bi "dict.values" [.ref d] [],As,400,[],1,λy=>.ok<|.ref<|nu y 0,λQ=>[],λy=>[.fld (.type "dict_values") [.ref d]],hG,λh=>bh h d<|aM l,λQ Q Q=>True⟩
def dvI(v d:AL)(l:DL):Ct:=⟨.bi "dict_values.__iter__" [.ref v] [],As,400,[(v,.fld (.type "dict_values") [.ref d])],1,λy=>.ok<|.ref<|nu y 0,λQ=>[.fld (.type "dict_values") [.ref d]],λy=>[cJ uh (.ref d) 0 l.length<|y.n 1],hG,λh=>bh h d<|aM l,λy h Q=>∃o,h.get? d=Y o/\DP l (y.n 1) o⟩
def dA{es:Array B5}{l:DL}(h:es.toList.map eE=l.map eD):es.size=l.length:=by have:=Z8 Eh h;simpa using this
def zc(a b:Nat):aW:=(yQ (λi=>match i with|0=>a|_=>b) (λQ=>⟨#[]⟩) (λQ=>0) (λQ=>O) λQ=>[])
theorem aeg hd w d l (ce:d≠1):({xA d l with hd:=hd}:Ct).Holds w:=by intro A c s ec k e St _ _ _ j;let(_,rfl):=aS ec;let(es,n,i,b):=eY j;rw[AZ (id:="dict.__iter__") F.entry_dict_iter ?_];rw[Al ?_];rw[Al<|Eb ⟨_,i,rfl⟩ ?_];rw[Aw ?_];show A0 _ _ (EX d>>=_) _ _ s;delta EX;let iW:(d==Iq)=O:=ZX ce;rw[Z7 (by rw[iW,];rw[A9]),];rw[Al<|Aw<|Al<|B1 i rfl<|Al<|Cw i rfl ?_];rw[Al<|Db<|Aw ?_];let H:=Bo St.big;rw[fI (so:=cJ kU (.ref d) 0 l.length n) (y:=zc (s.heap.objs.size-902) n) H (Z8 (λa=>EE.ok<|.ref a) H.symm) (λQ h=>nomatch h) rfl rfl rfl rfl (by rw[<-dA b];rfl) rfl ⟨_,i,es,rfl,b⟩]
def aip w d l (ce:d≠1):(xA d l).Holds w:=aeg As w d l ce
end
section
open PySem.Builtin
class jf where
 p:Option Nat
noncomputable def dz[jf]:Option AF:=match jf.p with
 |some a=>Y<|.ref<| -a
 |none=>As
noncomputable def k0[jf]:SV:=match jf.p with
 |some a=>.ref<| -a
 |none=>.none
noncomputable def Ct.at(C:Ct)(hd:Option AF):Ct:={C with hd:=hd}
def aao:DN Ei "proto.unchain"=Y Builtin.«proto.unchain»:=entryFor_of_fast (by kernel_rfl)
section
variable{prog:Dg}{w:AW}{A:CB}{s:AJ}
def aap{α:Type}{e aQ:AL}{i oe:Obj}{vs ws:Array AF}{Q:α->AJ->Prop}{E:AF->AJ->Prop}(H:A.handled=Y (.ref aQ))(d:aQ≠e)(j:s.heap.get? aQ=Y i)(k:i.data=.fields vs)(x:vs[2]?=Y .none)(G:s.heap.get? e=Y oe)(l:oe.data=.fields ws)(m:2<ws.size)
  (h:E (.ref e) {s with heap:=s.heap.update e<|CN (·.setIfInBounds 2 (.ref aQ))}):A0 (AN prog w) A (Gp (.ref e):Sem α) Q E s:=by
 rw[Al<|wpAny_handled ?_];rw[H,];let n:((BZ aQ !=BZ e):Bool)=J:=by simp[d]
 show A0 _ _ (do
  if BZ aQ !=BZ e then
   let _<-holding [BZ e] (runValue<|.builtin "proto.unchain" ⟨[.ref e,.ref aQ,.ref aQ,.bool O],[]⟩)
   updateField e 2 (.ref aQ)
  throw (BZ e)) Q E s
 rw[Z0 n,];rw[Al ?_];rw[BP<|JP<|AZ aao ?_]
 show A0 _ _ (do
  let c<-GN (.ref aQ) 2
  if c==.none then return<-ret .none
  if c==.ref e then
   LN "raise.context-cycle-cut"
   D3 (.ref aQ) 2 .none
   return<-ret .none
  if c==.ref aQ then LN "raise.context-old-cycle";return<-ret .none
  let b<-if O then GN (.ref aQ) 2 else pure (.ref aQ)
  K6 (.builtin "proto.unchain" ⟨[.ref e,c,b,.bool (not O)],[]⟩)) _ _ s
 rw[Al<|Bf j k x ?_];rw[Al<|Aw<|Aw ?_];rw[Al<|Al<|Iv G ?_];rw[l,];dsimp only;rw[Z0 m,];rw[wpAny_update G<|wpAny_throw h]
def u0[jf](h:CF):Prop:=∀a,jf.p=Y a->dK λc x=>bh h (-a) (.fld c x)/\x[2]?=Y .none
def gN[jf]{α:Type}{Q:α->AJ->Prop}{E:AF->AJ->Prop}(l:A.handled=dz)(B:u0 s.heap)
  (h:∀h',(∀b o,s.heap.get? b=Y o->h'.get? b=Y o)->h'.objs.size=s.heap.objs.size+2->bh h' (s.heap.objs.size+1) (.fld (.type "StopIteration") [.ref s.heap.objs.size,.none,k0,.none,.bool O,.none])->E (.ref<|s.heap.objs.size+1) {s with heap:=h'}):
  A0 (AN prog w) A (JQ (.type "StopIteration") []>>=λe=>(Gp e:Sem α)) Q E s:=by
 rw[Al<|Al<|Hd ?_ (by decide)];rw[Al<|Aw ?_];let own:ownMembersOf (EF "StopIteration") []=#[]:=rfl;rw[Db ?_ (by show 6<=AO+2;decide)];let d:(s.heap.push {cls:=.type "tuple",data:=.seq ([]:!AF).toArray}).objs.size=s.heap.objs.size+1:=Cq ..;let keep:∀b o,s.heap.get? b=Y o->((s.heap.push {cls:=.type "tuple",data:=.seq ([]:!AF).toArray}).push {cls:=.type "StopIteration",data:=.fields #[.ref s.heap.objs.size,.none,.none,.none,.bool O,.none]}).get? b=Y o:=λb o e=>AU _<|AU _ e
 let N:((s.heap.push {cls:=.type "tuple",data:=.seq ([]:!AF).toArray}).push {cls:=.type "StopIteration",data:=.fields #[.ref s.heap.objs.size,.none,.none,.none,.bool O,.none]}).get? (s.heap.objs.size+1)=Y {cls:=.type "StopIteration",data:=.fields #[.ref s.heap.objs.size,.none,.none,.none,.bool O,.none]}:=by rw[<-d];rw[BB _ rfl]
 let m:((s.heap.push {cls:=.type "tuple",data:=.seq ([]:!AF).toArray}).push {cls:=.type "StopIteration",data:=.fields #[.ref s.heap.objs.size,.none,.none,.none,.bool O,.none]}).objs.size=s.heap.objs.size+2:=by rw[Cq,d]
 cases j:jf.p with
 |none=>
  let H:A.handled=As:=by rw[l,];delta dz;rw[j,]
  let ec:k0=SV.none:=by delta k0;rw[j,]
  rw[wpAny_raiseNew_none H ?_];let z:=h _ keep m ⟨_,N,by rw[ec,];rfl⟩;rw[<-d]at z;rw[z]
 |some a=>
  let ec:k0=SV.ref (-a):=by delta k0;rw[j,]
  let(c,xs,(oX,G,C),n):=B a j;let(i,rfl,I):=eX C;let lt:=AP G;let L:i[2]?=Y .none:=by rw[<-I,AG]at n;let(v,M,k):=Bj.mp n;let(t,rfl):=bA k;rw[<-Bt];rw[M]
  rw[d,];rw[aap (by rw[l,];delta dz;rw[j,]) (DA<|B9 lt) (keep _ _ G) rfl L N rfl (show 2<6 by decide) ?_];let r:=Bn (h:=(s.heap.push {cls:=.type "tuple",data:=.seq ([]:!AF).toArray}).push {cls:=.type "StopIteration",data:=.fields #[.ref s.heap.objs.size,.none,.none,.none,.bool O,.none]}) (a:=s.heap.objs.size+1) (f:=CN λx=>x.setIfInBounds 2<|BZ<| -a);let V:=Bg (h:=(s.heap.push {cls:=.type "tuple",data:=.seq ([]:!AF).toArray}).push {cls:=.type "StopIteration",data:=.fields #[.ref s.heap.objs.size,.none,.none,.none,.bool O,.none]}) (a:=s.heap.objs.size+1) (CN λx=>x.setIfInBounds 2<|BZ<| -a) N rfl;rw[h _ (λb o e=>(r.2 b<|DA<|B9<|AP e).trans<|keep b o e) (r.1.trans m) ⟨_,V,?_⟩];rw[ec,];rfl
end
end
section
open PySem.Builtin
section
variable[jf]{prog:Dg}{w:AW}{A:CB}{α:Type}{Q:α->AJ->Prop}{E:AF->AJ->Prop}
def hL{C:Ct}{s:AJ}{H:CF}(l:∀e d,C.ax s (.error e) d->E e d)(n:A.handled=dz)(x:u0 H)(B:902<=s.heap.objs.size)(k:∀b o,s.heap.get? b=Y o->¬C.all b->H.get? b=Y o)(m:H.objs.size=s.heap.objs.size)(ps:∀y,HS H ((aH C.pre).zip<|C.post y))
  (h:C.k=1:=by rfl)(ab:∀y,C.ab y=.err (.ref<|nu y 0):=by intros;rfl)(i:∀y,C.al y=[.fld (.type "StopIteration") [.ref<| -y.n 1,.none,k0,.none,.bool O,.none]]:=by intros;rfl)(lp:∀y,(C.post y).length=C.pre.length:=by intros;rfl)(G:∀y h',C.Post y s.heap h':=by intros;trivial):
  A0 (AN prog w) A (JQ (.type "StopIteration") []>>=λe=>(Gp e:Sem α)) Q E {s with heap:=H}:=by
 rw[gN (s:={s with heap:=H}) n x λh' j I g=>?_]
 let c:=(Bo<|Bz B).trans<|Z8 (·+1) m.symm;rw[l _ _ ⟨⟨λb o e q=>j _ _<|k b o e q,Ax (AY m.symm)<|Ax (BG _ 2)<|AY I.symm,rfl,rfl,rfl⟩,yL2 (s.heap.objs.size+1-902)<|s.heap.objs.size-902,(Z8 (λa=>EE.err<|.ref a) c.symm).trans (ab<|yL2 (s.heap.objs.size+1-902)<|s.heap.objs.size-902).symm,λq L=>?_,lp _,?_,?_,?_,?_,G _ _⟩]
 .let(o,e,r):=ps _ q L;rw[(o,j _ _ e,r)]
 .rw[h,i];rw[ud ?_];show bh h' (s.heap.objs.size+1-902+902)<|.fld _ [.ref<|s.heap.objs.size-902+902,_,_,_,_,_]
  rewrite [c,(Bo B).trans m.symm]
  rw[g]
 .rw[h,i];rfl
 .rw[h,];rw[λa M=>Au.mp M▸C5 (AY<|(Z8 (·+1) m.symm).trans c.symm)]
 .rw[h,];rw[AC.mpr ⟨BF,AS⟩]
end
end
section
open PySem.Builtin
section
variable{w:AW}{C:Ct}{s:AJ}{it:AL}{i:Nat}{v:AF}
def u0.keep[jf](x:u0 h)(k:∀b o,h.get? b=Y o->b≠it->h'.get? b=Y o)(n:∀a,jf.p=Y a->(-a:Nat)≠it):u0 h':=λa H=>by let(c,d,(o,e,r),j):=x a H;rw[(c,d,⟨o,k _ _ e<|n a H,r⟩,j)]
end
def aeh w it d i s l xs x (M:xs[i.toNat]?=Y x)(hl:(l==0)=O):(ad8 it d i s l xs x).Holds w:=by
 intro A c C ec hA N St I nd _ _;let V:it≠d:=λe=>(AC.mp nd).1 (e▸aE)
 let(t,rfl):=aS ec;let(u,h):=bZ<|I _ aE;let(v,H):=bZ<|I _ ce;let(k,hk):=abM (t:=λi=>v<|i+1+1) M;rw[fH (id:="collections._deque_iterator.__next__") (by decide+kernel) aad λQ E hq hE=>?_]
 show A0 _ _ (EP (.ref it) 1>>=_) _ _ _;rw[Al ?_];delta EP;rw[Al<|Bf h rfl (i:=0) rfl ?_];rw[Z7 (by decide),];delta KH J0;rw[Al<|Al<|Bf H rfl (i:=1) rfl<|Aw ?_];rw[Al<|Al<|Bf h rfl (i:=2) rfl<|Aw ?_];show A0 _ _ (if(s !=s)=J then _ else _) _ _ _;rw[Z7 (by simp),];rw[Al<|Al<|Bf h rfl (i:=3) rfl<|Aw ?_];show A0 _ _ (if(l==0)=J then _ else _) _ _ _;rw[hl,Z7 (by decide)];rw[Al<|Al<|Bf h rfl (i:=1) rfl<|Aw ?_];delta Deque.items;rw[Al<|Al<|DR H rfl<|Aw ?_];let hi:((gh (.none::.int s::xs) v).toArray.extract 2 (gh (.none::.int s::xs) v).toArray.size)[i.toNat]?=Y (x.val k):=by simp[gh];rw[hk]
 rw[hi,];rw[Al<|BA h (by simp[gh]) λh1 G j=>?_]
 rw[Al<|BA (s:={C with heap:=h1}) G (by simp[gh]) λh2 r m=>?_]
 rw[Aw<|Aw ?_];let L:∀b o,C.heap.get? b=Y o->b≠it->h2.get? b=Y o:=λb o e n=>(m.2 b n).trans<|(j.2 b n).trans e
 rw[hq _ _<|jr (λb o e q=>L b o e<|c2 rfl b q) (AY (m.1.trans j.1).symm) (λ_=>Z8 EE.ok<|gJ k x) (λq B=>?_) rfl rfl rfl Z9];rcases Ar.mp B with rfl|B
 .rw[(_,r,rfl)]
 .rw[Au.mp B,];rw[(_,L d _ H λe=>V e.symm,Z8 (SO.fld Dq)<|abL _ v)]
def agy w it d i s xs:(rQ it d i s xs).Holds w:=by
 intro A c k ec l m St b nd _ _;let(t,rfl):=aS ec;let(u,H):=bZ<|b _ aE;let(v,j):=bZ<|b _ ce;rw[fH (id:="collections._deque_iterator.__next__") (by decide+kernel) aad λQ E r n=>?_]
 show A0 _ _ (EP (.ref it) 1>>=_) _ _ _;rw[Al ?_];delta EP;rw[Al<|Bf H rfl (i:=0) rfl ?_];rw[Z7 (by decide),];delta KH J0;rw[Al<|Al<|Bf j rfl (i:=1) rfl<|Aw ?_];rw[Al<|Al<|Bf H rfl (i:=2) rfl<|Aw ?_];show A0 _ _ (if(s !=s)=J then _ else _) _ _ _;rw[Z7 (by simp),];rw[Al<|Al<|Bf H rfl (i:=3) rfl<|Aw ?_];show A0 _ _ (if((0:Int)==0)=J then _ else _) _ _ _;rw[Z0 (by decide),];rw[Aw ?_];rw[@hL ⟨As⟩ _ _ _ _ _ _ (rQ it d i s xs) k k.heap n l (λx h=>nomatch h) St.big (λx x e x=>e) rfl (λx=>b) rfl (λx=>rfl) (λx=>rfl) (λx=>rfl) λx x=>Z9]
def oR{id I:String}{B:EL}(plain:C8 id=J)(e:DN Ei id=Y B)(b:∀it,B ⟨[.ref it],[]⟩=j4 id (.ref it)) w it l c xs j x (d:xs[j]?=Y x){hd:Option AF}:((ue id I it l c xs j x).at hd).Holds w:=by
 intro A M N ec V m St r nd _ C;let(t,rfl):=aS ec;let(u,h):=bZ<|r _ aE;let(v,n,H):=oE C;let(k,G):=abM (t:=v) d;rw[fH (id:=id) plain e λQ E L hE=>?_]
 show A0 _ _ (B ⟨[.ref it],[]⟩) _ _ _;rw[b,];delta j4;rw[Al<|Bf h rfl (i:=0) rfl ?_];show A0 _ _ (if(BZ l==B8)=J then _ else _) _ _ _;rw[Z7 (show¬((BZ l==B8)=J)from A9),];show A0 _ _ (GN (.ref it) 1>>=_) _ _ _;rw[Al<|Bf h rfl (i:=1) rfl ?_];show A0 _ _ (Hs (.ref l)>>=_) _ _ _;rw[Al<|DQ H rfl ?_];simp only[Ca,(EY ..).trans G];rw[Al<|CP h rfl (by simp[gh])<|Aw<|L _ _<|lT (so':=kZ I (.ref l)<|j+1) (c2 rfl) ⟨_,lS 1 _ h,rfl⟩ (λ_=>Z8 EE.ok<|gJ k x) rfl rfl rfl rfl Z9]
section
variable[jf]
def aup(it l:AL)(c:AF)(xs:!SV)(j:Nat)(x:SV):Ct:=(tD it l c xs j x).at dz
def ieH(id i:String)(it l:AL)(c:AF)(xs:!SV)(j:Nat):Ct:=
 ⟨.bi id [.ref it] [],dz,400,[(it,kZ i (.ref l) j)],1,λy=>.err<|.ref<|nu y 0,λQ=>[kZ i .none j],λy=>[.fld (.type "StopIteration") [.ref<| -y.n 1,.none,k0,.none,.bool O,.none]],λQ=>False,λh=>A3 (bh h l<|.seq c xs) (u0 h) (∀a,jf.p=Y a->(-a:Nat)≠it),λQ Q Q=>True⟩
abbrev auq:=ieH "list_iterator.__next__" "list_iterator"
def aei{id I:String}{B:EL}(plain:C8 id=J)(d:DN Ei id=Y B)(C:∀it,B ⟨[.ref it],[]⟩=j4 id (.ref it))(w:AW) it l c xs j (G:xs[j]?=As):(ieH id I it l c xs j).Holds w:=by
 intro A cc L ec M N St V nd _ k;let(t,rfl):=aS ec;let(u,H):=bZ<|V _ aE;let(k,hX,m):=k;let(v,n,r):=oE k;rw[fH (id:=id) plain d λQ E hq hE=>?_]
 show A0 _ _ (B ⟨[.ref it],[]⟩) _ _ _;rw[C,];delta j4;rw[Al<|Bf H rfl (i:=0) rfl ?_];show A0 _ _ (if(BZ l==B8)=J then _ else _) _ _ _;rw[Z7 (show¬((BZ l==B8)=J)from A9),];show A0 _ _ (GN (.ref it) 1>>=_) _ _ _;rw[Al<|Bf H rfl (i:=1) rfl ?_];show A0 _ _ (Hs (.ref l)>>=_) _ _ _;rw[Al<|DQ r rfl ?_];simp only[Ca,(EY ..).trans<|agr G];rw[Al<|E9<|Al<|CP H rfl (by simp[gh]) ?_];let x:=Bn (h:=L.heap) (a:=it) (f:=eC 0 .none);show A0 _ _ (JQ (.type "StopIteration") []>>=λe=>Gp e) _ _ _;rw[hL hE M (hX.keep (λb _ e n=>(x.2 b n).trans e) m) St.big (λb _ e q=>(x.2 b<|c2 rfl b q).trans e) x.1 λ_=>ud (so:=kZ I .none j) ⟨_,lS 0 _ H,rfl⟩]
end
def aej{id i:String}{B:EL}(plain:C8 id=J)(e:DN Ei id=Y B)(b:∀it,B ⟨[.ref it],[]⟩=j4 id (.ref it)) w it l c xs j (H:xs[j]?=As):(y9 id i it l c xs j).Holds w:=λA M s E d k St m nd kt p=>BK (@aei ⟨As⟩ _ i _ plain e b w it l c xs j H A M s E d k St m nd kt ⟨p,λQ h=>(nomatch h),λQ h=>(nomatch h)⟩) λQ Q ⟨n,y,P⟩=>⟨n,y,P.ab,P.post,P.lp,P.al,P.ln,P.fresh,P.nd,trivial⟩
def oS{es:Array B5}{l:DL}(h:es.toList.map eE=l.map eD){i:Nat}{k:U}{v:SV}(H:l[i]?=Y (k,v)):∃e,es[i]?=Y e/\eE e=(.str k,v):=Bj.mp<|((by rw[<-Bt,<-AG,h,AG]):es[i]?.map eE=l[i]?.map eD).trans (by rw[H,];rfl)
def aiq{es:Array B5}{l:DL}(h:es.toList.map eE=l.map eD):es[l.length]?=As:=GG<|AY<|dA h
def ab0 hd w it d l ep i k v (r:l[i]?=Y (k,v)):((za "dict_keyiterator.__next__" "dict_keyiterator" it d l ep i<|.str k).at hd).Holds w:=by
 intro A c s ec M x St B nd _ C;let(t,rfl):=aS ec;let(u,H):=bZ<|B _ aE;let H:s.heap.get? it=Y {cls:=.type kU,dict:=As,data:=.fields #[.ref d,.int i<|u 1,.int l.length<|u 2,.int ep<|u 3],slots:=#[]}:=H;let(_,b,es,rfl,m):=C;let(e,G,I):=oS m r;let j:s.TypeIs (.ref it) "dict_keyiterator":=⟨_,H,rfl⟩;rw[fH (id:="dict_keyiterator.__next__") (by decide+kernel) Fn λQ E L N=>?_]
 rw[Al<|Aw ?_];rw[Al<|Al<|Al<|CY j<|Aw ?_];rw[Al<|DR H rfl ?_];show A0 _ _ (if(BZ d==B8)=J then _ else _) _ _ s;rw[Z7 (show¬((BZ d==B8)=J)from A9),];rw[Al<|Aw<|Al<|B1 b rfl ?_];rw[Z7 (by rw[dA m,];simp),];rw[Al<|Aw<|Al<|Cw b rfl ?_];rw[Z7 (by simp),];rw[Aw ?_];simp only[show¬((i:Int)<0)from DE.mpr<|BH _,if_false,Ca,G];rw[Al<|Al<|CY j<|Aw ?_];rw[Al<|GV j ?_];let n:=Bg (h:=s.heap) (a:=it) (eC 1<|Co<|(i:Int)+1) H rfl;show A0 _ _ (D3 (.ref it) 1 (Co<|(i:Int)+1)>>=_) _ _ s;rw[Al<|CP H rfl (by simp)<|Al<|BP ?_];rw[Al<|GV (s:={s with heap:=s.heap.update it<|eC 1<|Co<|(i:Int)+1}) ⟨_,n,rfl⟩ ?_];show A0 _ _ (pure e.key>>=_) _ _ _;rw[Al<|Aw<|Aw<|Aw ?_];rw[L _ _ ?_];rw[lT (so':=cJ kU (.ref d) (i+1) l.length ep) (c2 rfl) ⟨_,n,rfl⟩ (λV=>Z8 EE.ok (DV I).1) rfl rfl rfl rfl Z9]
section
variable[jf]
def zd(id ty:String)(it d:AL)(l:DL)(ep:Nat):Ct:=
 ⟨.bi id [.ref it] [],dz,400,[(it,cJ ty (.ref d) l.length l.length ep)],1,λy=>.err<|.ref<|nu y 0,λQ=>[cJ ty .none l.length l.length ep],λy=>[.fld (.type "StopIteration") [.ref<| -y.n 1,.none,k0,.none,.bool O,.none]],hG,λh=>A3 (∃o,h.get? d=Y o/\DP l ep o) (u0 h) (∀a,jf.p=Y a->(-a:Nat)≠it),λQ Q Q=>True⟩
abbrev keH:=zd "dict_keyiterator.__next__" "dict_keyiterator"
def aek(w:AW) it d l ep:(keH it d l ep).Holds w:=by
 intro A c s ec x B St C nd _ G;let(t,rfl):=aS ec;let(u,H):=bZ<|C _ aE;let H:s.heap.get? it=Y {cls:=.type kU,dict:=As,data:=.fields #[.ref d,.int l.length<|u 1,.int l.length<|u 2,.int ep<|u 3],slots:=#[]}:=H;let((_,i,es,rfl,k),I,m):=G;let r:s.TypeIs (.ref it) "dict_keyiterator":=⟨_,H,rfl⟩;rw[fH (id:="dict_keyiterator.__next__") (by decide+kernel) Fn λQ E M L=>?_]
 rw[Al<|Aw ?_];rw[Al<|Al<|Al<|CY r<|Aw ?_];rw[Al<|DR H rfl ?_];show A0 _ _ (if(BZ d==B8)=J then _ else _) _ _ s;rw[Z7 (show¬((BZ d==B8)=J)from A9),];rw[Al<|Aw<|Al<|B1 i rfl ?_];rw[Z7 (by rw[dA k,];simp),];rw[Al<|Aw<|Al<|Cw i rfl ?_];rw[Z7 (by simp),];rw[Aw ?_];simp only[show¬((l.length:Int)<0)from DE.mpr<|BH _,if_false,Ca,aiq k];rw[Al<|Al<|CY r<|Aw ?_];show A0 _ _ (D3 (.ref it) 0 .none>>=_) _ _ s;rw[Al<|CP H rfl (by simp) ?_];let j:=Bn (h:=s.heap) (a:=it) (f:=eC 0 .none);show A0 _ _ (JQ (.type "StopIteration") []>>=λe=>Gp e) _ _ _;rw[hL L x (I.keep (λb V e n=>(j.2 b n).trans e) m) St.big (λb V e q=>(j.2 b<|c2 rfl b q).trans e) j.1 λV=>ud (so:=cJ kU .none l.length l.length ep) ⟨_,Bg (eC 0 .none) H rfl,rfl⟩]
def ajM(w:AW) it d l ep:(zd "dict_valueiterator.__next__" "dict_valueiterator" it d l ep).Holds w:=by
 intro A c s ec x B St C nd _ G;let(t,rfl):=aS ec;let(u,H):=bZ<|C _ aE;let H:s.heap.get? it=Y {cls:=.type uh,dict:=As,data:=.fields #[.ref d,.int l.length<|u 1,.int l.length<|u 2,.int ep<|u 3],slots:=#[]}:=H;let((_,i,es,rfl,k),I,m):=G;let r:s.TypeIs (.ref it) "dict_valueiterator":=⟨_,H,rfl⟩;rw[fH (id:="dict_valueiterator.__next__") (by decide+kernel) EU λQ E M L=>?_]
 rw[Al<|Aw ?_];rw[Al<|Al<|Al<|CZ r<|Aw ?_];rw[Al<|DR H rfl ?_];show A0 _ _ (if(BZ d==B8)=J then _ else _) _ _ s;rw[Z7 (show¬((BZ d==B8)=J)from A9),];rw[Al<|Aw<|Al<|B1 i rfl ?_];rw[Z7 (by rw[dA k,];simp),];rw[Al<|Aw<|Al<|Cw i rfl ?_];rw[Z7 (by simp),];rw[Aw ?_];simp only[show¬((l.length:Int)<0)from DE.mpr<|BH _,if_false,Ca,aiq k];rw[Al<|Al<|CZ r<|Aw ?_];show A0 _ _ (D3 (.ref it) 0 .none>>=_) _ _ s;rw[Al<|CP H rfl (by simp) ?_];let j:=Bn (h:=s.heap) (a:=it) (f:=eC 0 .none);show A0 _ _ (JQ (.type "StopIteration") []>>=λe=>Gp e) _ _ _;rw[hL L x (I.keep (λb V e n=>(j.2 b n).trans e) m) St.big (λb V e q=>(j.2 b<|c2 rfl b q).trans e) j.1 λV=>ud (so:=cJ uh .none l.length l.length ep) ⟨_,Bg (eC 0 .none) H rfl,rfl⟩]
end
def air{id ty:String}{it d:AL}{l:DL}{ep:Nat}{w:AW}(H:(@zd ⟨As⟩ id ty it d l ep).Holds w):(zb id ty it d l ep).Holds w:=λA M s b E c St e nd kt p=>BK (H A M s b E c St e nd kt ⟨p,λQ h=>(nomatch h),λQ h=>(nomatch h)⟩) λQ Q ⟨j,y,P⟩=>⟨j,y,P.ab,P.post,P.lp,P.al,P.ln,P.fresh,P.nd,trivial⟩
def d7 w it l c xs j x (H:xs[j]?=Y x):(tD it l c xs j x).Holds w:=oR (hd:=As) (by decide+kernel) Df cT w it l c xs j x H
def fL w it l c xs j (H:xs[j]?=As):(uY it l c xs j).Holds w:=aej (by decide+kernel) Df cT w it l c xs j H
def agz[jf] w it l c xs j (H:xs[j]?=As):(auq it l c xs j).Holds w:=aei (by decide+kernel) Df cT w it l c xs j H
def ajN w it l c xs j x (H:xs[j]?=Y x):(arc it l c xs j x).Holds w:=oR (hd:=As) (by decide+kernel) FH aaf w it l c xs j x H
def ajO w it l c xs j (H:xs[j]?=As):(ard it l c xs j).Holds w:=aej (by decide+kernel) FH aaf w it l c xs j H
end
section
open PySem.Builtin
def gO(w:AW)(ks:!U)(o:Obj):Prop:=∃n,n<=ks.length/\o.SetObjOf (strKind PW w) (λk=>decide<|k∈ks) n
def avT(w:AW)(a:AL)(ks:!U)(k:U)(b:Bool):Ct:=uf As "set.__contains__" [.ref a,.str k] hG (λh=>∃o,h.get? a=Y o/\gO w ks o) (.ok<|.bool b) λQ Q=>True
def aur(hd:Option AF)(w:AW)(a:AL)(ks:!U)(k:U)(b:Bool):Ct:=uf hd "set.__contains__" [.ref a,.str k] hG (λh=>∃o,h.get? a=Y o/\gO w ks o) (.ok<|.bool b) λQ Q=>True
def avU(w:AW)(a:AL)(ks:!U)(k:U):Ct:=uf As "set.add" [.ref a,.str k] (·=a) (λh=>∃o,h.get? a=Y o/\gO w ks o) (.ok .none) λQ M=>∃o,M.get? a=Y o/\gO w (k::ks) o
def aus(hd:Option AF)(w:AW)(a:AL)(ks:!U)(k:U):Ct:=uf hd "set.add" [.ref a,.str k] (·=a) (λh=>∃o,h.get? a=Y o/\gO w ks o) (.ok .none) λQ M=>∃o,M.get? a=Y o/\gO w (k::ks) o
end
def ajP(V:Cx)(N:Nat)(c:BC)(ag:Or)(led:List<|AL×Obj)(C d:Nat):co:=
 bJ led .nil 0 [] λT n ad=>eP V (qJ V N) c .base ag T n ((n,C)::ad) d 0 [] []
def ajQ(b:BC->Sem Fin)(V:Cx)(N:Nat)(c:BC)(ag:Or)(led:List<|AL×Obj)(C d:Nat):co:=
 bJ led .nil 0 [] λT n ad=>qJ V N O c .base (b c) ag T n ((n,C)::ad) d 0 [] []
structure X where
 ec:EC
 hd:Option AF:=As
 ai:Nat
 un:Nat:=0
 rcs:Option Nat:=As
 sm:Bool:=O
 fr:!Env:=[]
 pre:Rd:=[]
 aj:!Rd:=[]
 ao:aW->!AL:=λ_=>[]
 ab:aW->EE
 post:aW->!SO:=λ_=>[]
 al:aW->!SO:=λ_=>[]
 af:aW->!Rd:=λ_=>[]
 pure:aW->Prop:=λ_=>True
noncomputable def X.dt(K:X):Nat:=match K.rcs with
 |none=>K.ai
 |some n=>K.ai+5*n
def X.own(K:X)(b:AL):Prop:=b∈aH K.pre\/b∈aH K.aj.flatten
def X.led(K:X)(y:aW):Rd:=(aH K.pre).zip (K.post y)++(K.ao y).zip (K.al y)
def oa(l:Option<|!Env)(b:AL):Prop:=∃L,l=Y L/\b∈a7 L
structure tF(l:Option<|!Env)(h h':CF):Prop where
 f:∀l',l=Y l'->h'.FunFrames kT l'
 s:∀b,oa l b->∀o,h.get? b=Y o->∃sl,h'.get? b=Y {o with slots:=sl}
structure X.End(K:X)(s:AJ)(r:BL)(s':AJ)(y:aW):Prop where
 ab:a0 r=K.ab y
 lp:(K.post y).length=K.pre.length
 ln:(K.al y).length=(K.ao y).length
 hs:HS s'.heap<|K.led y++(K.af y).flatten
 nd:(aH<|K.led y++(K.af y).flatten).Nodup
 new:∀a∈K.ao y,a∈aH K.aj.flatten\/s.heap.objs.size<=a
 own:∀a∈aH (K.af y).flatten,K.own a\/s.heap.objs.size<=a
 pure:K.pure y
def X.ax(K:X)(l:Option<|!Env)(s:AJ)(r:BL)(c:AJ):Prop:=A3 (Kp (λb=>K.own b\/oa l b) s c) (tF l s.heap c.heap) (∃y,K.End s r c y)
structure X.aA(w:AW)(K:X)(fr:!Env)(l:Option<|!Env)(A:CB)(c:BC)(s:AJ):Prop where
 ec:eV c=K.ec
 hd:A.handled=K.hd
 fs:∀l',l=Y l'->A.frames=Y (fr++l')
 ai:A.depth+K.dt<jc
 un:K.un=0\/A.units<=K.un
 St:uL w s.heap
 hs:HS s.heap<|K.pre++K.aj.flatten
 nd:(aH<|K.pre++K.aj.flatten).Nodup
 af:∀a,K.own a\/oa l a->(fD w.params).get a=As
 ff:∀l',l=Y l'->s.heap.FunFrames kT l'/\∀b∈a7 l',¬K.own b
def X.aq(w:AW)(K:X)(fr:!Env)(l:Option<|!Env):Prop:=∀A c s,K.aA w fr l A c s->Be (MM w) A c (K.ax l s) s
abbrev X.Holds(w:AW)(K:X):Prop:=K.aq w [] As
inductive Bi where
 |b (i:Nat)
 |l (i:Nat)
 |k (i:Nat) (a:AL) (so:SO)
inductive Nt where
 |fin (ck:!Nat) (ix:!Nat) (ks:!Bool) (bx:!!Bi) (y:aW) (qs:!Prop)
 |use (ck:!Nat) (D:X) (nf:Option !Env) (ix:!Nat) (ks:!Bool) (bx:!!Nat) (qs:!Prop) (next:aQ->Nt)
 |stk (next:Nt)
 |alt (ck:!Nat) (a b:Nt)
 |ob (ns:!!Nat) (a:AL) (so:SO) (next:Nt)
 |cx (next:aQ->Nt)
noncomputable def Nt.u(n:!Nat)(D:X)(ix:!Nat)(ks:!Bool)(bx:List<|!Nat)(nx:aQ->Nt):Nt:=.use n D As ix ks bx [] nx
noncomputable def Nt.v(n:!Nat)(D:X)(ix:!Nat)(bx:List<|!Nat)(nx:aQ->Nt):Nt:=.use n D As ix (ix.map λQ=>J) bx [] nx
noncomputable def Nt.f(n:!Nat)(ix:!Nat)(ks:!Bool)(bx:List<|!Bi)(y:aW):Nt:=.fin n ix ks bx y []
noncomputable def Nt.g(n:!Nat)(ix:!Nat)(bx:List<|!Bi)(y:aW):Nt:=.fin n ix (ix.map λQ=>J) bx y []
def wm(D:X)(ix:!Nat)(x:aQ):lL:=⟨toR (x.t 0)<|D.ab x.y,rN x ix (aH D.pre)<|D.post x.y,j1 x (D.ao x.y)<|D.al x.y,-x.t 1,x.t 2,O⟩
def xC(c:aQ)(a:AL)(so:SO):Obj:=jY (c.p a) (c.e a) so
noncomputable def dgc(l:!Nat):Nat->!Nat
 |0=>0::l
 |n+1=>(n+1)::l
noncomputable def dg:Nat->Nat->!Nat
 |0,_=>[]
 |k+1,n=>match CD (n%16) 15 with
  |true=>dgc (dg k<|n/4096)<|n/16%256
  |false=>dgc (dg k<|n/16)<|n%16
noncomputable def obN:!(!Nat)->Obj->Or->Or
 |[],_,r=>r
 |n::l,o,r=>ol n<|.obj o<|obN l o r
noncomputable def Nt.or:Nt->aQ->Or
 |.fin ck _ _ _ _ _,_=>ol ck .nil
 |.use ck D _ ix _ _ _ nx,_=>ol ck<|.az (wm D ix) λx=>(nx x).or x
 |.stk nx,c=>nx.or c
 |.alt ck a b,c=>ol ck<|.alt (a.or c)<|b.or c
 |.ob ns a so nx,c=>obN ns (xC c a so)<|nx.or c
 |.cx nx,c=>(nx c).or c
noncomputable def xE(ns:List<|!Nat)(q:AL×Obj)(l:List<|AL×Obj):List<|AL×Obj:=match ns with
 |[]=>l
 |_::ns=>xE ns q<|q::l
noncomputable def wn:!Rq->!Prop
 |[]=>[]
 |.p q::l=>q::wn l
 |.o _ _::l=>wn l
noncomputable def wr:!Rq->!(AL×Obj)
 |[]=>[]
 |.p _::l=>wr l
 |.o a o::l=>(a,o)::wr l
noncomputable def j6:!Rd->Nat->Rd
 |[],_=>[]
 |r::B,i=>match i with
  |0=>r
  |i+1=>j6 B i
noncomputable def dL:!Rd->Nat->Rd->!Rd
 |[],_,_=>[]
 |r::B,i,q=>match i with
  |0=>q::B
  |i+1=>r::dL B i q
noncomputable def gP(B:!Rd):!Nat->Rd×!Rd
 |[]=>([],B)
 |i::l=>match l with
  |[]=>(j6 B i,dL B i [])
  |j::l=>match gP (dL B i []) (j::l)with
   |(r,b)=>(j6 B i++r,b)
noncomputable def dC(B:!Rd):!(!Nat)->!Rd×!Rd
 |[]=>([],B)
 |i::l=>match gP B i with
  |(r,c)=>match dC c l with
   |(rs,b)=>(r::rs,b)
noncomputable def lU:!(!Nat)->!Rd->!Rd->!Rd
 |i::b,o::os,B=>lU b os (match i with
  |[]=>B++[o]
  |j::_=>dL B j o)
 |[],os,B=>B++os
 |_::_,[],B=>B
noncomputable def dU(T:BT)(ad:cX)(B:!Rd):!Bi->Rd×!Rd
 |[]=>([],B)
 |i::l=>match i with
  |.b i=>match l with
   |[]=>(j6 B i,dL B i [])
   |j::l=>match dU T ad (dL B i []) (j::l)with
    |(r,b)=>(j6 B i++r,b)
  |.l i=>match dU T ad B l with
   |(r,b)=>((match T.get i with
    |some o=>[(bG ad i,rd o)]
    |none=>[])++r,b)
  |.k i _ so=>match dU T ad B l with
   |(r,b)=>((match T.get i with
    |some _=>[(bG ad i,so)]
    |none=>[])++r,b)
noncomputable def j7(T:BT)(ad:cX)(B:!Rd):!(!Bi)->!Rd×!Rd
 |[]=>([],B)
 |i::l=>match dU T ad B i with
  |(r,c)=>match j7 T ad c l with
   |(rs,b)=>(r::rs,b)
noncomputable def u3:!Bi->!Nat
 |[]=>[]
 |.l i::l=>i::u3 l
 |.b _::l=>u3 l
 |.k i _ _::l=>i::u3 l
noncomputable def wu:!Bi->!(Nat×AL×SO)
 |[]=>[]
 |.l _::l=>wu l
 |.b _::l=>wu l
 |.k i a so::l=>(i,a,so)::wu l
noncomputable def qO:!(!Bi)->!(Nat×AL×SO)
 |[]=>[]
 |i::l=>wu i++qO l
noncomputable def ze(T:BT):!(Nat×AL×SO)->!(Option Obj)
 |[]=>[]
 |q::l=>T.get q.1::ze T l
noncomputable def zf(W:Nat->aQ):!(Nat×AL×SO)->!(Option Obj)
 |[]=>[]
 |q::l=>Y (jY ((W q.1).p q.2.1) ((W q.1).e q.2.1) q.2.2)::zf W l
noncomputable def oT:!(!Bi)->!Nat
 |[]=>[]
 |i::l=>u3 i++oT l
set_option genInjectivity true in
set_option genCtorIdx true in
inductive RO where
 |c (so:SO)
 |k (o:Obj)
noncomputable def lu(T:BT)(ad:cX):!Nat->!Bool->Option (List<|AL×RO)
 |i::l,b::B=>match T.get i with
  |some o=>(lu T ad l B).map ((bG ad i,match b with|true=>.k o|false=>.c<|rd o)::·)
  |none=>As
 |[],[]=>Y []
 |_,_=>As
noncomputable def qj(W:Nat->aQ):!Nat->!Bool->Rd->!(AL×RO)
 |i::l,b::B,q::r=>(q.1,match b with|true=>.k (jY ((W i).p q.1) ((W i).e q.1) q.2)|false=>.c q.2)::qj W l B r
 |_,_,_=>[]
noncomputable def wv(_:SO):Bool:=J
noncomputable def xF:!(Nat×AL×SO)->Bool
 |[]=>J
 |q::l=>match wv q.2.2 with
  |true=>xF l
  |false=>O
noncomputable def xG:!Bool->Rd->Bool
 |b::B,q::r=>(match b with|true=>wv q.2|false=>J)&&xG B r
 |[],[]=>J
 |_,_=>O
noncomputable def qP(i:Nat):!Nat->Bool
 |[]=>O
 |j::l=>match CD i j with
  |true=>J
  |false=>qP i l
noncomputable def u5:!Nat->Bool
 |[]=>J
 |i::l=>match qP i l with
  |true=>O
  |false=>u5 l
noncomputable def zg(c d:Nat):Bool:=match d with
 |0=>J
 |d+1=>match c with
  |0=>O
  |c+1=>DW (c+611)<|d+1
def arf(W:Nat->aQ)(ix:!Nat)(n:Nat)(x:aQ)(i:Nat):aQ:=match qP i ix with
 |true=>x
 |false=>match DW n i with
  |true=>x
  |false=>W i
def arh:EE->Bool
 |.again _=>O
 |_=>J
def stF(C:X)(ix:!Nat)(ks:!Bool)(bx:List<|!Bi)(y:aW):Bool:=u5 (ix++oT bx)&&(CD ix.length (C.led y).length&&(CD (C.post y).length C.pre.length&&(CD (C.al y).length (C.ao y).length&&(xG ks (C.led y)&&(arh (C.ab y)&&xF (qO bx))))))
noncomputable def ari(C D:X):Nat:=match D.rcs with
 |none=>C.ai
 |some _=>match D.sm with
  |true=>C.ai
  |false=>C.ai+5
noncomputable def arj(C D:X):Nat:=match D.rcs with
 |none=>0
 |some _=>C.rcs.getD 0
noncomputable def ark(D:X):Nat:=match D.rcs with
 |none=>0
 |some n=>match D.sm with
  |true=>n
  |false=>n+1
def stU(C D:X)(κ:Kn)(ix:!Nat)(ks:!Bool):Bool:=u5 ix&&(CD ix.length D.pre.length&&(xG ks D.pre&&(DW (dB κ+D.ai) (ari C D)&&zg C.un D.un)))
set_option genInjectivity true in
set_option genCtorIdx true in
inductive NL where
 |done (e:EE) (r:Option !(AL×RO)) (b:!Rd) (st:Bool) (qs:!Prop) (os:!(AL×Obj)) (l:!AL) (kb:!(Option Obj))
 |az (sh:aQ->lL) (c:EC) (nf:!Env) (hd:Option AF) (rc:Nat) (r:Option !(AL×RO)) (b:!Rd) (st:Bool) (qs:!Prop) (os:!(AL×Obj)) (l:!AL) (next:aQ->NL)
 |stk (next:Pos->!(BC×Pos)->NL)
 |alt (a b:NL)
 |fail (k:Nat)
 |no
noncomputable def gy(C:X):Nt->aQ->!(AL×Obj)->(Nat->aQ)->!Rd->co->NL
 |.fin _ I h d y _,_,_,_,B,.done e T _ ad _ i qs=>.done (ajv e) (lu T ad I h) (j7 T ad B d).1 (stF C I h d y) (wn qs) (wr qs) (i.map (·.1)) (ze T<|qO d)
 |.use _ D _ I h d _ nx,_,_,W,B,.az j c κ T n ad _ i qs next=>.az j (eV c) (iZ κ++C.fr) (cQ C.hd κ) (arj C D) (lu T ad I h) (dC B d).1 (stU C D κ I h) (wn qs) (wr qs) (i.map (·.1)) λx=>gy C (nx x) x [] (arf W I n x) (lU d (D.af x.y) (dC B d).2)<|next x
 |.stk nx,c,os,W,B,.stk next=>.stk λp b=>gy C nx c os W B<|next p b
 |.alt _ a b,c,os,W,B,.alt x y=>.alt (gy C a c os W B x)<|gy C b c os W B y
 |.ob ns a so nx,c,os,W,B,v=>gy C nx c (xE ns (a,xC c a so) os) W B v
 |.cx nx,c,os,W,B,v=>gy C (nx c) c os W B v
 |_,_,_,_,_,.fail k=>.fail k
 |_,_,_,_,_,_=>.fail 100
noncomputable def gz(C:X):Nt->aQ->!(AL×Obj)->(Nat->aQ)->co->NL
 |.fin _ I h B y qs,_,os,W,.done _ _ _ _ _ d _=>.done (C.ab y) (Y<|qj W I h<|C.led y) (C.af y) J qs os (d.map (·.2))<|zf W<|qO B
 |.use _ D N I h _ qs nx,_,os,W,.az _ _ κ _ n _ _ d _ next=>.az (wm D I) D.ec (N.getD<|iZ κ++C.fr) D.hd (ark D) (Y<|qj W I h D.pre) D.aj J qs os (d.map (·.2)) λx=>gz C (nx x) x [] (arf W I n x)<|next x
 |.stk nx,c,os,W,.stk next=>.stk λp b=>gz C nx c os W<|next p b
 |.alt _ a b,c,os,W,.alt x y=>.alt (gz C a c os W x)<|gz C b c os W y
 |.ob ns a so nx,c,os,W,v=>gz C nx c (xE ns (a,xC c a so) os) W v
 |.cx nx,c,os,W,v=>gz C (nx c) c os W v
 |_,_,_,_,_=>.no
noncomputable def bW:!Prop->Prop
 |[]=>True
 |q::l=>q/\bW l
noncomputable def Nt.Pure(w:AW)(l:Option<|!Env)(C:X):Nt->!Rd->Prop
 |.fin _ _ _ _ y qs,_=>bW qs/\C.pure y
 |.use _ D nf _ _ bx qs nx,B=>A3 (bW qs) (match nf with|none=>D.Holds w|some fr=>D.aq w fr l) (∀x:aQ,D.pure x.y->(nx x).Pure w l C (lU bx (D.af x.y) (dC B bx).2))
 |.stk nx,B=>nx.Pure w l C B
 |.alt _ a b,B=>a.Pure w l C B\/b.Pure w l C B
 |.ob _ a so nx,B=>(a,so)∈B.flatten/\nx.Pure w l C B
 |.cx nx,B=>∀x,(nx x).Pure w l C B
def j8 t x:aC (x.val t)=x:=by induction x<;>rfl
def ais p:∀(l:!SV)(i:Nat),(lQ p i l).map aC=l:=by
 cases _ with
 |nil=>intro _;rw[rfl]
 |cons x l I=>intro i;show aC (x.val _)::_=_;rw[j8,I]
def ait p:∀(l:List<|Option SV)(i:Nat),(hw p i l).map (CS aC)=l:=by
 cases _ with
 |nil=>intro _;rw[rfl]
 |cons x l I=>
  intro i;show(x.map _).map aC::_=_;rw[I,Option.map_map];cases x with
  |none=>rfl
  |some v=>rw[Z8 (Y ·::l)<|j8 _ v]
def aiu p:∀(l:List<|SV×SV)(i:Nat),(iA p i l).map (λe=>(aC e.key,aC e.val))=l:=by
 cases _ with
 |nil=>intro _;rw[rfl]
 |cons q l I=>intro i;show(aC<|q.1.val _,aC<|q.2.val _)::_=_;rw[j8,j8,I]
def rd2(c:AF)(es:Array B5)(n:Nat)(sl:List<|Option AF):rd ⟨c,As,.dict es n,sl.toArray⟩=.nss c (es.toList.map λe=>(aC e.key,aC e.val)) (sl.map<|CS aC):=rfl
def arl:SO->Prop
 |.dct ..=>False
 |.am _=>False
 |_=>True
def ajR(p:Pk)(n:Nat)(h:wv so=J)(H:arl so):rd (jY p n so)=so:=by
 clear h;cases so with
 |seq c x=>rw[(rfl).trans<|Z8 (SO.seq c)<|ais p x 0]
 |nss c b M=>rw[(rd2 c (iA p 0 b).toArray n<|hw p b.length M).trans<|(Z8 (λz=>SO.nss c z _)<|aiu p b 0).trans<|Z8 (SO.nss c b)<|ait p M b.length]
 |inst c d M=>rw[(rfl).trans<|Z8 (SO.inst c d)<|ait p M 0]
 |fld c vs=>rw[(rfl).trans<|Z8 (SO.fld c)<|ais p vs 0]
 |cell c v=>
  clear H;cases v with
  |none=>rfl
  |some v=>rw[(rfl).trans<|Z8 (λv=>SO.cell c<|Y v)<|j8 _ v]
 |am o=>rw[H.elim]
 |dct=>rw[H.elim]
def ael(p:Pk)(n:Nat)(h:wv so=J):so.is<|jY p n so:=by
 cases so with
 |dct c b ep=>rw[((rd2 c (iA p 0 b).toArray ep []).trans<|Z8 (λz=>SO.nss c z [])<|aiu p b 0,_,rfl)]
 |am o=>rw[rfl]
 |_=>rw[fF<|ajR p n h Z9]
def agA{T:BT}{ad:cX}{b:Bool}:lu T ad (i::ix) (b::ks)=match T.get i with
 |some o=>(lu T ad ix ks).map ((bG ad i,match b with|true=>.k o|false=>.c<|rd o)::·)
 |none=>As:=rfl
def aag{T:BT}{ad:cX}{W:Nat->aQ}{ix:!Nat}:∀{ks:!Bool}{r:Rd},lu T ad ix ks=Y (qj W ix ks r)->ix.length=r.length->xG ks r=J->lr T ad ix r:=by
 cases ix with
 |nil=>intro ks r _ h _;cases CX h.symm;rw[Z9]
 |cons i ix I=>
  intro ks r h c H;let(q,r,rfl):=C9 c.symm;cases ks using A8 with
  |nil=>rw[nomatch H]
  |cons b ks=>
   let h:=agA.symm.trans h;cases e:T.get i with
   |none=>rw[e]at h;cases h
   |some o=>
    rw[e]at h;let(l,m,d):=Bj.mp h;let(j,n):=DF d;let(w,x):=iD H;let(A,k):=DV j;rw[(⟨o,e,A.symm,?_⟩,I (n▸m) (Cj c) x)];clear h d j H;cases b with
    |false=>rw[fF<|RO.c.inj k]
    |true=>rw[RO.k.inj k,];rw[ael _ _ w]
abbrev cn(a:AL)(r:Rd):Nat:=(aH r).count a
def a9 a r q:cn a (r++q)=cn a r+cn a q:=by rw[<-AQ];rw[Z8 _ AE]
def eI a r B:cn a (r::B).flatten=cn a r+cn a B.flatten:=by rw[IT,a9]
theorem get_set a:∀(B:!Rd)(i:Nat),cn a (j6 B i)+cn a (dL B i []).flatten=cn a B.flatten
 |[],_=>rfl
 |r::B,0=>by show cn a r+cn a ([]::B).flatten=_;rw[eI,eI];show _+(0+_)=_;rw[Bh,]
 |r::B,i+1=>by show cn a (j6 B i)+cn a (r::dL B i []).flatten=_;rw[eI,eI,Nat.add_left_comm,get_set a B i]
theorem aem a q:∀(B:!Rd)(i:Nat),cn a (dL B i q).flatten<=cn a q+cn a B.flatten
 |[],_=>Bd _
 |r::B,0=>by show cn a (q::B).flatten<=_;rw[eI,eI];rw[aD [cn a q,cn a B.flatten,cn a r] 19061132312576]
 |r::B,i+1=>by show cn a (r::dL B i q).flatten<=_;rw[eI,eI];rw[ath<|aem a q B i]
theorem ab1 a:∀(l:!Nat)(B:!Rd),cn a (gP B l).1+cn a (gP B l).2.flatten=cn a B.flatten
 |[],B=>Bh _
 |[i],B=>get_set a B i
 |i::j::l,B=>by let g:=get_set a B i;show cn a (j6 B i++(gP (dL B i [])<|j::l).1)+cn a (gP (dL B i [])<|j::l).2.flatten=_;rw[a9,];rw[alT (ab1 a (j::l)<|dL B i []) g]
def aen a:∀(l:List<|!Nat)(B:!Rd),cn a (dC B l).1.flatten+cn a (dC B l).2.flatten=cn a B.flatten:=by
 cases _ with
 |nil=>intro B;rw[Bh _]
 |cons i l I=>intro B;let g:=ab1 a i B;refine_lift let C:=dC (gP B i).2 l;?_;show cn a ((gP B i).1::C.1).flatten+cn a C.2.flatten=_;rw[eI,];rw[alT (I (gP B i).2) g]
theorem lV a:∀(bx:List<|!Nat)(os B:!Rd),cn a (lU bx os B).flatten<=cn a os.flatten+cn a B.flatten
 |[],os,B=>by show cn a (B++os).flatten<=_;rw[Eo,a9];rw[AY (DB ..)]
 |_::_,[],B=>BI _ _
 |[]::bx,o::os,B=>by let i:=lV a bx os<|B++[o];rw[Eo,a9,eI]at i;rw[eI,];rw[ati i rfl]
 |(j::_)::bx,o::os,B=>by let g:=aem a o B j;rw[eI,];rw[atj (lV a bx os<|dL B j o) g]
def jx:∀{B:!Rd}{i:Nat},q∈j6 B i->q∈B.flatten:=by
 cases _ with
 |nil=>intro _ h;cases h
 |cons r B I=>
  cases _ using BE with
  |zero=>intro h;rw[Ao _ h]
  |succ i=>intro h;rw[Aq _<|I (i:=i) h]
def ab2:∀{B:!Rd}{i:Nat},q∈(dL B i r).flatten->q∈r\/q∈B.flatten:=by
 cases _ with
 |nil=>intro _ h;cases h
 |cons p B I=>
  cases _ using BE with
  |zero=>intro h;rw[(AB.mp h).imp id<|Aq _]
  |succ i=>intro h;rw[(AB.mp h).elim (λm=>.inr<|Ao _ m) λm=>(I (i:=i) m).imp id<|Aq _]
def gf(h:q∈(dL B i []).flatten):q∈B.flatten:=(ab2 h).elim (λm=>nomatch m) id
theorem aa2:∀{l:!Nat}{B:!Rd},(q∈(gP B l).1->q∈B.flatten)/\(q∈(gP B l).2.flatten->q∈B.flatten)
 |[],B=>⟨(λh=>nomatch h),id⟩
 |[i],B=>⟨jx,gf⟩
 |i::j::l,B=>by let(H,e):=aa2 (q:=q) (l:=j::l) (B:=dL B i []);rw[(λh=>(AB.mp (show q∈j6 B i++(gP (dL B i [])<|j::l).1 from h)).elim jx λm=>gf<|H m,λh=>gf<|e h)]
theorem iI:∀{l:List<|!Nat}{B:!Rd},(q∈(dC B l).1.flatten->q∈B.flatten)/\(q∈(dC B l).2.flatten->q∈B.flatten)
 |[],B=>⟨(λh=>nomatch h),id⟩
 |i::l,B=>by let(H,b):=iI (q:=q) (l:=l) (B:=(gP B i).2);let(d,e):=aa2 (q:=q) (l:=i) (B:=B);rw[(λh=>(AB.mp (show q∈(gP B i).1++(dC (gP B i).2 l).1.flatten from h)).elim d λm=>e<|H m,λh=>e<|b h)]
def aa3:∀{bx:List<|!Nat}{os B:!Rd},q∈(lU bx os B).flatten->q∈os.flatten\/q∈B.flatten:=by
 cases _ with
 |nil=>intro os B h;let h:q∈(B++os).flatten:=h;rw[Eo]at h;rw[(AB.mp h).symm]
 |cons i bx I=>
  cases _ using A8 with
  |nil=>intro B h;rw[.inr h]
  |cons o os=>
   intro B h;rcases I h with m|m
   .rw[.inl<|Aq _ m]
   .clear h;cases i using A8 with
    |nil=>let m:=m;rw[Eo]at m;rw[(AB.mp m).symm.imp (λm=>?_) id];rw[IT,I7,Az]at m;rw[Ao _ m]
    |cons j _=>rw[(ab2 (show q∈(dL B j o).flatten from m)).imp (Ao _) id]
def aay{T:BT}{ad:cX}{q:AL×SO}{f:Obj->SO}{R:Rd}{Q:Prop}(C:∀o,T.get i=Y o->q.1=bG ad i->q.2=f o->Q)(l:q∈R->Q)(h:q∈(match T.get i with|some o=>[(bG ad i,f o)]|none=>[])++R):Q:=by
 rcases AB.mp h with m|m
 .clear h l;cases e:T.get i with
  |none=>rw[e]at m;rw[nomatch m]
  |some o=>rw[e]at m;cases Au.mp m;rw[C o e rfl rfl]
 .rw[l m]
def ac7{T:BT}{ad:cX}{q:AL×SO}{l:!Bi}:∀{B:!Rd},(q∈(dU T ad B l).1->q∈B.flatten\/∃i∈u3 l,∃o,A3 (T.get i=Y o) (q.1=bG ad i) (q.2=rd o\/∃a,(i,a,q.2)∈wu l))/\(q∈(dU T ad B l).2.flatten->q∈B.flatten):=by
 cases l with
 |nil=>rw[((λh=>nomatch h),id)]
 |cons b l I=>
  intro B;cases b with
  |b i=>
   cases l using A8 with
   |nil=>rw[(λh=>.inl<|jx h,gf)]
   |cons j l=>let(H,c):=I (B:=dL B i []);rw[(λh=>(AB.mp (show q∈j6 B i++(dU T ad (dL B i [])<|j::l).1 from h)).elim (λm=>.inl<|jx m) λm=>(H m).imp gf id,λh=>gf<|c h)]
  |l i=>let(H,c):=I (B:=B);rw[(λh=>aay (λo e Q d=>.inr ⟨i,aE,o,e,Q,.inl d⟩) (λm=>(H m).imp id ?_) h,c)];rintro⟨k,n,z⟩;rw[(k,.tail _ n,z)]
  |k i A so=>let(H,c):=I (B:=B);rw[(λh=>aay (λo e Q d=>.inr ⟨i,aE,o,e,Q,.inr ⟨A,d▸aE⟩⟩) (λm=>(H m).imp id ?_) h,c)];rintro⟨k,n,o,E,r,w⟩;rw[(k,.tail _ n,o,E,r,w.imp id λ⟨a,z⟩=>⟨a,.tail _ z⟩)]
def ac8{T:BT}{ad:cX}{q:AL×SO}:∀{l:List<|!Bi}{B:!Rd},q∈(j7 T ad B l).1.flatten->q∈B.flatten\/∃i∈oT l,∃o,A3 (T.get i=Y o) (q.1=bG ad i) (q.2=rd o\/∃a,(i,a,q.2)∈qO l):=by
 cases _ with
 |nil=>intro B h;cases h
 |cons i l I=>
  intro B h;let(d,G):=ac7 (T:=T) (ad:=ad) (q:=q) (l:=i) (B:=B);rcases AB.mp (show q∈(dU T ad B i).1++(j7 T ad (dU T ad B i).2 l).1.flatten from h)with m|m
  .rw[(d m).imp id λ⟨k,b,o,e,E,c⟩=>⟨k,Ao _ b,o,e,E,c.imp id λ⟨a,z⟩=>⟨a,Ao _ z⟩⟩]
  .rw[(I m).imp G λ⟨k,b,o,e,E,c⟩=>⟨k,Aq _ b,o,e,E,c.imp id λ⟨a,z⟩=>⟨a,Aq _ z⟩⟩]
noncomputable def cl(T:BT)(ad:cX)(a:AL):!Nat->Nat
 |[]=>0
 |i::l=>(match T.get i with|some _=>(if bG ad i=a then 1 else 0)|none=>0)+cl T ad a l
def aeo T ad a:∀(l m:!Nat),cl T ad a (l++m)=cl T ad a l+cl T ad a m:=by
 cases _ with
 |nil=>intro m;rw[(Bh _).symm]
 |cons i l I=>intro m;show _+cl T ad a (l++m)=_;rw[I m,<-Ew];rfl
def aa4{T:BT}{ad:cX}{a:AL}{f:Obj->SO}{R:Rd}(I:cn a R+x=y+z):cn a ((match T.get i with|some o=>[(bG ad i,f o)]|none=>[])++R)+x=y+((match T.get i with|some _=>(if bG ad i=a then 1 else 0)|none=>0)+z):=by
 rw[a9,];rw[atl I ?_];cases T.get i with
 |none=>rfl
 |some o=>
  show BO a [bG ad i]=if bG ad i=a then 1 else 0
  by_cases q:bG ad i=a
  .rw[Z0 q,q,Dv]
  .rw[Z7 q,List.count_eq_zero];rw[λm=>q (Au.mp m).symm]
def aep{T:BT}{ad:cX} a l:∀(B:!Rd),cn a (dU T ad B l).1+cn a (dU T ad B l).2.flatten=cn a B.flatten+cl T ad a (u3 l):=by
 cases l with
 |nil=>rw[λB=>(Bh _)]
 |cons b l I=>
  intro B;cases b with
  |b i=>
   cases l using A8 with
   |nil=>rw[get_set a B i]
   |cons j l=>rw[(Z8 (·+_)<|a9 _ _ _).trans ?_];rw[atk (I<|dL B i [])<|get_set a B i]
  |l i=>rw[aa4<|I B]
  |k i _ so=>rw[aa4 (f:=λQ=>so)<|I B]
def arm:∀{l:List<|Nat×AL×SO},ze T l=zf W l->xF l=J->∀i a so o,(i,a,so)∈l->T.get i=Y o->so.is o:=by
 cases _ with
 |nil=>intro _ _ _ _ _ _ h _;rw[nomatch h]
 |cons q l I=>
  intro h H i a so o m e;let(c,d):=DF h;unfold xF at H;clear h;cases b:wv q.2.2 with
  |false=>rw[b]at H;rw[nomatch H]
  |true=>
   rw[b]at H;rcases Ar.mp m with rfl|m
   .rw[e]at c;clear e m;cases B3 c;rw[ael _ _ b]
   .rw[I d H i a so o m e]
theorem aa5{T:BT}{ad:cX} a:∀(l:List<|!Bi)(B:!Rd),cn a (j7 T ad B l).1.flatten<=cn a B.flatten+cl T ad a (oT l)
 |[],B=>Bd _
 |i::l,B=>by let I:=aa5 (T:=T) (ad:=ad) a l (dU T ad B i).2;let g:=aep (T:=T) (ad:=ad) a i B;show cn a ((dU T ad B i).1::(j7 T ad (dU T ad B i).2 l).1).flatten<=cn a B.flatten+cl T ad a (u3 i++oT l);rw[eI,aeo];rw[atm I g]
def aa6{T:BT}{ad:cX} a:∀{ix:!Nat}{r:Rd},lr T ad ix r->cn a r=cl T ad a ix:=by
 cases _ with
 |nil=>
  cases _ with
  |nil=>intro _;rw[rfl]
  |cons _ _=>intro h;rw[h.elim]
 |cons i ix I=>
  cases _ with
  |nil=>intro h;rw[h.elim]
  |cons c r=>
   rintro⟨⟨o,e,E,_⟩,l⟩;let I:=I l;show BO a (c.1::aH r)=(match T.get i with|some _=>(if bG ad i=a then 1 else 0)|none=>0)+cl T ad a ix;rw[e,B4,E];let I:BO a (aH r)=cl T ad a ix:=I;rw[I,];by_cases q:bG ad i=a
   .rw[Z0 q,Z0<|beq_iff_eq.mpr q,DB]
   .rw[Z7 q,Z7 λz=>q<|beq_iff_eq.mp z,Bp,Bh]
def agB:∀{l:!Nat},qP i l=O->i∉l:=by
 cases _ with
 |nil=>intro _;rw[λh=>nomatch h]
 |cons j l I=>
  intro h;unfold qP at h;cases e:CD i j with
  |true=>rw[e]at h;rw[nomatch h]
  |false=>
   rw[e]at h;intro m;rcases Ar.mp m with m|m
   .subst m;rw[Ka]at e;rw[nomatch e]
   .rw[I h m]
def aeq:∀{l:!Nat},u5 l=J->l.Nodup:=by
 cases _ with
 |nil=>intro _;rw[AS]
 |cons i l I=>
  intro h;unfold u5 at h;cases e:qP i l with
  |true=>rw[e]at h;rw[nomatch h]
  |false=>rw[e]at h;rw[AC.mpr ⟨agB e,I h⟩]
def aiv{V:Cx}{S:Su}{h:CF}{T:BT}{n:Nat}{ad:cX}(D:f9 V S h T n ad)(a:AL):∀{l:!Nat},l.Nodup->cl T ad a l<=1/\(cl T ad a l≠0->∃i∈l,∃o,T.get i=Y o/\bG ad i=a):=by
 cases _ with
 |nil=>intro _;rw[(Bd _,λh=>ZZ rfl h)]
 |cons i l I=>
  intro nd;let(N,m):=AC.mp nd;let(H,b):=I m;show(match T.get i with|some _=>(if bG ad i=a then 1 else 0)|none=>0)+cl T ad a l<=1/\((match T.get i with|some _=>(if bG ad i=a then 1 else 0)|none=>0)+cl T ad a l≠0->_);let d:cl T ad a l≠0->∃j∈i::l,∃o,T.get j=Y o/\bG ad j=a:=λq=>by let(j,c,z):=b q;rw[(j,.tail _ c,z)]
  cases e:T.get i with
  |none=>dsimp only;rw[Bh,];rw[(H,d)]
  |some o=>
   dsimp only;by_cases q:bG ad i=a
   .rw[Z0 q,];rw[(?_,λx=>⟨i,aE,o,e,q⟩)];by_cases z:cl T ad a l=0
    .rw[z,];rw[AA _]
    .let(j,c,r,E,Q):=b z;have:=D.inj _ _ _ _ e E<|q.trans Q.symm;clear e E Q;subst this;rw[ZZ c N]
   .rw[Z7 q,Bh];rw[(H,d)]
def j9(h:∀a,cn a r<=1):(aH r).Nodup:=Ek.mpr h
def eJ(h:(aH r).Nodup) a:cn a r<=1:=Ek.mp h a
def ba:a∈aH r<->0<cn a r:=BR.symm
noncomputable def ng(C:X)(l:Option<|!Env)(A:CB)(s:AJ)(h₀:CF)(ρ:AL->Prop):Su:=⟨s.heap,λb=>C.own b\/oa l b,h₀,ρ,A,C.ax l s,s.gens,s.drawn,s.os⟩
structure ka(w:AW)(C:X)(l:Option<|!Env)(A:CB)(s:AJ)(h₀:CF)(ρ:AL->Prop)(B:!Rd)(cx:aQ):Prop where
 made:∀a o,h₀.get? a=Y o->o=xC cx a (rd o)
 ai:A.depth+C.dt<jc
 un:C.un=0\/A.units<=C.un
 fs:∀l',l=Y l'->A.frames=Y (C.fr++l')
 af:∀a,C.own a\/oa l a->(fD w.params).get a=As
 big:902<=s.heap.objs.size
 up:∀b,ρ b->b<h₀.objs.size
 rho:∀b,ρ b->C.own b\/s.heap.objs.size<=b
 nd:∀a,cn a B.flatten<=1
 hs:∀q∈B.flatten,Rg h₀ ρ q.1 q.2
 bo:∀a∈aH B.flatten,a∈aH C.aj.flatten\/s.heap.objs.size<=a
 ff:tF l s.heap h₀
 fd:∀b,oa l b->A3 (¬ρ b) (¬C.own b) (b<s.heap.objs.size)
 cd:∀b∈aH C.pre,b∉aH C.aj.flatten
def d8(C:X)(lp:(C.post y).length=C.pre.length)(ln:(C.al y).length=(C.ao y).length):aH (C.led y)=aH C.pre++C.ao y:=by delta X.led aH;rw[AE,];let b:=abK (as:=C.pre.map (·.1)) (l:=C.post y) (by rw[lp,Ap]);let I:=abK (as:=C.ao y) (l:=C.al y) ln;rw[congr (Z8 _ b) I]
section
variable{ad:cX}
def ka.base(I:ka w C l A s h₀ ρ B cx)(c:lM (VW w C.hd)<|ng C l A s h₀ ρ)(R:f9 (VW w C.hd) (ng C l A s h₀ ρ) h T n ad)(e:s.heap.get? b=Y o)(q:¬(C.own b\/oa l b)):h.get? b=Y o:=by
 rw[R.keep b o (c.keepB b o e q) λz=>?_]
 rcases I.rho b z with m|m
 .rw[q<|.inl m]
 .rw[ZZ (AP e)<|AX.mpr m]
def ka.fr(I:ka w C l A s h₀ ρ B cx)(R:f9 (VW w C.hd) (ng C l A s h₀ ρ) h T n ad):tF l s.heap h:=by
 let k:=λb H o e=>R.keep b o e (I.fd b H).1
 rw[(λl' c=>aaU (I.ff.f l' c) λb H o e=>⟨o.slots,k b ⟨l',c,H⟩ o e⟩,λb H o e=>by
  let(M,E):=I.ff.s b H o e
  rw[(M,k b H _ E)])]
def tF.trans(a:tF l h h')(b:tF l h' H):tF l h H:=⟨b.f,λc d o e=>by
 let(r,E):=a.s c d o e;let(w,i):=b.s c d _ E
 rw[(w,i)]⟩
def ka.aj(I:ka w C l A s h₀ ρ B cx)(R:f9 (VW w C.hd) (ng C l A s h₀ ρ) h T n ad)(m:q∈B.flatten):A3 (∃o,h.get? q.1=Y o/\q.2.is o) (q.1<h₀.objs.size)<|¬ρ q.1:=by let(o,a,b,c):=I.hs q m;rw[(⟨o,R.keep _ _ a c,b⟩,AP a,c)]
def ac9(I:ka w C l A s h₀ ρ B cx)(k:lM (VW w C.hd)<|ng C l A s h₀ ρ)(R:f9 (VW w C.hd) (ng C l A s h₀ ρ) h T n ad)(er:a0 r=C.ab y)(e:lr T ad ix<|C.led y)(eb:(j7 T ad B bx).1=C.af y)(hk:∀i a so o,(i,a,so)∈qO bx->T.get i=Y o->so.is o)(nd:u5 (ix++oT bx)=J)(lp:(C.post y).length=C.pre.length)(ln:(C.al y).length=(C.ao y).length)(pu:C.pure y)(t:Nat):C.ax l s r ⟨h,s.gens,s.drawn,t,s.os⟩:=by
 let L:s.heap.objs.size<=h₀.objs.size:=k.low;let(a1,a2,a3):=aaP e
 let d:∀q∈(C.af y).flatten,(∃o,h.get? q.1=Y o/\q.2.is o)/\(C.own q.1\/s.heap.objs.size<=q.1):=λq H=>by
  rw[<-eb]at H;rcases ac8 H with m|⟨i,_,o,j,E,N⟩
  .rw[((I.aj R m).1,(I.bo _<|Av m).imp .inr id)]
  .let(_,g1,_,G):=R.own i o j;rw[E,];rw[(⟨o,g1,N.elim (λz=>fF z.symm) λ⟨a,z⟩=>hk i a _ o z j⟩,G.elim (I.rho _) λz=>.inr<|Ax L z)]
 let cnt:∀a,cn a (C.led y++(C.af y).flatten)<=1:=λa=>by
  let M:=aa6 a e;let Q:=aa5 (T:=T) (ad:=ad) a bx B;let(c3,c4):=aiv R a<|aeq nd;rw[aeo]at c3 c4;rw[a9,];rw[eb]at Q;by_cases z:cl T ad a ix+cl T ad a (oT bx)=0
  .rw[atn M Q (I.nd a) z]
  .let(i,_,o,j,rfl):=c4 z;let(_,_,_,G):=R.own i o j
   have:cn (bG ad i) B.flatten=0:=BM λp=>by
    let(q,H,e):=AM.mp<|ba.mpr p;let(_,b1,b2):=I.aj R H;rw[e]at b1 b2;rcases G with G|G
    .rw[b2 G]
    .rw[ZZ b1<|AX.mpr G]
   rw[ato M Q c3 this]
 let el:=d8 C lp ln;rw[(⟨λb o g q=>I.base k R g q,Ax L R.grow,rfl,rfl,rfl⟩,I.fr R,y,er,lp,ln,λq H=>?_,j9 cnt,λa x=>?_,λa x=>?_,pu)]
 .rcases AB.mp H with H|H
  .let(i,_,o,j,E,N):=a1 q H;rw[(o,by rw[E,];rw[(R.own i o j).2],N)]
  .rw[(d q H).1]
 .let V:a∈aH (C.led y):=by rw[el,];rw[Aq _ x]
  let(q,H,rfl):=AM.mp V;let(i,_,o,j,E,_):=a1 q H;rw[E]at x ⊢;rcases(R.own i o j).4 with g|g
  .rcases I.rho _ g with(m|m)|m
   .let c:=cnt<|bG ad i;let M:cn (bG ad i) (C.led y)=(aH C.pre).count (bG ad i)+(C.ao y).count (bG ad i):=by show(aH<|C.led y).count _=_;rw[el,AQ]
    rw[a9]at c;let p2:=BR.mpr x;rw[(uF c M (BR.mpr m) p2).elim]
   .rw[.inl m]
   .rw[.inr m]
  .rw[.inr<|Ax L g]
 .let(q,H,rfl):=AM.mp x;rw[(d q H).2]
end
def X.Holds.at{w:AW}{D:X}(H:D.Holds w)(fr:!Env)(l:Option<|!Env):D.aq w fr l:=by
 intro A c s n;let N:∀b,¬oa As b:=by rintro b ⟨_,e,_⟩;rw[nomatch e]
 rw[BK (H A c s ⟨n.ec,n.hd,(λQ e=>nomatch e),n.ai,n.un,n.St,n.hs,n.nd,λa i=>i.elim (λm=>n.af a<|.inl m) λm=>(N a m).elim,λQ e=>nomatch e⟩) ?_];rintro r x ⟨j,_,y,P⟩;rw[(j.mono λb h Q=>h.elim .inl λm=>(N b m).elim,?_,y,P)];let k:∀b,oa l b->∀o,s.heap.get? b=Y o->x.heap.get? b=Y o:=by rintro b ⟨L,d,h⟩ o e;rw[j.keep b o e λm=>m.elim ((n.ff L d).2 b h)<|N b]
 rw[(λL d=>aaU (n.ff L d).1 λb h o e=>⟨o.slots,k b ⟨L,d,h⟩ o e⟩,λb h o e=>⟨o.slots,k b h o e⟩)]
def ajS(h:zg c d=J)(H:c=0\/u<=c)(x:v<=u+610):d=0\/v<=d:=by
 cases d using BE with
 |zero=>rw[.inl rfl]
 |succ d=>cases c using BE with
  |zero=>cases h
  |succ c=>
   rcases H with H|H
   .cases H
   .rw[.inr<|atp x (Cf h) H]
section
variable{ad:cX}
def aby(I:ka w C l A s h₀ ρ B cx)(k:lM (VW w C.hd)<|ng C l A s h₀ ρ)(R:f9 (VW w C.hd) (ng C l A s h₀ ρ) h T n ad)(K:gE κ)
  (hD:D.aq w (iZ κ++C.fr) l)(ec:eV c=D.ec)(hd:cQ C.hd κ=D.hd)(e:lr T ad ix D.pre)(eb:(dC B bx).1=D.aj)(nd:u5 ix=J)(il:ix.length=D.pre.length)(dp:dB κ+D.dt<=C.dt)(un:zg C.un D.un=J):
  Be (MM w) (aN A κ) c (λr j=>∃x,A3 (gZ (VW w C.hd) (ng C l A s h₀ ρ) T n ad h (wm D ix x) r j) (D.pure x.y)<|ka w C l A s j.heap ((ng C l A s h₀ ρ).re h j.heap<|wm D ix x).ρ (lU bx (D.af x.y) (dC B bx).2) x) ⟨h,s.gens,s.drawn,t,s.os⟩:=by
 let L:s.heap.objs.size<=h₀.objs.size:=k.low;let big:902<=h.objs.size:=Ax (Ax I.big L) R.grow;let nix:=aeq nd;let(a1,a2,a3):=aaP e;let pm:∀b∈aH D.pre,A3 (ρ b\/h₀.objs.size<=b) ((fD w.params).get b=As)<|b<h.objs.size:=λb H=>by let(q,d,rfl):=AM.mp H;let(i,_,o,ho,e1,_):=a1 q d;rw[e1,];let(_,g1,g2,g3):=R.own i o ho;rw[(g3,g2,AP g1)]
 let bsub:∀q∈D.aj.flatten,q∈B.flatten:=λq d=>iI.1 (by rw[eb,];rw[d])
 let Q:∀b∈aH D.aj.flatten,b∈aH B.flatten:=λb H=>by let(q,d,rfl):=AM.mp H;rw[Av<|bsub q d]
 let Bm:∀b∈aH B.flatten,b<h₀.objs.size/\¬ρ b:=λb H=>by let(q,d,rfl):=AM.mp H;rw[((I.aj R d).2,(I.aj R d).3)]
 let dj:∀b∈aH D.pre,b∉aH B.flatten:=λb H m=>(pm b H).1.elim (Bm b m).2 λz=>ZZ (Bm b m).1 (AX.mpr z)
 let ue:∀b,D.own b->C.own b\/s.heap.objs.size<=b:=λb H=>by
  rcases H with H|H
  .rcases(pm b H).1 with m|m
   .rw[I.rho b m]
   .rw[.inr<|Ax L m]
  .rw[(I.bo b<|Q b H).imp .inr id]
 let fB:∀b,oa l b->b∉aH B.flatten:=λb H m=>(I.bo b m).elim (λz=>(I.fd b H).2 (.inr z)) λz=>ZZ (I.fd b H).3 (AX.mpr z)
 refine_lift let K1:=dC B bx;?_;let cB:∀a,cn a D.aj.flatten+cn a K1.2.flatten<=1:=λa=>by let z:=aen a bx B;rw[eb]at z;rw[z,];rw[I.nd a]
 let cP:∀a,cn a (D.pre++D.aj.flatten)<=1:=λa=>by
  rw[a9,];let z:=cB a;let z1:=aa6 a e;let z2:=(aiv R a nix).1;by_cases q:a∈aH D.pre
  .have:cn a D.aj.flatten=0:=BM λp=>dj a q<|Q a<|ba.mpr p
   rw[atq z1 z2 this]
  .have:cn a D.pre=0:=BM λp=>q<|ba.mpr p
   rw[atr z this]
 let E:∀a,D.own a\/oa l a->(fD w.params).get a=As:=λa ha=>ha.elim (λm=>(ue a m).elim (λz=>I.af a<|.inl z) λz=>j0 w<|Ax I.big z) λm=>I.af a<|.inr m
 let frh:=I.fr R;rw[BK (hD (aN A κ) c ⟨h,s.gens,s.drawn,t,s.os⟩ ⟨ec,by rw[gF,<-hd];rw[Z8 (λz=>cQ z κ) k.hd],λl' hl=>(aau A (I.fs l' hl) κ).trans<|Z8 Y (AD ..).symm,by let a:=aaL A κ K;let b:=I.ai;rw[ats dp a b],ajS un I.un (by let a:=aaO A κ K;let b:=ah7 κ K;rw[att a b]),⟨R.kt,R.lim k,big⟩,λq d=>?_,j9 cP,E,λl' hl=>⟨frh.f l' hl,λb H=>(λb H m=>(ue b m).elim (I.fd b H).2 λz=>ZZ (I.fd b H).3 (AX.mpr z)) b ⟨l',hl,H⟩⟩⟩) λr j ⟨kp,fr',y,P⟩=>?_]
 .rcases AB.mp d with d|d
  .let(i,_,o,ho,e1,e2):=a1 q d;rw[(o,by rw[e1,];rw[(R.own i o ho).2],e2)]
  .rw[(I.aj R<|bsub q d).1]
 .let(Pf,Ef,hPE):=jZ j.heap;let(tk,htk):=ago P.ab;let St':uL w j.heap:=kp.sta E<|⟨R.kt,R.lim k,big⟩;refine_lift let x:aQ:=⟨y,λn=>match n with|0=>tk|1=>j.heap.objs.size-902|2=>j.toks|_=>0,Pf,Ef⟩;?_;let mk:∀q∈D.led y++(D.af y).flatten,j.heap.get? q.1=Y (jY (x.p q.1) (x.e q.1) q.2):=λq d=>by let(o,h1,h2):=P.hs q d;rw[h1,];rw[Z8 Y<|rM h2<|hPE _ o h1]
  let el:=d8 D P.lp P.ln;let en:(j1 x (D.ao y)<|D.al y).map (·.1)=D.ao y:=ad7 P.ln
  let cE:∀a,(aH D.pre).count a+((D.ao y).count a+cn a (D.af y).flatten)<=1:=λa=>by
   let z:=eJ P.nd a;rw[a9]at z;let z1:cn a (D.led y)=(aH D.pre).count a+(D.ao y).count a:=by show(aH<|D.led y).count a=_;rw[el,AQ]
   rw[atu z z1]
  let gr:h.objs.size<=j.heap.objs.size:=kp.grow;let kpD:∀b o,h.get? b=Y o->¬D.own b->¬oa l b->j.heap.get? b=Y o:=λb o g n1 n2=>kp.keep b o g λm=>m.elim n1 n2
  rw[(x,⟨htk,kp.g,kp.d,kp.os,rfl,(Bo St'.big).symm,λp hp=>?_,λp hp=>?_,?_,λ_ b o g m q=>?_,gr,St'.kt,St'.lim,λb o g q=>?_⟩,P.pure,?_)]
  .let hp:p∈rN x ix (aH D.pre) (D.post y):=hp;let(a,so,h1,h2,h3):=agp nix hp;let(rfl,z):=a2 _ _ h1;rw[(z,by rw[h3,];rw[mk _<|Ao _<|Ao _ h2])]
  .let hp:p∈j1 x (D.ao y) (D.al y):=hp;let(h1,so,h2,h3):=ad6 hp;rw[(by rw[h3,];rw[mk (p.1,so)<|Ao _<|Aq _ h2],?_)];rcases P.new _ h1 with m|m
   .let kn:=E _<|.inl<|.inr m;let(f1,f2):=Bm _<|Q _ m;rw[.inr ⟨.inr ⟨f2,f1⟩,kn,(ue _<|.inr m).imp .inl id,λee=>?_⟩];let e':(fD w.params).get IJ=Y (o2 w.params):=by kernel_rfl
    rw[ee,e']at kn;rw[nomatch kn]
   .rw[.inl m]
  .show((j1 x (D.ao y)<|D.al y).map (·.1)).Nodup;rw[en,];rw[Ek.mpr λa=>by have:=cE a;rw[atv this]]
  .rw[kpD b o g (λH=>?_) λH=>?_]
   .rcases H with H|H
    .let(p,hp,e'):=agq (x:=x) (l:=D.post y) nix il P.lp H;rw[q p hp<|(a2 _ _ e').1.symm]
    .rw[m.elim (Bm b<|Q b H).2 λz=>ZZ (Bm b<|Q b H).1 (AX.mpr z)]
   .let(f1,f2,f3):=I.fd b H;rw[m.elim f1 λz=>ZZ f3<|AX.mpr<|Ax L z]
  .rw[kpD b o (I.base k R g q) (λH=>(ue b H).elim (λz=>q<|.inl z) λz=>ZZ (AP g)<|AX.mpr z) λH=>q<|.inr H]
  let G:∀b,((ng C l A s h₀ ρ).re h j.heap<|wm D ix x).ρ b->ρ b\/(h₀.objs.size<=b/\b<h.objs.size)\/b∈D.ao y:=λb H=>by
   rcases H with m|m|m
   .rw[.inl m.2]
   .rw[.inr<|.inl ⟨m.2,m.3⟩]
   .rw[.inr<|.inr ?_];rw[<-en];rw[m]
  let newlt:∀b∈D.ao y,b<j.heap.objs.size:=λb H=>by
   let H:b∈aH (D.led y):=by rw[el,];rw[Aq _ H]
   let(q,d,rfl):=AM.mp H;rw[AP<|mk q<|Ao _ d]
  let M:∀q∈K1.2.flatten,q∈B.flatten/\¬D.own q.1:=λq d=>by
   let m:=iI.2 d;rw[(m,λz=>?_)];rcases z with z|z
   .rw[dj _ z<|Av m]
   .let c:=cB q.1;let p1:=ba.mp z;rw[alU c p1<|ba.mp (show q.1∈aH K1.2.flatten from Av d)]
  let N:∀a∈aH (D.af y).flatten,A3 (a∉aH D.pre) (a∉D.ao y)<|a∈aH D.aj.flatten\/h.objs.size<=a:=λa ha=>by
   let c:=cE a;let p1:=ba.mp ha;let np:a∉aH D.pre:=λz=>by have:=BR.mpr z;rw[atw c p1 this]
   rw[(np,λz=>by have:=BR.mpr z;rw[atx c p1 this],?_)];rcases P.own a ha with(m|m)|m
   .rw[ZZ m np]
   .rw[.inl m]
   .rw[.inr m]
  let bo':∀a∈aH (lU bx (D.af y) K1.2).flatten,a∈aH C.aj.flatten\/s.heap.objs.size<=a:=λa ha=>by
   let(q,d,rfl):=AM.mp ha;rcases aa3 d with m|m
   .rcases(N q.1 (Av m)).3 with z|z
    .rw[I.bo _<|Q _ z]
    .rw[.inr<|Ax (Ax L R.grow) z]
   .rw[I.bo _<|Av (M q m).1]
  rw[(hPE,I.ai,I.un,I.fs,I.af,I.big,λb H=>?_,λb H=>?_,λa=>?_,λq d=>?_,bo',frh.trans fr',λb H=>⟨λm=>?_,(I.fd b H).2,(I.fd b H).3⟩,I.cd)]
  .rcases G b H with m|m|m
   .rw[Dl (I.up b m)<|Ax R.grow gr]
   .rw[Dl m.2 gr]
   .rw[newlt b m]
  .rcases G b H with m|m|m
   .rw[I.rho b m]
   .rw[.inr<|Ax L m.1]
   .rcases P.new b m with m|m
    .rw[(I.bo b<|Q b m).imp .inr id]
    .rw[.inr<|Ax (Ax L R.grow) m]
  .let z:=lV a bx (D.af y) K1.2;let z2:=cB a;by_cases q:a∈aH (D.af y).flatten
   .have:cn a K1.2.flatten=0:=BM λp=>by
     let(q',hq',rfl):=AM.mp<|ba.mpr p;let(r1,r2):=M q' hq';rcases(N _ q).3 with m|m
     .rw[r2<|.inr m]
     .rw[ZZ (Bm _<|Av r1).1 (AX.mpr<|Ax R.grow m)]
    rw[aty z (cE a) this]
   .have:cn a (D.af y).flatten=0:=BM λp=>q<|ba.mpr p
    rw[atz z z2 this]
  .rcases aa3 d with m|m
   .let(o,g1,g2):=P.hs q<|Aq _ m;let(_,n2,V):=N q.1<|Av m;rw[(o,g1,g2,λz=>?_)];rcases G _ z with z|z|z
    .rcases V with V|V
     .rw[(Bm _<|Q _ V).2 z]
     .rw[ZZ (I.up _ z)<|AX.mpr<|Ax R.grow V]
    .rcases V with V|V
     .rw[ZZ (Bm _<|Q _ V).1 (AX.mpr z.1)]
     .rw[ZZ z.2<|AX.mpr V]
    .rw[n2 z]
   .let(r1,r2):=M q m;let((o,g1,g2),g3,g4):=I.aj R r1;rw[(o,kpD _ o g1 r2 λz=>fB _ z<|Av r1,g2,λz=>?_)];rcases G _ z with z|z|z
    .rw[g4 z]
    .rw[ZZ g3<|AX.mpr z.1]
    .rcases P.new _ z with z|z
     .rw[r2<|.inr z]
     .rw[ZZ (Dl g3 R.grow)<|AX.mpr z]
  .rcases G b m with z|z|z
   .rw[(I.fd b H).1 z]
   .rw[ZZ (I.fd b H).3 (AX.mpr<|Ax L z.1)]
   .rcases P.new b z with z|z
    .rw[fB b H<|Q b z]
    .rw[ZZ (I.fd b H).3 (AX.mpr<|Ax (Ax L R.grow) z)]
end
def aer{S:Su}{ps:List<|AL×AL}{Q:!Rq}{qs:!Prop}{os:List<|AL×Obj}(h:ps.map (·.1)=ps.map (·.2))(e:wn Q=qs)(E:wr Q=os)(q:bW qs)(o:∀q∈os,S.h₀.get? q.1=Y q.2/\¬S.ρ q.1):ey S ps Q:=by
 rw[agb h ?_];subst e E;cases Q with
 |nil=>rw[λx h=>nomatch h]
 |cons a l i=>cases a with
  |p a=>rw[aq7 q.1<|i q.2 o]
  |o a b=>rw[aul (o _<|.head _)<|i q λq H=>o q<|.tail _ H]
def agC:∀{ns:List<|!Nat}{l:List<|AL×Obj},q∈xE ns p l->q=p\/q∈l:=by
 cases _ with
 |nil=>intro _ h;rw[.inr h]
 |cons _ ns i=>intro l h;rw[(i (l:=p::l) h).elim .inl λm=>(Ar.mp m)]
def aiw{G:Prop}(h:(a&&(b&&(c&&(d&&e))))=J)(k:a=J->b=J->c=J->d=J->e=J->G):G:=by let(a,h):=iD h;let(b,h):=iD h;let(c,h):=iD h;let(d,e):=iD h;rw[k a b c d e]
def arn{G:Prop}(h:(a&&(b&&(c&&(d&&(e&&(f&&g))))))=J)(k:a=J->b=J->c=J->d=J->e=J->f=J->g=J->G):G:=by let(a,h):=iD h;let(b,h):=iD h;rw[aiw h<|k a b]
def aro:∀(nt:Nt)(v:co)(cx:aQ)(os:List<|AL×Obj)(W:Nat->aQ)(B:!Rd)(h₀:CF)(ρ:AL->Prop),ka w C l A s h₀ ρ B cx->(∀q∈os,h₀.get? q.1=Y q.2/\¬ρ q.1)->lM (VW w C.hd) (ng C l A s h₀ ρ)->gy C nt cx os W B v=gz C nt cx os W v->nt.Pure w l C B->v.OK (VW w C.hd) (ng C l A s h₀ ρ):=by
 cases _ with
 |fin ck ix ks bx y qs=>
  intro v cx os W B h₀ ρ I j d h ok;cases v with
  |done e' T n ad t ps Q=>
   rw[NL.noConfusion h λH i G L V h6 h7 h8=>arn L λs1 E s3 M s5 s6 s7=>?_]
   rw[(aer h7 V h6 ok.1 j,λhp R=>?_)];let rr:=aag i (Cg E) s5;clear h;cases e' with
   |again c=>rw[<-H]at s6;cases s6
   |ret r=>
    rw[ac9 I d R ?_ rr G (arm h8 s7) s1 (Cg s3) (Cg M) ok.2 t];rw[<-H];clear H;cases r with
    |ok f=>induction f<;>rfl
    |error e=>rfl
  |az=>cases h
  |stk=>cases h
  |alt=>cases h
  |fail=>cases h
 |use ck D nf ix ks bx qs next k=>
  intro v cx os W B h₀ ρ I j d h ok;cases v with
  |done=>cases h
  |stk=>cases h
  |alt=>cases h
  |fail=>cases h
  |az sh' c' κ T n ad t ps Q N=>
   let(oq,oD,oN):=ok;rw[NL.noConfusion h λh0 H i G hr L V h6 h7 h8 h9 h10=>aiw h6 λs1 E s3 M s5=>?_]
   clear h;subst h0
   let hD:D.aq w (iZ κ++C.fr) l:=by
    clear H;cases nf with
    |none=>rw[X.Holds.at oD _ _]
    |some fr=>let i:=i;rw[i,];rw[oD]
   rw[(aer h9 h7 h8 oq j,λhp K R=>?_)]
   rw[BK (aby I d R K (t:=t) hD H G (aag L (Cg E) s3) V s1 (Cg E) (by
     let M:=Cf M;delta arj ark at hr;unfold ari at M;delta X.dt;revert hr M;clear H
     cases D.rcs<;>cases D.sm<;>cases C.rcs<;>dsimp only[Option.getD]<;>intro hr M<;>omega) s5) ?_]
   rintro ab s' ⟨x,sp,pu,I'⟩;rw[(x,sp,k x (N x) _ _ _ _ _ _ I' (λ_ m=>by cases m) (d.re R sp) (ZW h10 x) (oN x pu))]
 |stk nx k=>
  intro v cx os W B h₀ ρ I j d h ok;cases v with
  |done=>cases h
  |az=>cases h
  |alt=>cases h
  |fail=>cases h
  |stk next=>rw[λp b=>k (next p b) cx os W B h₀ ρ I j d (ZW (ZW (NL.stk.inj h) p) b) ok]
 |alt ck a b iha ihb=>
  intro v cx os W B h₀ ρ I j d h ok;cases v with
  |done=>cases h
  |az=>cases h
  |stk=>cases h
  |fail=>cases h
  |alt x y=>
   rw[NL.noConfusion h λH i=>?_]
   rcases ok with ok|ok
   .rw[.inl<|iha x cx os W B h₀ ρ I j d H ok]
   .rw[.inr<|ihb y cx os W B h₀ ρ I j d i ok]
 |ob ns a so nx k=>
  intro v cx os W B h₀ ρ I j d h ok;rw[k v cx _ W B h₀ ρ I (λq hq=>?_) d h ok.2];clear h;rcases agC hq with rfl|m
  .let(o,e,r,n):=I.hs _ ok.1;rw[(e.trans<|Z8 Y<|rM r<|I.made _ _ e,n)]
  .rw[j q m]
 |cx nx k=>intro v cx os W B h₀ ρ I j d h ok;rw[k cx v cx os W B h₀ ρ I j d h<|ok cx]
def ajT{s:AJ}{led:Rd}{P:Nat->Pk}{E:Nat->Nat}(H:∀a o,s.heap.get? a=Y o->o=jY (P a) (E a) (rd o))(d:HS s.heap led){kt:KT}(af:∀b∈aH led,kt.get b=As):∀q∈hB P E led,s.heap.get? q.1=Y q.2/\kt.get q.1=As:=λq e=>by let(Q,h,rfl):=AM.mp e;let(I,c,i):=d Q h;rw[(?_,af _<|Av h)];rw[c,];rw[Z8 Y<|rM i<|H _ _ c]
def ab3:(hB P E led).map (·.1)=aH led:=by delta hB aH;rw[BW,];rfl
def aes{V:Cx}{S:Su}{led:List<|AL×Obj}{f:BT->Nat->cX->co}(h:∀p∈led,S.ρ p.1)(hl:∀p∈led,S.h₀.get? p.1=Y p.2/\V.kt.get p.1=As)(nd:(led.map (·.1)).Nodup)(l:V.kt.Holds S.h₀ 1 0)
  (z:(bJ led .nil 0 [] λT n ad=>f T n<|(n,S.h₀.objs.size)::ad).OK V S):n9 λT n ad=>(f T n ad).OK V S/\f9 V S S.h₀ T n ad:=by
 let(T,n,ad,k,_,Q,o2):=abB (λv=>co.OK V v S) (h':=S.h₀) (Lo:=λa=>V.kt.get a=As) (λa=>S.ρ a) led .nil 0 [] _ (λp H=>⟨(hl p H).1,(hl p H).2,h p H⟩) nd (λx x q=>(nomatch q)) (λx x q=>(nomatch q)) (λx x x x q=>(nomatch q)) z (by rintro⟨_,q⟩;rw[q]);let d:∀i,i<n->bG ((n,S.h₀.objs.size)::ad) i=bG ad i:=λi m=>fE m
 rw[(T,n,_,k,⟨_,_,_,rfl,AA _⟩,?_,λi o e=>?_,λi j o I E c B=>?_,l,λb o e x=>e,AA _)]
 .rw[c6<|AA _,FE];rfl
 .let(b1,b2,b3,b4):=Q i o e;rw[d i b1,];rw[(b1,b2,b3,.inl b4)]
 .rw[d i (Q i o E).1,d j (Q j I c).1]at B;rw[o2 i j o I E c B]
def xB(d:Nat)(P:Nat->Pk)(E:Nat->Nat):aQ:=⟨y0,λQ=>d,P,E⟩
def rX(en:Cx->Nat->BC->Or->!(AL×Obj)->Nat->Nat->co)(w:AW)(C:X)(F:Nat)(nt:Bool->Nat->Nt)(β γ:Bool)(N d:Nat)(P:Nat->Pk)(E t u:Nat->Nat):NL:=gy C (nt γ N) (xB d P E) [] (λQ=>xB d P E) C.aj<|en (VV w β γ C.hd) F (ub t u C.ec) ((nt γ N).or<|xB d P E) (hB P E C.pre) (-N) d
def rY(en:Cx->Nat->BC->Or->!(AL×Obj)->Nat->Nat->co)(w:AW)(C:X)(F:Nat)(nt:Bool->Nat->Nt)(β γ:Bool)(N d:Nat)(P:Nat->Pk)(E t u:Nat->Nat):NL:=gz C (nt γ N) (xB d P E) [] (λQ=>xB d P E)<|en (VV w β γ C.hd) F (ub t u C.ec) ((nt γ N).or<|xB d P E) (hB P E C.pre) (-N) d
def lw(en:Cx->Nat->BC->Or->!(AL×Obj)->Nat->Nat->co)(w:AW)(C:X)(F:Nat)(nt:Bool->Nat->Nt):Prop:=∀β γ,rX en w C F nt β γ=rY en w C F nt β γ
abbrev aR:=lw ajP
abbrev dW(b:BC->Sem Fin):=lw<|ajQ b
def lrP(en:Cx->Nat->BC->Or->!(AL×Obj)->Nat->Nat->co)(w:AW)(C:X)(F:Nat)(nt:Bool->Nat->Nt):=((rX en w C F nt O,rX en w C F nt J),rY en w C F nt O,rY en w C F nt J)
def aF{en:Cx->Nat->BC->Or->!(AL×Obj)->Nat->Nat->co}{nt:Bool->Nat->Nt}(h:(lrP en w C F nt).1=(lrP en w C F nt).2:=by kernel_rfl):lw en w C F nt
 |false,γ=>ZW (Z8 IB h) γ
 |true,γ=>ZW (Z8 KI h) γ
def xH(en:Cx->Nat->BC->Or->!(AL×Obj)->Nat->Nat->co)(w:AW)(C:X)(F:Nat)(nt:Bool->Nat->Nt):=((λβ:Bool=>(rX en w C F nt β O,rX en w C F nt β J)),λβ:Bool=>(rY en w C F nt β O,rY en w C F nt β J))
def lW{en:Cx->Nat->BC->Or->!(AL×Obj)->Nat->Nat->co}{nt:Bool->Nat->Nt}(h:(xH en w C F nt).1 O=(xH en w C F nt).2 O:=by kernel_rfl)(k:(xH en w C F nt).1 J=(xH en w C F nt).2 J:=by kernel_rfl):lw en w C F nt
 |false,O=>Z8 IB h
 |false,J=>Z8 KI h
 |true,O=>Z8 IB k
 |true,J=>Z8 KI k
def lw.at{en:Cx->Nat->BC->Or->!(AL×Obj)->Nat->Nat->co}{nt:Bool->Nat->Nt}(p:lw en w C F nt)(β γ:Bool)(N d:Nat) P E t u:gy C (nt γ N) (xB d P E) [] (λQ=>xB d P E) C.aj (en (VV w β γ C.hd) F (ub t u C.ec) ((nt γ N).or<|xB d P E) (hB P E C.pre) (-N) d)=gz C (nt γ N) (xB d P E) [] (λQ=>xB d P E) (en (VV w β γ C.hd) F (ub t u C.ec) ((nt γ N).or<|xB d P E) (hB P E C.pre) (-N) d):=
 ZW (ZW (ZW (ZW (ZW (ZW (p β γ) N) d) P) E) t) u
def X.start{w:AW}{C:X}{l:Option<|!Env}{A:CB}{c:BC}{s:AJ}(n:C.aA w C.fr l A c s)(x:DW 400 C.ai=J){P:Nat->Pk}{E:Nat->Nat}(i:∀a o,s.heap.get? a=Y o->o=jY (P a) (E a) (rd o)){nt:Nt}{f:BT->Nat->cX->co}
  (p:gy C nt (xB s.toks P E) [] (λ_=>xB s.toks P E) C.aj (bJ (hB P E C.pre) .nil 0 [] λT n ad=>f T n<|(n,s.heap.objs.size)::ad)=gz C nt (xB s.toks P E) [] (λ_=>xB s.toks P E) (bJ (hB P E C.pre) .nil 0 [] λT n ad=>f T n<|(n,s.heap.objs.size)::ad))(pure:nt.Pure w l C C.aj):
  lM (VW w C.hd) (ng C l A s s.heap λb=>b∈aH C.pre)/\n9 λT n ad=>(f T n ad).OK (VW w C.hd) (ng C l A s s.heap λb=>b∈aH C.pre)/\f9 (VW w C.hd) (ng C l A s s.heap λb=>b∈aH C.pre) s.heap T n ad:=by
 let x:=Cf x;let nd:=n.nd;let cd:∀b∈aH C.pre,b∉aH C.aj.flatten:=λb B G=>by let z:=eJ nd b;rw[a9]at z;let M:=ba.mp B;let Q:=ba.mp G;rw[alU z M Q]
 let N:=j9 λa=>by let z:=eJ nd a;rw[a9]at z;rw[atA z]
 let j:=λq H=>n.hs q<|Ao _ H
 let k:lM (VW w C.hd)<|ng C l A s s.heap λb=>b∈aH C.pre:=by
  rw[(λa r=>j0 w<|Ax n.St.big r,n.St.lim,λhm=>?_,AA _,λa r=>.inl<|.inl<|.inl r,λb o e _=>e,n.hd,(by
   have:=n.ai;let z:C.ai<=C.dt:=by delta X.dt;split<;>omega
   rw[atB x this z]),ajF ad5 _)]
  have:=n.af _<|.inl<|.inl hm;let e:(fD w.params).get IJ=Y (o2 w.params):=by kernel_rfl
  rw[e]at this;rw[nomatch this]
 let I:ka w C l A s s.heap (λb=>b∈aH C.pre) C.aj<|xB s.toks P E:=by
  rw[(i,n.ai,n.un,λL d=>n.fs L d,n.af,n.St.big,λb h=>(by
    let(q,H,rfl):=AM.mp h;let(o,B,_):=j q H
    rw[AP B]),λb h=>.inl<|.inl h,λa=>?_,λq H=>?_,λa r=>.inl r,⟨λL d=>(n.ff L d).1,λb _ o e=>⟨o.slots,e⟩⟩,by rintro b ⟨L,d,h⟩;rw[(λm=>(n.ff L d).2 b h (.inl m),(n.ff L d).2 b h,oH (n.ff L d).1 b h)],cd)]
  .let z:=eJ nd a;rw[a9]at z;rw[atC z]
  .let(o,a,b):=n.hs q<|Aq _ H;rw[(o,a,b,λm=>cd _ m<|Av H)]
 rw[(k,aes (V:=VW w C.hd) (S:=ng C l A s s.heap λb=>b∈aH C.pre) (λq H=>by rw[<-ab3 (P:=P) (E:=E)];rw[Av H]) (ajT i j λb h=>n.af b<|.inl<|.inl h) (by rw[ab3,];rw[N]) n.St.kt<|aro nt _ _ _ _ _ _ _ I (λ_ m=>by rw[nomatch m]) k p pure)]
def X.aB{nt:Bool->Nat->Nt}(e:aR w C F nt)(j:DW 400 C.ai=J)(pure:∀γ N,(nt γ N).Pure w l C C.aj):C.aq w C.fr l:=by intro A c s n;let(t,u,rfl):=aif n.ec;let(P,E,H):=jZ s.heap;refine_lift let b:=s.heap.objs.size-902;?_;let p:=e.at (tw w) (nK w) b s.toks P E t u;rw[Bo n.St.big,aik w C.hd]at p;let(d,T,m,ad,k,D):=X.start (nt:=nt (nK w) b) (f:=λT m ad=>eP (VW w C.hd) (qJ (VW w C.hd) F) (ub t u C.ec) .base ((nt (nK w) b).or<|xB s.toks P E) T m ad s.toks 0 [] []) n j H p<|pure _ _;rw[iz d (abF F) (aat F) k D Z9]
def X.ap(b:aR w C F nt)(j:DW 400 C.ai=J)(pure:∀γ N,(nt γ N).Pure w As C C.aj):C.Holds w:=λA c s n=>X.aB b j pure A c s ⟨n.ec,n.hd,(λQ e=>nomatch e),n.ai,n.un,n.St,n.hs,n.nd,n.af,n.ff⟩
def X.aw(b:BC->Sem Fin)(w:AW)(K:X)(l:Option<|!Env):Prop:=∀A c s,K.aA w K.fr l A c s->Bq (MM w) A c (b c) (CH PW w A<|K.ax l s) (C7<|K.ax l s) s
def X.av{d:BC->Sem Fin}{nt:Bool->Nat->Nt}(b:dW d w C F nt)(j:DW 400 C.ai=J)(pure:∀γ N,(nt γ N).Pure w l C C.aj):C.aw d w l:=by intro A c s n;let(t,u,rfl):=aif n.ec;let(P,E,H):=jZ s.heap;refine_lift let h:=s.heap.objs.size-902;?_;let p:=b.at (tw w) (nK w) h s.toks P E t u;rw[Bo n.St.big,aik w C.hd]at p;let(i,T,m,ad,k,D):=X.start (nt:=nt (nK w) h) (f:=λT m ad=>qJ (VW w C.hd) F O (ub t u C.ec) .base (d<|ub t u C.ec) ((nt (nK w) h).or<|xB s.toks P E) T m ad s.toks 0 [] []) n j H p<|pure _ _;rw[aat F _ i _ _ _ _ _ _ _ _ _ _ _ _ s.heap k D Z9 (λe=>nomatch e)]
noncomputable def Nt.D:Nt->X
 |.use _ D _ _ _ _ _ _=>D
 |_=>{ec:=.am<|.call .none ⟨[],[]⟩,ai:=0,ab:=λQ=>.ok .none}
noncomputable def Nt.nx:Nt->aQ->Nt
 |.use _ _ _ _ _ _ _ nx=>nx
 |.cx nx=>nx
 |p=>λQ=>p
noncomputable def Nt.isU:Nt->Bool
 |.use _ _ nf _ _ _ qs _=>match nf,qs with
  |none,[]=>J
  |_,_=>O
 |_=>O
noncomputable def Nt.isV:Nt->Bool
 |.use _ _ nf _ _ _ _ _=>match nf with
  |none=>J
  |_=>O
 |_=>O
def Nt.isG:Nt->Bool
 |.fin _ _ _ _ _ _=>J
 |_=>O
noncomputable def Nt.qs:Nt->!Prop
 |.use _ _ _ _ _ _ qs _=>qs
 |.fin _ _ _ _ _ qs=>qs
 |_=>[]
noncomputable def Nt.isF:Nt->Bool
 |.fin _ _ _ _ _ qs=>match qs with
  |[]=>J
  |_=>O
 |_=>O
def Nt.y:Nt->aW
 |.fin _ _ _ _ y _=>y
 |_=>y0
noncomputable def Nt.lt:Nt->Nt
 |.alt _ a _=>a
 |.ob _ _ _ a=>a
 |.stk a=>a
 |p=>p
def Nt.rt:Nt->Nt
 |.alt _ _ b=>b
 |p=>p
def Nt.isA:Nt->Bool
 |.alt _ _ _=>J
 |_=>O
def Nt.isX:Nt->Bool
 |.cx _=>J
 |_=>O
def Nt.isS:Nt->Bool
 |.stk _=>J
 |_=>O
noncomputable def Nt.o:Nt->Option (AL×SO)
 |.ob _ a so _=>Y (a,so)
 |_=>As
def Nt.nb:Nt->!Rd->aQ->!Rd
 |.use _ D _ _ _ bx _ _,B,x=>lU bx (D.af x.y) (dC B bx).2
 |_,B,_=>B
section
variable{p:Nt}
def pV(u:p.isV=J)(q:bW p.qs)(H:p.D.Holds w)(h:∀x:aQ,p.D.pure x.y->(p.nx x).Pure w l C (p.nb B x)):p.Pure w l C B:=by
 cases p with
 |use _ D N _ _ _ qs nx=>cases N with
  |none=>rw[(q,H,h)]
  |some=>cases u
 |_=>cases u
def pG(u:p.isG=J)(q:bW p.qs)(h:C.pure p.y):p.Pure w l C B:=by
 cases p with
 |fin=>rw[(q,h)]
 |_=>cases u
def pU(u:p.isU=J)(H:p.D.Holds w)(h:∀x:aQ,p.D.pure x.y->(p.nx x).Pure w l C (p.nb B x)):p.Pure w l C B:=by
 cases p with
 |use _ D N _ _ _ qs nx=>cases N with
  |none=>cases qs using A8 with
   |nil=>rw[(trivial,H,h)]
   |cons=>cases u
  |some=>cases u
 |_=>cases u
def pF(u:p.isF=J)(h:C.pure p.y):p.Pure w l C B:=by
 cases p with
 |fin _ _ _ _ y qs=>cases qs using A8 with
  |nil=>rw[(trivial,h)]
  |cons=>cases u
 |_=>cases u
def pL(u:p.isA=J)(h:p.lt.Pure w l C B):p.Pure w l C B:=by
 cases p with
 |alt=>rw[.inl h]
 |_=>cases u
def pR(u:p.isA=J)(h:p.rt.Pure w l C B):p.Pure w l C B:=by
 cases p with
 |alt=>rw[.inr h]
 |_=>rw[nomatch u]
def pX(u:p.isX=J)(h:∀x,(p.nx x).Pure w l C B):p.Pure w l C B:=by
 cases p with
 |cx=>rw[h]
 |_=>cases u
def pS(u:p.isS=J)(h:p.lt.Pure w l C B):p.Pure w l C B:=by
 cases p with
 |stk=>rw[h]
 |_=>cases u
def pO(u:p.o=Y q)(m:q∈B.flatten)(h:p.lt.Pure w l C B):p.Pure w l C B:=by
 cases p with
 |ob=>cases u;rw[(m,h)]
 |_=>cases u
end
def yA(l:!Nat):aW:={y0 with n:=λi=>l.getD i 0}
def bP{α:Type}{l m:!α}(h:∀[DecidableEq α](q:α),l.count q=m.count q):l.Perm m:=by
 classical
 rw[List.perm_iff_count.mpr λq=>h q]
theorem X.mono{w:AW}{K k:X}{fr:!Env}{l:Option<|!Env}(R:Rd)(H:K.aq w fr l)(ec:K.ec=k.ec)(hd:K.hd=k.hd)(ai:K.dt<=k.dt)(un:K.un=0\/K.un=k.un)
  (mem:∀q,q∈K.pre++K.aj.flatten\/q∈R->q∈k.pre++k.aj.flatten)(cnt:∀a,cn a (K.pre++K.aj.flatten)+cn a R<=cn a (k.pre++k.aj.flatten))
  (po:∀y,K.pure y->(K.post y).length=K.pre.length->(K.al y).length=(K.ao y).length->∃i,A6 (k.ab i=K.ab y) ((k.post i).length=k.pre.length) ((k.al i).length=(k.ao i).length) (∀q∈k.led i++(k.af i).flatten,q∈K.led y++(K.af y).flatten\/q∈R) (∀a,cn a (k.led i++(k.af i).flatten)<=cn a (K.led y++(K.af y).flatten)+cn a R)<|k.pure i):k.aq w fr l:=by
 intro A c s n;let e:∀{K:X}{a:AL},K.own a<->a∈aH (K.pre++K.aj.flatten):=λ{K a}=>by delta X.own;rw[ba,ba,ba,a9];rw[Nat.add_pos_iff_pos_or_pos.symm]
 let G:∀a,K.own a->k.own a:=λa h=>by let(q,d,rfl):=AM.mp<|e.mp h;rw[e.mpr<|Av<|mem q<|.inl d]
 rw[BK (H A c s ⟨n.ec.trans ec.symm,n.hd.trans hd.symm,n.fs,AV (Em ai _) n.ai,un.elim .inl λu=>by rw[u,];rw[n.un],n.St,λq d=>n.hs q<|mem q<|.inl d,j9 λa=>by have:=cnt a;have:=eJ n.nd a;rw[atD (by assumption) this],λa x=>n.af a<|x.imp (G a) id,λL I=>⟨(n.ff L I).1,λb C m=>(n.ff L I).2 b C (G b m)⟩⟩) λr s' ⟨kp,M,y,P⟩=>?_]
 let(i,N,B,p3,p4,p5,p6):=po y P.pure P.lp P.ln
 let rk:∀q∈R,A3 (∃o,s'.heap.get? q.1=Y o/\q.2.is o) (q.1<s.heap.objs.size)<|¬K.own q.1:=λq d=>by
  let(o,a,b):=n.hs q<|mem q<|.inr d;let nk:¬K.own q.1:=λz=>by let N:=ba.mp<|e.mp z;let B:=ba.mp (show q.1∈aH R from Av d);have:=cnt q.1;have:=eJ n.nd q.1;rw[atE N B (by assumption) this]
  rw[(⟨o,kp.keep _ o a λm=>m.elim nk λ⟨L,I,C⟩=>(n.ff L I).2 _ C (e.mpr<|Av<|mem q<|.inr d),b⟩,AP a,nk)]
 let E:∀q∈K.led y++(K.af y).flatten,K.own q.1\/s.heap.objs.size<=q.1:=λq d=>by
  rcases AB.mp d with d|d
  .let m:q.1∈aH (K.led y):=Av d;rw[d8 K P.lp P.ln]at m;rcases AB.mp m with m|m
   .rw[.inl<|.inl m]
   .rw[(P.new _ m).imp .inr id]
  .rw[P.own _<|Av d]
 let ct:=λa=>by
  let z1:=p5 a;by_cases q:a∈aH R
  .have:cn a (K.led y++(K.af y).flatten)=0:=BM λp=>by
    let(q1,Q,rfl):=AM.mp<|ba.mpr p;let(q2,V,e2):=AM.mp q;let(_,r2,r3):=rk q2 V;rw[e2]at r2 r3;rcases E q1 Q with m|m
    .rw[r3 m]
    .rw[ZZ r2<|AX.mpr m]
   let z3:cn a R<=1:=by have:=cnt a;have:=eJ n.nd a;rw[atF (by assumption) this]
   rw[atG z1 this z3]
  .have:cn a R=0:=BM λp=>q<|ba.mpr p
   rw[atH z1 (eJ P.nd a) this]
 let j:=λq d=>(p4 q d).elim (λm=>(E q m).imp (G _) id) λm=>.inl<|e.mpr<|Av<|mem q<|.inr m
 rw[(kp.mono λb C _=>C.imp (G b) id,M,i,P.ab.trans N.symm,B,p3,λq d=>(p4 q d).elim (P.hs q) λm=>(rk q m).1,j9 ct,λa x=>?_,λa x=>?_,p6)]
 .let el:=d8 k B p3;let ha':a∈aH (k.led i):=by rw[el,];rw[Aq _ x]
  let(q,d,rfl):=AM.mp ha';rcases j q (Ao _ d)with(m|m)|m
  .let c:=ct q.1;rw[a9]at c;let c1:cn q.1 (k.led i)=(aH k.pre).count q.1+(k.ao i).count q.1:=by show(aH<|k.led i).count _=_;rw[el,AQ]
   let B:=BR.mpr x;rw[(uF c c1 (BR.mpr m) B).elim]
  .rw[.inl m]
  .rw[.inr m]
 .let(q,d,rfl):=AM.mp x;rw[j q<|Aq _ d]
def X.perm{w:AW}{K k:X}{fr:!Env}{l:Option<|!Env}(R:Rd)(H:K.aq w fr l)(ec:K.ec=k.ec)(hd:K.hd=k.hd)(ai:K.dt<=k.dt)(un:K.un=0\/K.un=k.un)
  (pm:((K.pre++K.aj.flatten)++R).Perm<|k.pre++k.aj.flatten)
  (e:∀y,K.pure y->(K.post y).length=K.pre.length->(K.al y).length=(K.ao y).length->∃d,A5 (k.ab d=K.ab y) ((k.post d).length=k.pre.length) ((k.al d).length=(k.ao d).length) ((k.led d++(k.af d).flatten).Perm<|(K.led y++(K.af y).flatten)++R)<|k.pure d):k.aq w fr l:=by
 let C:∀{r q:Rd}(a:AL),r.Perm q->cn a r=cn a q:=λa h=>(show(aH _).Perm (aH _)from h.map _).count_eq a
 rw[X.mono R H ec hd ai un (λq h=>pm.subset<|AB.mpr h) (λa=>by rw[<-a9];rw[AY<|C a pm]) λy a b c=>?_]
 let(d,i,m,n,j,x):=e y a b c;rw[(d,i,m,n,λq A=>AB.mp<|j.subset A,λa=>by rw[<-a9];rw[AY<|C a j],x)]
def X.box(K:X)(n:Nat):X:={K with pre:=K.pre.take n,aj:=K.pre.drop n::K.aj,post:=λy=>(K.post y).take n,af:=λy=>((aH<|K.pre.drop n).zip<|(K.post y).drop n)::K.af y}
def X.box_ok{w:AW}{K:X}{fr:!Env}{l:Option<|!Env}(n:Nat)(H:K.aq w fr l):(K.box n).aq w fr l:=by
 refine_lift let C:=K.pre.take n;?_;rw[X.perm [] H rfl rfl (AA _) (.inr rfl) ?_ λy a b c=>⟨y,rfl,?_,c,?_,a⟩]
 .show((K.pre++K.aj.flatten)++[]).Perm<|K.pre.take n++(K.pre.drop n++K.aj.flatten);rw[Az,<-AD,GW]
 .show((K.post y).take n).length=C.length;rw[I8,I8,b]
 .show(((aH C).zip ((K.post y).take n)++(K.ao y).zip (K.al y))++((aH<|K.pre.drop n).zip ((K.post y).drop n)++(K.af y).flatten)).Perm<|(((aH K.pre).zip (K.post y)++(K.ao y).zip (K.al y))++(K.af y).flatten)++[];let e:(aH K.pre).zip (K.post y)=(aH C).zip ((K.post y).take n)++(aH<|K.pre.drop n).zip ((K.post y).drop n):=by delta aH;rw[H4,Ia,FA,FA,FA,<-List.take_zipWith,<-List.drop_zipWith,GW]
  rw[Az,e];rw[bP λq=>?_]
  simp only[AQ];rw[atI]
def X.of_ct{w:AW}{C:Ct}{K:X}(H:C.Holds w)(ec:C.ec=K.ec)(hd:C.hd=K.hd)(ai:C.ai<=K.dt)(own:∀b,C.all b->K.own b)(pre:∀h,HS h (K.pre++K.aj.flatten)->(aH<|K.pre++K.aj.flatten).Nodup->A3 (HS h C.pre) ((aH C.pre).Nodup) (C.Pre h))
  (post:∀s r d y,HS s.heap (K.pre++K.aj.flatten)->(aH<|K.pre++K.aj.flatten).Nodup->Kp C.all s d->C.End s.heap r d.heap y->∃k,K.End s r d k):K.Holds w:=by
 intro A c s n;let(I,L,M):=pre _ n.hs n.nd;rw[BK (H A c s (n.ec.trans ec.symm) (n.hd.trans hd.symm) (AV (Em ai _) n.ai) n.St I L (λb i=>n.af b<|.inl<|own b i) M) ?_];rintro r d ⟨j,y,P⟩;rw[(j.mono λb i Q=>.inl<|own b i,⟨(λQ e=>nomatch e),by rintro b ⟨_,e,_⟩;rw[nomatch e]⟩,post s r d y n.hs n.nd j P)]
def Ct.kt(C:Ct):X:={ec:=C.ec,hd:=C.hd,ai:=C.ai,pre:=C.pre,ao:=λy=>m9 y C.k 0,ab:=C.ab,post:=C.post,al:=C.al}
def jy y:∀k i,(m9 y k i).length=k:=by
 cases _ with
 |zero=>intro _;rw[rfl]
 |succ k I=>intro i;rw[Z8 (·+1)<|I<|i+1]
def dX{w:AW}{C:Ct}(H:C.Holds w)(k:∀b,¬C.fp b)(Pre:∀h,C.Pre h):C.kt.Holds w:=by
 let n:∀{h:CF},HS h (C.pre++([]:!Rd).flatten)->HS h C.pre:=λc q d=>c q<|Ao _ d
 let N:(aH<|C.pre++([]:!Rd).flatten).Nodup->(aH C.pre).Nodup:=λh=>by rwa [I7,Az]at h
 rw[X.of_ct H rfl rfl (AA _) (λb i=>i.elim .inl λm=>(k b m).elim) (λh c nd=>⟨n c,N nd,Pre h⟩) λs r l y c nd x P=>⟨y,P.ab,P.lp,by rw[show(C.kt.ao y)=m9 y C.k 0 from rfl,jy];rw[P.ln],?_,?_,λa j=>.inr<|P.fresh a j,(λQ h=>nomatch h),trivial⟩]
 .show HS l.heap<|((aH C.pre).zip (C.post y)++(m9 y C.k 0).zip (C.al y))++[];rw[Az,];rw[λq d=>(AB.mp d).elim (P.post q)<|P.al q]
 .show(aH<|C.kt.led y++[]).Nodup;rw[Az,d8 C.kt P.lp (by rw[show(C.kt.ao y)=m9 y C.k 0 from rfl,jy];rw[P.ln])];rw[Bu.mpr ⟨N nd,P.nd,λa j b i e=>?_⟩];subst e;let(q,d,rfl):=AM.mp j;let(o,g,_):=n c q d;rw[ZZ (AP g)<|AX.mpr<|P.fresh _ i]
noncomputable def hM(hd:Option AF)(id:String)(pos:!SV)(a:AL)(so:SO)(ab:EE):X:={ec:=.bi id pos [],hd,ai:=400,pre:=[(a,so)],ab:=λQ=>ab,post:=λQ=>[so]}
noncomputable def hN(hd:Option AF)(id:String)(pos:!SV)(a:AL)(so so':SO)(ab:EE):X:={ec:=.bi id pos [],hd,ai:=400,pre:=[(a,so)],ab:=λQ=>ab,post:=λQ=>[so']}
section
variable{id:String}
def lX{K:X}{s c:AJ}{r:BL}(er:a0 r=K.ab y0)(e:K.led y0++(K.af y0).flatten=[(a,so')])(lp:(K.post y0).length=K.pre.length)(nn:K.ao y0=[])(ln:(K.al y0).length=0)(b:K.af y0=[])(z:bh c.heap a so')(d:K.pure y0):∃y,K.End s r c y:=by
 rw[(y0,er,lp,by rw[nn,];rw[ln],?_,?_,?_,?_,d)]
 .rw[e,];intro q H;rw[Au.mp H,];rw[z]
 .rw[e,];rw[AC.mpr ⟨(λh=>nomatch h),AS⟩]
 .rw[nn,];rw[λQ h=>nomatch h]
 .rw[b,];rw[λQ h=>nomatch h]
def bp(H:(oI hd id pos a so ab).Holds w):(hM hd id pos a so ab).Holds w:=
 X.of_ct H rfl rfl (AA _) (λb d=>d.elim (λm=>nomatch m) BQ) (λh c Q=>⟨(λQ h=>nomatch h),AS,c _ aE⟩) λs r i y c Q j P=>lX P.ab rfl rfl rfl rfl rfl (by
  let(o,g,e):=c _ aE
  rw[(o,j.keep _ o g λm=>m.elim (λm=>nomatch m) BQ,e)]) Z9
def e7{l:DL}{ep:Nat}(H:(oI hd id pos a (aM l) ab).Holds w):(hM hd id pos a (dct l ep) ab).Holds w:=
 bp λA c s ec i hd St h nd af ⟨o,g,z⟩=>BK (H A c s ec i hd St h nd af ⟨o,g,fF z.1⟩) λQ Q ⟨j,y,P⟩=>⟨j,y,P.ab,P.post,P.lp,P.al,P.ln,P.fresh,P.nd,P.ext⟩
def gQ(H:(v3 hd id pos a so so' ab).Holds w):(hN hd id pos a so so' ab).Holds w:=
 X.of_ct H rfl rfl (AA _) (λb d=>d.elim (λm=>nomatch m) λe=>.inl (by rw[e,];rw[aE])) (λh c Q=>⟨(λQ h=>nomatch h),AS,c _ aE⟩) λs r i y c Q j P=>lX P.ab rfl rfl rfl rfl rfl P.ext Z9
def jz(w:AW)(hd:Option AF)(a:AL)(xs:!SV)(v:SV)(h:xs.length<2^20):(hN hd "list.append" [.ref a,v] a (.seq Lt xs) (.seq Lt<|xs++[v])<|.ok .none).Holds w:=
 X.of_ct (abN w hd a xs v h) rfl rfl (AA _) (λb c=>c.elim (λm=>nomatch m) λe=>.inl (by rw[e,];rw[aE])) (λh H Q=>⟨(λQ h=>nomatch h),AS,H _ aE⟩) λs r d y H Q j P=>lX P.ab rfl rfl rfl rfl rfl P.ext Z9
def aP w a xs v (h:xs.length<2^20):(hN As "list.append" [.ref a,v] a (.seq Lt xs) (.seq Lt<|xs++[v])<|.ok .none).Holds w:=jz w As a xs v h
end
noncomputable def aW.ay(y:aW)(x:Xd):aW:={y with u:={y.u with x:=x}}
noncomputable abbrev aI(fs:List<|SV×SV)(sl:List<|Option SV):SO:=.nss (.type "frame") fs sl
def X.wf(R:X)(f:Nat)(f0:List<|SV×SV)(fs:aW->!(SV×SV))(s0:List<|Option SV:=[]):X:={R with pre:=(-f,aI f0 s0)::R.pre,post:=λy=>aI (fs y) y.u.x.sl::R.post y}
noncomputable def Xd.vs(x:Xd):!SV:=[x.v 0,.ref<| -x.T,x.v 2,x.v 3,x.v 4,x.v 5]
noncomputable def Xd.ts(x:Xd):!SV:=[x.t 0,x.t 1,x.t 2,x.t 3,x.t 4,x.t 5,x.t 6,x.t 7,x.t 8,x.t 9,x.t 10]
noncomputable def u6(e T:Nat)(vs ts:!SV)(sl:List<|Option SV):Xd:=⟨e,T,λi=>vs.getD i .none,λi=>ts.getD i .none,sl⟩
def aet(l:!SV):(KY l.length).map (λi=>l.getD i .none)=l:=List.ext_getElem (by rw[Ap,List.length_range]) λi a b=>by rw[List.getElem_map,List.getElem_range,CQ,Cc b];rfl
def agE(h:vs.length=6)(H:vs[1]?=Y (.ref<| -T)):(u6 e T vs ts sl).vs=vs:=by
 let z:=aet vs;let b:vs.getD 1 .none=.ref (-T):=by rw[CQ,H];rfl
 rw[h]at z;rw[Ku (Z8 (λq=>[vs.getD 0 .none,q,vs.getD 2 .none,vs.getD 3 .none,vs.getD 4 .none,vs.getD 5 .none]) b.symm) z]
noncomputable def aQ.fl(x:aQ)(f:Nat):aW:=x.y.ay {x.y.u.x with t:=λi=>match i with
 |3=>.int ((-f:Nat):Int)
 |i=>aC<|(x.y.u.x.t i).val (x.p (-x.y.u.x.T) i).2.1}
def X.rz(R:X)(cn:AF)(c:Option SV:=As):X:={R with ab:=λy=>.err<|.ref<| -y.u.x.e,ao:=λy=>(-y.u.x.e)::(-y.u.x.T)::R.ao y,al:=λy=>.fld cn y.u.x.vs::.fld Tb y.u.x.ts::R.al y,pure:=match c with
 |none=>R.pure
 |some v=>λy=>y.u.x.v 2=v/\R.pure y}
def gA{R:X}{cn:AF}{c:Option SV}{y:aW}:(R.rz cn c).pure y<->(∀v,c=Y v->y.u.x.v 2=v)/\R.pure y:=by
 cases c with
 |none=>rw[(λh=>⟨(λQ h=>nomatch h),h⟩,λh=>h.2)]
 |some v=>rw[(λh=>⟨λQ e=>(B3 e)▸h.1,h.2⟩,λh=>⟨h.1 v rfl,h.2⟩)]
def nzP(c:Option SV)(xs:!SV):Prop:=match c with
 |none=>xs.length=6/\xs[1]?=Y .none
 |some v=>(xs.length=6/\xs[1]?=Y .none)/\xs[2]?=Y v
def ajU(h:nzP c xs):(xs.length=6/\xs[1]?=Y .none)/\∀v,c=Y v->xs[2]?=Y v:=by
 cases c with
 |none=>rw[(h,λQ h=>nomatch h)]
 |some v=>rw[(h.1,λQ e=>(B3 e)▸h.2)]
noncomputable def X.nz(R:X)(cn:AF)(xs:aW->!SV)(c:Option SV:=As):X:={R with ab:=λy=>.err<|.ref<| -y.u.x.e,ao:=λy=>(-y.u.x.e)::R.ao y,al:=λy=>.fld cn (xs y)::R.al y,pure:=λy=>nzP c (xs y)/\R.pure y}
def X.Inv(R:X)(fs:aW->!(SV×SV)):Prop:=∀y x,A6 (R.post (y.ay x)=R.post y) (R.ao (y.ay x)=R.ao y) (R.al (y.ay x)=R.al y) (R.af (y.ay x)=R.af y) (fs (y.ay x)=fs y)<|R.pure y->R.pure (y.ay x)
def aix es n sl:rd {cls:=.type "frame",dict:=As,data:=.dict es n,slots:=sl}=aI (es.toList.map λe=>(aC e.key,aC e.val)) (sl.toList.map<|CS aC):=rfl
def oV(h:rd o=aI fs sl):n9 λes n b=>o={cls:=.type "frame",dict:=As,data:=.dict es n,slots:=b}/\es.toList.map (λe=>(aC e.key,aC e.val))=fs:=by let(p,n,b,rfl,e):=abH h;rw[(_,n,b,rfl,(SO.nss.inj h).2.1)]
section
variable{R:X}{fr:!Env}{s s':AJ}{e T T':Nat}
def lY a q r:cn a (q::r)=(if q.1=a then 1 else 0)+cn a r:=by show(q.1::aH r).count a=_;rw[B4,DB];simp only[beq_iff_eq]
def X.rs(R:X)(y:aW):Rd:=(aH R.pre).zip (R.post y)++((R.ao y).zip (R.al y)++(R.af y).flatten)
def ajV(i:R.Inv fs)(lp:(R.post y).length=R.pre.length)(ln:(R.al y).length=(R.ao y).length)(M:HS s'.heap<|R.rs y)(c:∀a,(if -f=a then 1 else 0)+(if -e=a then 1 else 0)+(if -T'=a then 1 else 0)+cn a (R.rs y)<=1)
  (N:∀q∈R.rs y,q.1≠-T)(Q:dK λd sl=>s'.heap.get? (-f)=Y d/\rd d=aI (fs y) sl)(V:env.frame=Y (-f))(hl:∀q∈R.rs y,q.1∉a7 l)
  (t:gK (a7<|env::l) (-e) (-T) s'.heap h')(x:rS h' (-e) (-T') fl j xt vs ts)(ne:-e∈aH R.aj.flatten\/s.heap.objs.size<=-e)(nT:-T'∈aH R.aj.flatten\/s.heap.objs.size<=-T')(nn:∀a∈R.ao y,a∈aH R.aj.flatten\/s.heap.objs.size<=a)
  (ow:∀a∈aH (R.af y).flatten,(R.wf f f0 fs s0).own a\/s.heap.objs.size<=a)(pu:R.pure y):∃y',((R.wf f f0 fs s0).rz j xt).End s (.error<|.ref<| -e) {s' with heap:=h'} y':=by
 let E:a7 (env::l)=(-f)::a7 l:=by delta a7;rw[Dd,V]
 let(d,sl,hF,r):=Q;let(es,n,sl0,rfl,w):=oV r;let(ji,A):=t.slots _ _ hF (by rw[E,];rw[aE]) (λ_ h=>nomatch h)
 let keep:∀q∈R.rs y,∃o,h'.get? q.1=Y o/\q.2.is o:=λq H=>by
  let(o,g,z):=M q H;let p:=ba.mp (show q.1∈aH (R.rs y)from Av H);rw[(o,t.keep _ o g (λz=>?_) (N q H) λm=>?_,z)]
  .have:=c q.1;rw[Z0 z.symm]at this;rw[atJ p this]
  .rw[E]at m;rcases Ar.mp m with m|m
   .have:=c q.1;rw[Z0 m.symm]at this;rw[atK p this]
   .rw[hl q H m]
 let lt:(ts.toList.map aC).length=11:=by rw[<-x.tz,<-Ba];rw[Ap ..]
 let e1:(vs.toList.map aC)[1]?=Y (.ref<| -T'):=by rw[AG,Bt,x.e1];rfl
 refine_lift let k:=CS aC;?_;refine_lift let C:=u6 e T' (vs.toList.map aC) (ts.toList.map aC)<|ji.toList.map k;?_;let(i1,L,I,i4,i5,i6):=i y C;refine_lift let B:=(R.wf f f0 fs s0).rz j xt;?_
 let G:B.led (y.ay C)++(B.af<|y.ay C).flatten=((-f,aI (fs y)<|ji.toList.map k)::(aH R.pre).zip (R.post y))++((-e,.fld j<|vs.toList.map aC)::(-T',.fld Tb<|ts.toList.map aC)::(R.ao y).zip (R.al y))++(R.af y).flatten:=by
  rw[<-i1,<-L,<-I,<-i4,<-i5,<-agE (e:=e) (T:=T') (ts:=ts.toList.map aC) (sl:=ji.toList.map k) (by rw[<-x.ez,<-Ba];rw[Ap ..]) e1,<-((by
    let z:=aet (D6 aC ts.toList);rw[lt]at z
    rw[z]):(u6 e T' (vs.toList.map aC) (D6 aC ts.toList)<|ji.toList.map k).ts=(D6 aC ts.toList))]
  rfl
 rw[(y.ay C,rfl,?_,?_,?_,?_,?_,?_,?_)]
 .show(R.post<|y.ay _).length+1=R.pre.length+1;rw[i1,lp]
 .show(R.al<|y.ay _).length+2=(R.ao<|y.ay _).length+2;rw[I,L,ln]
 .rw[G,];intro q H;simp only[AB,Ar]at H;clear r;rcases H with((rfl|H)|(rfl|rfl|H))|H
  .rw[(_,A,by show rd _=_;rw[aix,w])]
  .rw[keep q<|Ao _ H]
  .rw[(_,x.he,rfl)]
  .rw[(_,x.hT,rfl)]
  .rw[keep q<|Aq _<|Ao _ H]
  .rw[keep q<|Aq _<|Aq _ H]
 .rw[G,];rw[j9 λa=>?_]
  have:=c a;unfold X.rs at this;simp only[a9,lY]at this ⊢;rw[atL this]
 .intro a b;let b:a∈(-e)::(-T')::R.ao (y.ay _):=b;rw[L]at b;clear r;rcases Ar.mp b with rfl|b
  .rw[ne]
  .rcases Ar.mp b with rfl|b
   .rw[nT]
   .rw[nn a b]
 .intro a b;let b:a∈aH (R.af<|y.ay _).flatten:=b;rw[i4]at b;rw[ow a b]
 .rw[gA.mpr ⟨λv hv=>?_,i6 pu⟩];show(vs.toList.map aC).getD 2 .none=v;rw[CQ,AG,Bt,x.e2 v hv];rfl
def arp(n:(aH<|((R.wf f f0 fs s0).rz j xt).led y++(((R.wf f f0 fs s0).rz j xt).af y).flatten).Nodup) a:(if -f=a then 1 else 0)+(if -y.u.x.e=a then 1 else 0)+(if -y.u.x.T=a then 1 else 0)+cn a (R.rs y)<=1:=by let z:=eJ n a;let z:cn a (((-f,aI (fs y) y.u.x.sl)::(aH R.pre).zip (R.post y))++((-y.u.x.e,.fld j y.u.x.vs)::(-y.u.x.T,.fld Tb y.u.x.ts)::(R.ao y).zip (R.al y))++(R.af y).flatten)<=1:=z;delta X.rs;simp only[a9,lY]at z ⊢;rw[atM z]
theorem ab4(I:R.Inv fs)(V:env.frame=Y (-f))(j:s.heap.FunFrames kT l)(fd:∀b∈a7 l,¬(R.wf f f0 fs s0).own b)(B:902<=s.heap.objs.size)(k:Kp (λb=>(R.wf f f0 fs s0).own b\/oa (Y l) b) s s')(F:tF (Y l) s.heap s'.heap)
  (lp:(R.post y).length=R.pre.length)(ln:(R.al y).length=(R.ao y).length)(A:HS s'.heap<|R.rs y)(hF:bh s'.heap (-f)<|aI (fs y) y.u.x.sl)(hE:-e<s'.heap.objs.size)(ct:∀a,(if -f=a then 1 else 0)+(if -e=a then 1 else 0)+cn a (R.rs y)<=1)(C:-e∈aH R.aj.flatten\/s.heap.objs.size<=-e)(G:-T∈aH R.aj.flatten\/s.heap.objs.size<=-T)(nn:∀a∈R.ao y,a∈aH R.aj.flatten\/s.heap.objs.size<=a)
  (own:∀a∈aH (R.af y).flatten,(R.wf f f0 fs s0).own a\/s.heap.objs.size<=a)(pu:R.pure y)(L:∀q∈R.rs y,q.1≠-T)(fT:f≠T)
  (t:gK (a7<|env::l) (-e) (-T) s'.heap h')(ff:h'.FunFrames kT l)(x:rS h' (-e) T' fl xc xt vs ts)(i:(T'=-T/\T≠e)\/s'.heap.objs.size<=T'):((R.wf f f0 fs s0).rz xc xt).ax (Y l) s (.error<|.ref<| -e) {s' with heap:=h'}:=by
 let E:a7 (env::l)=(-f)::a7 l:=by delta a7;rw[Dd,V]
 let n:∀{b o},s.heap.get? b=Y o->¬((R.wf f f0 fs s0).own b\/oa (Y l) b)->∀a,(a∈aH R.aj.flatten\/s.heap.objs.size<=a)->b≠a:=λg nb a ha q=>by subst q;rw[ha.elim (λm=>nb<|.inl<|.inr m) λm=>ZZ (AP g)<|AX.mpr m]
 obtain⟨c,rfl⟩:∃q,T'=-q:=⟨T'-902,by
  have:=k.grow
  rcases i with⟨h,_⟩|h<;>omega⟩
 let lt:∀q∈R.rs y,q.1<s'.heap.objs.size:=λq H=>by let(o,g,_):=A q H;rw[AP g]
 let N:∀q∈R.rs y,q.1∉a7 l:=λq H m=>by
  let mm:q.1∈aH R.pre\/q.1∈R.ao y\/q.1∈aH (R.af y).flatten:=by
   simp only[X.rs,AB]at H;rcases H with h|h|h
   .rw[.inl (GO h).1]
   .rw[.inr<|.inl (GO h).1]
   .rw[.inr<|.inr<|Av h]
  let B:=oH j _ m;rcases mm with h|h|h
  .rw[fd _ m<|.inl<|.tail _ h]
  .rw[(nn _ h).elim (λz=>fd _ m<|.inr z) λz=>ZZ B<|AX.mpr z]
  .rw[(own _ h).elim (λz=>fd _ m z) λz=>ZZ B<|AX.mpr z]
 let(oF,M,rF):=hF;rw[(⟨λb o g nb=>?_,Ax k.grow t.grow,k.g,k.d,k.os⟩,⟨λl' e=>by cases e;rw[ff],λb r o g=>?_⟩,ajV I lp ln A (λa=>?_) L ⟨oF,_,M,rF⟩ V N t x C ?_ nn own pu)]
 .rw[t.keep b o (k.keep b o g nb) (n g nb _ C) (n g nb _ G) λm=>?_]
  rw[E]at m;rcases Ar.mp m with m|m
  .rw[nb<|.inl<|.inl (m▸aE)]
  .rw[nb<|.inr ⟨l,rfl,m⟩]
 .let(l',e,r):=r;cases e;let(sl,g1):=F.s b ⟨l,rfl,r⟩ o g;let(_,o',Q,nf):=j.mem r;rw[g]at Q;cases Q;let(w,g3):=t.slots b _ g1 (by rw[E,];rw[.tail _ r]) nf;rw[(w,g3)]
 .let c1:=ct a;by_cases q:-c=a
  .clear c1;subst q
   let d:A3 (cn (-c) (R.rs y)=0) (-f≠-c)<| -e≠-c:=by
    rcases i with⟨h,h2⟩|h
    .rw[(BM λp=>by
      let(q,H,e):=AM.mp (ba.mpr p)
      rw[L q H<|e.trans h],atN fT h,atO h h2)]
    .rw[(BM λp=>by
      let(q,H,e):=AM.mp (ba.mpr p)
      rw[ZZ (show -c<_ from e▸lt q H)<|AX.mpr h],λq=>ZZ (AP M)<|AX.mpr (q▸h),λq=>ZZ hE<|AX.mpr (q▸h))]
   rw[d.1,Z7 d.2,Z7 d.3,Z0 rfl];rw[AA _]
  .rw[Z7 q,];rw[c1]
 .rcases i with⟨h,_⟩|h
  .rw[h,];rw[G]
  .rw[.inr<|Ax k.grow h]
def oW{h:CF}{a:AL}{cl:AF}{xs:!SV}(g:bh h a<|.fld cl xs):∃vs,h.get? a=Y (rR cl vs)/\vs.toList.map aC=xs:=by let(o,d,G):=g;let(vs,rfl,e):=eX G;rw[(vs,d,e)]
def lZ(k:env.scope.kind≠.module)(V:env.frame=Y (-f))(g:bh h (-f)<|aI z sl)(hl:h.FunFrames kT l):h.FunFrames kT<|env::l:=by let(o,d,G):=g;let(_,_,_,rfl,_):=oV G;rw[(k,⟨-f,_,V,rfl,d,λQ h=>nomatch h⟩,hl)]
theorem kc{M:Kq}{A':CB}{E:AF->AJ->Prop}(N:R.Inv fs)(w:env.frame=Y (-f))(km:env.scope.kind≠.module)(Q:s.heap.FunFrames kT l)(fd:∀b∈a7 l,¬(R.wf f f0 fs s0).own b)(big:902<=s.heap.objs.size){v:AF}(g:((R.wf f f0 fs s0).rz j xt).ax (Y l) s (.error v) s')(n:A'.frames=Y (env::l))(m:AF->Sem Unit)(hm:m=Lb env\/(m=λv=>CL v env)\/m=λv=>Fb v As):
  A0 M A' (m v) (λ_ s''=>((R.wf f f0 fs s0).rz j xt).ax (Y l) s (.error v) s'') E s':=by
 let(k,F,y,P):=g;refine_lift let C:=-y.u.x.e;?_;cases show v=.ref C from EE.err.inj P.ab
 let A:=arp P.nd;let B:∀q∈((-f,aI (fs y) y.u.x.sl)::(aH R.pre).zip (R.post y))++((-y.u.x.e,.fld j y.u.x.vs)::(-y.u.x.T,.fld Tb y.u.x.ts)::(R.ao y).zip (R.al y))++(R.af y).flatten,∃o,s'.heap.get? q.1=Y o/\q.2.is o:=P.hs;let hF:bh s'.heap (-f)<|aI (fs y) y.u.x.sl:=B _<|Ao _<|Ao _ aE;let(vs,hE,eE):=oW<|B _<|Ao _<|Aq _ aE;let(ts,hT,eT):=oW<|B _<|Ao _<|Aq _ ce;let z3:ts.size=11:=by rw[<-Ba,<-Ap (f:=aC),eT];rfl
 let p2:(y.u.x.vs)[1]?=Y (.ref<| -y.u.x.T):=rfl;let ne:y.u.x.T≠y.u.x.e:=λq=>by have:=A C;rw[q,Z0 rfl]at this;rw[atP this]
 refine_lift let K2:=-y.u.x.T;?_
 let x:rS s'.heap C K2 (ts[3]'(atQ z3)) j xt vs ts:=⟨hE,(by rw[<-Ba,<-Ap (f:=aC),eE];rfl),by
  rw[<-eE,AG,Bt]at p2;let(v,hv,e):=Bj.mp p2;rw[hv,];induction v<;>cases e;rfl,hT,z3,CR _,λq=>ne<|Eg q,λv hv=>by
  rw[<-Bt,<-AG,eE,<-(gA.mp P.pure).1 v hv]
  rfl⟩
 let hr:HS s'.heap<|R.rs y:=λq L=>B q (by
  simp only[X.rs,AB,Ar]at L ⊢;rcases L with h|h|h
  .rw[.inl (.inl<|.inr h)]
  .rw[.inl (.inr<|.inr<|.inr h)]
  .rw[.inr h])
 let G:∀H T' V I r,(T'=-y.u.x.T\/s'.heap.objs.size<=T')->gK (a7<|env::l) C K2 s'.heap H->H.FunFrames kT (env::l)->rS H C T' r j xt V I->((R.wf f f0 fs s0).rz j xt).ax (Y l) s (.error<|.ref C) {s' with heap:=H}:=λH T' V I r i t c d=>
  ab4 N w Q fd big k F (Cj P.lp) (Cj<|Cj P.ln) hr hF (AP hE) (λa=>by have:=A a;rw[atR this]) (P.new _ aE) (P.new _ ce) (λa ha=>P.new a<|.tail _<|.tail _ ha) P.own (gA.mp P.pure).2 (λq L z=>by
   have:=A K2;have:=ba.mp (show -y.u.x.T∈aH (R.rs y)from z▸Av L);rw[Z0 (rfl:-y.u.x.T=_)]at*;rw[atU (by assumption) this]) (λq=>by
   have:=A (-f);rw[Z0 rfl,Z0 (show -y.u.x.T=-f by rw[q,])]at this
   rw[atV this]) t c.2.2 d (i.imp (λh=>⟨h,ne⟩) id)
 let hl:=lZ km w hF<|F.f l rfl;rcases hm with rfl|rfl|rfl
 .rw[acZ n hl w x λH T' V I i t c d=>G H T' V I _ i t c d]
 .rw[aaT n hl w x λH T' V I i t c ⟨_,d⟩=>G H T' V I _ i t c d]
 .rw[aaa hl x λH I t c d=>G H _ vs I _ (.inl rfl) t c d]
def nN(h:eV c=.am d):c=d:=by
 cases c with
 |call=>cases h
 |builtin=>cases h
 |_=>rw[EC.am.inj h]
theorem X.am{K:X}(e:K.ec=.am d)(h:∀A s,K.aA w fr l A d s->Be (MM w) A d (K.ax l s) s):K.aq w fr l:=λA c s n=>by cases nN (n.ec.trans e);rw[h A s n]
def aeu(i:R.Inv fs)(V:env.frame=Y (-f))(k:env.scope.kind≠.module)(ec:R.ec=.am (.func b env))(C:R.fr=[])(H:((R.wf f f0 fs s0).rz j xt).aw v2 w<|Y l):((R.wf f f0 fs s0).rz j xt).aq w []<|Y l:=by
 intro A c s n;let E:((R.wf f f0 fs s0).rz j xt).fr=[]:=C;let z:=H A c s (by rw[E,];rw[n]);cases nN (n.ec.trans ec);rw[abR z (λfl s' g=>?_) λe s' g=>AH<|kc i V k (n.ff l rfl).1 (n.ff l rfl).2 n.St.big g ?_ _ (.inl rfl)]
 .let(_,_,y,P):=g;induction fl<;>cases P.ab
 .show IN (Ll b env).envs A.frames=_;rw[n.fs l rfl,];rfl
def hO{t:Ea}{b o:!Gc}(i:R.Inv fs)(V:env.frame=Y (-f))(k:env.scope.kind≠.module)(ec:R.ec=.am (.whileLoop t b o env))(C:R.fr=[env])(H:((R.wf f f0 fs s0).rz j xt).aw v2 w<|Y l):((R.wf f f0 fs s0).rz j xt).aq w [env]<|Y l:=by
 intro A c s n;let E:((R.wf f f0 fs s0).rz j xt).fr=[env]:=C;let z:=H A c s (by rw[E,];rw[n]);cases nN (n.ec.trans ec)
 rw[ad9 (by
   rw[<-aaw]
   rfl) z (λfl s' g=>?_) λe s' g=>AH<|kc i V k (n.ff l rfl).1 (n.ff l rfl).2 n.St.big g ?_ _ (.inr<|.inl rfl)]
 .let(_,_,y,P):=g;induction fl<;>rw[nomatch P.ab]
 .show IN (Code.whileLoop t b o env).envs A.frames=_;rw[n.fs l rfl,];rfl
theorem aev{M:Kq}{A:CB}{E:AF->AJ->Prop}{xs:aW->!SV}(i:R.Inv fs)(V:env.frame=Y (-f))(N:env.scope.kind≠.module)(j:s.heap.FunFrames kT l)(fd:∀b∈a7 l,¬(R.wf f f0 fs s0).own b)(B:902<=s.heap.objs.size){v:AF}(g:((R.wf f f0 fs s0).nz w xs xt).ax (Y l) s (.error v) s')(C:A.frames=Y (env::l)):
  A0 M A (CL v env) (λ_ c=>((R.wf f f0 fs s0).rz w xt).ax (Y l) s (.error v) c) E s':=by
 let(k,F,y,P):=g;cases show v=.ref (-y.u.x.e)from EE.err.inj P.ab
 refine_lift let G:AL×SO:=(-y.u.x.e,.fld w<|xs y);?_;let d:∀a,(if -f=a then 1 else 0)+(if -y.u.x.e=a then 1 else 0)+cn a (R.rs y)<=1:=λa=>by let z:=eJ P.nd a;let z:cn a (((-f,aI (fs y) y.u.x.sl)::(aH R.pre).zip (R.post y))++(G::(R.ao y).zip (R.al y))++(R.af y).flatten)<=1:=z;delta X.rs;simp only[a9,lY]at z ⊢;rw[atW z]
 let m:∀q∈((-f,aI (fs y) y.u.x.sl)::(aH R.pre).zip (R.post y))++(G::(R.ao y).zip (R.al y))++(R.af y).flatten,∃o,s'.heap.get? q.1=Y o/\q.2.is o:=P.hs;let I:bh s'.heap (-f)<|aI (fs y) y.u.x.sl:=m _<|Ao _<|Ao _ aE;let(vs,n,eE):=oW<|m _<|Ao _<|Aq _ aE;let((Q,L),p3):=ajU P.pure.1
 let hr:HS s'.heap<|R.rs y:=λq H=>m q (by
  simp only[X.rs,AB,Ar]at H ⊢;rcases H with h|h|h
  .rw[.inl (.inl<|.inr h)]
  .rw[.inl (.inr<|.inr h)]
  .rw[.inr h])
 let fe:f≠y.u.x.e:=λq=>by have:=d<| -f;rw[q,Z0 rfl]at this;rw[atX this]
 delta CL;simp only[V];let h1:vs[1]?=Y .none:=by rw[<-eE,AG,Bt]at L;let(v,x,e):=Bj.mp L;rw[x,((by induction v<;>first|rfl|cases e):v=.none)]
 rw[Al<|Bf n rfl h1 ?_]
 rw[aav C (lZ N V I<|F.f l rfl) V n (by rw[<-Ba,<-Ap (f:=aC),eE];rw[Q]) (λv x=>by rw[<-Bt,<-AG,eE];rw[p3 v x]) λh' T' vs' ts' r t ff x'=>ab4 (T:=y.u.x.e) i V j fd B k F (Cj P.lp) (Cj P.ln) hr I (AP n) d (P.new _ aE) (P.new _ aE) (λa ha=>P.new a<|.tail _ ha) P.own P.pure.2 (λq H z=>by
   have:=d (-y.u.x.e);have:=ba.mp (show -y.u.x.e∈aH (R.rs y)from z▸Av H);rw[Z0 (rfl:-y.u.x.e=_)]at*
   rw[atY (by assumption) this]) fe t ff.2.2 x' (.inr r)]
def aa7(i:R.Inv fs)(V:env.frame=Y (-f))(d:env.scope.kind≠.module)(ec:R.ec=.am (.func b env))(r:R.fr=[])(H:((R.wf f f0 fs s0).nz j xs xt).aw v2 w<|Y l):((R.wf f f0 fs s0).rz j xt).aq w []<|Y l:=by
 intro A c s n;let E:((R.wf f f0 fs s0).nz j xs xt).fr=[]:=r;let z:=H A c s (by rw[E,];rw[(n.ec,n.hd,n.fs,n.ai,n.un,n.St,n.hs,n.nd,n.af,n.ff)]);cases nN (n.ec.trans ec);rw[abR z (λfl s' g=>?_) λv s' g=>AH ?_]
 .let(_,_,y,P):=g;induction fl<;>cases P.ab
 let C:(A.under<|.func b env).frames=Y (env::l):=by show IN (Ll b env).envs A.frames=_;rw[n.fs l rfl,];rfl
 refine_lift let k:=n.ff l rfl;?_;rw[Al<|BN (aev i V d k.1 k.2 n.St.big g C) (λQ m g=>kc i V d k.1 k.2 n.St.big g C _<|.inr<|.inr rfl) λQ Q h=>h]
theorem iJ{K:X}(I:∀(y:aW) sl,A6 (K.ab (y.ay {y.u.x with sl:=sl})=K.ab y) (K.post (y.ay {y.u.x with sl:=sl})=K.post y) (K.ao (y.ay {y.u.x with sl:=sl})=K.ao y) (K.al (y.ay {y.u.x with sl:=sl})=K.al y) (K.af (y.ay {y.u.x with sl:=sl})=K.af y)<|K.pure y->K.pure (y.ay {y.u.x with sl:=sl}))(V:env.frame=Y (-f))(km:env.scope.kind≠.module)(H:K.aq w []<|Y<|env::l):(K.wf f f0 (λ_=>f0) s0).aq w [env]<|Y l:=by
 intro A c s n;let B:bh s.heap (-f)<|aI f0 s0:=n.hs _ aE;refine_lift let G:Rd:=K.pre++K.aj.flatten;?_;let N:-f∉aH G:=(AC.mp n.nd).1;let E:a7 (env::l)=(-f)::a7 l:=by delta a7;rw[Dd,V]
 let no:∀b,K.own b->b∈aH G:=λb m=>by delta aH;rw[AE,];rw[AB.mpr m]
 rw[BK (H A c s ⟨n.ec,n.hd,λL e=>by cases e;rw[n.fs l rfl],n.ai,n.un,n.St,λq i=>n.hs q<|.tail _ i,(AC.mp n.nd).2,λa h=>n.af a ?_,λL e=>by
  cases e;rw[(lZ km V B (n.ff l rfl).1,λb d m=>?_)];rw[E]at d;rcases Ar.mp d with rfl|d
  .rw[N (no _ m)]
  .rw[(n.ff l rfl).2 b d (m.imp (.tail _) id)]⟩) λr s' ⟨k,F,y,P⟩=>?_]
 .rcases h with m|⟨L,e,m⟩
  .rw[.inl<|m.imp (.tail _) id]
  .cases e;rw[E]at m;rcases Ar.mp m with rfl|m
   .rw[.inl<|.inl aE]
   .rw[.inr ⟨l,rfl,m⟩]
 let(oF,M,rF):=B;let(sl,g1):=F.s (-f) ⟨_,rfl,by rw[E,];rw[aE]⟩ oF M;let(es,m0,sl0,rfl,j):=oV rF;refine_lift let C:=CS aC;?_;let(i0,i1,x,Q,i4,i6):=I y<|sl.toList.map C;let eq:(K.wf f f0 (λ_=>f0) s0).led (y.ay {y.u.x with sl:=sl.toList.map C})++((K.wf f f0 (λ_=>f0) s0).af<|y.ay {y.u.x with sl:=sl.toList.map C}).flatten=(-f,aI f0<|sl.toList.map C)::(K.led y++(K.af y).flatten):=by show((_::(aH K.pre).zip (K.post<|y.ay _))++(K.ao<|y.ay _).zip (K.al<|y.ay _))++(K.af<|y.ay _).flatten=_;rw[i1,x,Q,i4];rfl
 let wo:∀a,K.own a->(K.wf f f0 (λ_=>f0) s0).own a:=λa m=>m.imp (.tail _) id
 rw[(⟨λb o g nb=>k.keep b o g λm=>nb ?_,k.grow,k.g,k.d,k.os⟩,⟨λL e=>by cases e;rw[(F.f _ rfl).2.2],by rintro b ⟨L,e,d⟩;cases e;rw[F.s b ⟨_,rfl,by rw[E,];rw[.tail _ d]⟩]⟩,y.ay {y.u.x with sl:=sl.toList.map C},P.ab.trans i0.symm,?_,?_,?_,?_,?_,?_,i6 P.pure)]
 .rcases m with m|⟨L,e,m⟩
  .rw[.inl<|wo b m]
  .clear g nb;cases e;rw[E]at m;rcases Ar.mp m with rfl|m
   .rw[.inl<|.inl aE]
   .rw[.inr ⟨l,rfl,m⟩]
 .show(K.post<|y.ay _).length+1=K.pre.length+1;rw[i1,];rw[Z8 (·+1) P.lp]
 .show(K.al<|y.ay _).length=(K.ao<|y.ay _).length;rw[Q,x];rw[P.ln]
 .rw[eq,];intro q i;rcases Ar.mp i with rfl|i
  .rw[(_,g1,by show rd _=_;rw[aix,j])]
  .rw[P.hs q i]
 .rw[eq,];rw[AC.mpr ⟨λm=>?_,P.nd⟩];let lt:=AP M;rw[AE]at m;rcases AB.mp m with m|m
  .let m:-f∈aH (K.led y):=m;rw[d8 K P.lp P.ln]at m;rcases AB.mp m with m|m
   .rw[N<|no _<|.inl m]
   .rw[(P.new _ m).elim (λm=>N<|no _<|.inr m) λz=>ZZ lt<|AX.mpr z]
  .rw[(P.own _ m).elim (λm=>N<|no _ m) λz=>ZZ lt<|AX.mpr z]
 .intro a h;let h:a∈K.ao (y.ay _):=h;rw[x]at h;rw[P.new a h]
 .intro a h;let h:a∈aH (K.af<|y.ay _).flatten:=h;rw[i4]at h;rw[(P.own a h).imp (wo a) id]
def qk(i:R.Inv λQ=>f0)(V:env.frame=Y (-f))(k:env.scope.kind≠.module)(H:(R.rz j xt).aq w []<|Y<|env::l):((R.wf f f0 (λQ=>f0) s0).rz j xt).aq w [env]<|Y l:=
 iJ (K:=R.rz j xt) (λy sl=>by
  let(i1,L,I,i4,_,i6):=i y {y.u.x with sl:=sl}
  rw[(rfl,i1,Z8 (_::_::·) L,Z8 (_::_::·) I,i4,λp=>gA.mpr ⟨(gA.mp p).1,i6 (gA.mp p).2⟩)]) V k H
def ab5{K k:X}(B:Rd)(H:(K.rz j xt).aq w fr o)(ec:K.ec=k.ec)(hd:K.hd=k.hd)(ai:K.dt<=k.dt)(un:K.un=0\/K.un=k.un)(pm:((K.pre++K.aj.flatten)++B).Perm<|k.pre++k.aj.flatten)
  (i:∀y,K.pure y->(K.post y).length=K.pre.length->A5 ((k.post y).length=k.pre.length) (k.ao y=K.ao y) (k.al y=K.al y) ((k.led y++(k.af y).flatten).Perm<|(K.led y++(K.af y).flatten)++B) (k.pure y)):(k.rz j xt).aq w fr o:=by
 rw[X.perm B H ec hd ai un pm λy a b c=>?_]
 let(r,d,h,l,p5):=i y (gA.mp a).2 b;rw[(y,rfl,r,?_,?_,gA.mpr ⟨(gA.mp a).1,p5⟩)]
 .show(k.al y).length+2=(k.ao y).length+2;rw[d,h];rw[c]
 .rw[bP λq=>?_]
  let z:=l.count_eq q;show(((aH k.pre).zip (k.post y)++(_::_::(k.ao y).zip (k.al y)))++(k.af y).flatten).count q=((((aH K.pre).zip (K.post y)++(_::_::(K.ao y).zip (K.al y)))++(K.af y).flatten)++B).count q;unfold X.led at z;rw[d,h]at z ⊢;simp only[AQ,B4]at z ⊢;rw[atZ z]
end
structure aK(C:X)(l:Option<|!Env)(s s':AJ)(R:Rd):Prop where
 kp:Kp (λb=>C.own b\/oa l b) s s'
 fr:tF l s.heap s'.heap
 hs:HS s'.heap R
 nd:(aH R).Nodup
 own:∀a∈aH R,C.own a\/s.heap.objs.size<=a
def dw{K:X}{a:AL}:K.own a<->a∈aH (K.pre++K.aj.flatten):=by delta X.own aH;rw[AE,AB]
def aa8(h:r.Perm q):(aH r).Perm<|aH q:=h.map _
section
variable{C D:X}{fr fr':!Env}
def aK.of(n:C.aA w fr l A c s):aK C l s s<|C.pre++C.aj.flatten:=
 ⟨Kp.refl,⟨λL h=>(n.ff L h).1,λb Q o e=>⟨o.slots,e⟩⟩,n.hs,n.nd,λa H=>.inl<|dw.mpr H⟩
def aK.perm(M:aK C l s r R)(pm:R.Perm R0):aK C l s r R0:=
 ⟨M.kp,M.fr,λq H=>M.hs q<|pm.mem_iff.mpr H,(aa8 pm).nodup_iff.mp M.nd,λa h=>M.own a<|(aa8 pm).mem_iff.mpr h⟩
def aK.less(M:aK C l s r<|R++R0):aK C l s r R:=by let nd:=M.nd;unfold aH at nd;rw[AE]at nd;rw[(M.kp,M.fr,λq H=>M.hs q<|Ao _ H,(Bu.mp nd).1,λa h=>M.own a ?_)];delta aH;rw[AE,];rw[Ao _ h]
def aK.frame(n:C.aA w fr l A c s)(M:aK C l s r R)(h:oa l b):b∉aH R:=λm=>by let(L,H,h):=h;rw[(M.own b m).elim ((n.ff L H).2 b h) λz=>ZZ (oH (n.ff L H).1 b h)<|AX.mpr z]
def aK.need(n:C.aA w fr l A c s)(M:aK C l s r<|(D.pre++D.aj.flatten)++R0)(ec:eV i=D.ec)(hd:d.handled=D.hd)(fs:∀L,l=Y L->d.frames=Y (fr'++L))(ai:d.depth+D.dt<jc)(un:D.un=0\/d.units<=D.un):D.aA w fr' l d i r:=by
 let e:=M.less;let j:=λa H=>e.own a<|dw.mp H
 rw[(ec,hd,fs,ai,un,M.kp.sta n.af n.St,e.hs,e.nd,λa H=>H.elim (λm=>(j a m).elim (λz=>n.af a<|.inl z) λz=>j0 w<|Ax n.St.big z) λm=>n.af a<|.inr m,λL h=>⟨M.fr.f L h,λb k m=>e.frame n ⟨L,h,k⟩<|dw.mp m⟩)]
def aK.run(n:C.aA w fr l A c s)(M:aK C l s d<|(D.pre++D.aj.flatten)++R0)(g:D.ax l d r j):∃y,A5 (a0 r=D.ab y) (D.pure y) ((D.post y).length=D.pre.length) ((D.al y).length=(D.ao y).length) (aK C l s j<|(D.led y++(D.af y).flatten)++R0):=by
 let(kp,i,y,P):=g;let x:=M.less;refine_lift let B:Rd:=D.pre++D.aj.flatten;?_;let N:∀a,cn a B+cn a R0<=1:=λa=>by rw[<-a9];rw[eJ M.nd a]
 let E:∀q∈D.led y++(D.af y).flatten,D.own q.1\/d.heap.objs.size<=q.1:=λq H=>by
  rcases AB.mp H with H|H
  .let m:q.1∈aH (D.led y):=Av H;rw[d8 D P.lp P.ln]at m;rcases AB.mp m with m|m
   .rw[.inl<|.inl m]
   .rw[(P.new _ m).imp .inr id]
  .rw[P.own _<|Av H]
 let G:∀q∈R0,A3 (¬D.own q.1) (q.1<d.heap.objs.size) (∃o,j.heap.get? q.1=Y o/\q.2.is o):=λq H=>by
  let h:=Aq B H;let(o,I,L):=M.hs q h;let nw:=λm=>by let Q:=ba.mp (show q.1∈aH R0 from Av H);have:=N q.1;rw[at0 (ba.mp<|dw.mp m) Q this]
  rw[(nw,AP I,o,kp.keep _ o I λm=>m.elim nw λz=>M.frame n z<|Av h,L)]
 rw[(y,P.ab,P.pure,P.lp,P.ln,⟨λb o g q=>kp.keep b o (M.kp.keep b o g q) λm=>m.elim (λz=>(x.own b<|dw.mp z).elim (λz=>q<|.inl z) λz=>ZZ (AP g)<|AX.mpr z) λz=>q<|.inr z,Ax M.kp.grow kp.grow,kp.g.trans M.kp.g,kp.d.trans M.kp.d,kp.os.trans M.kp.os⟩,M.fr.trans i,λq H=>?_,j9 λa=>?_,λa V=>?_)]
 .rw[(AB.mp H).elim (P.hs q) λm=>(G q m).3]
 .let z:=eJ P.nd a;rw[a9,];by_cases k:a∈aH R0
  .let(q,H,rfl):=AM.mp k;let(r1,r2,_):=G q H;have:cn q.1 (D.led y++(D.af y).flatten)=0:=BM λp=>by let(q2,h2,e):=AM.mp<|ba.mpr p;have:=E q2 h2;rw[e]at this;rw[this.elim r1 λz=>ZZ r2<|AX.mpr z]
   have:=N q.1;rw[at1 (by assumption) this]
  .have:cn a R0=0:=BM λp=>k<|ba.mpr p
   rw[at2 z this]
 .let(q,H,rfl):=AM.mp V;rcases AB.mp H with H|H
  .rw[(E q H).elim (λm=>x.own _<|dw.mp m) λz=>.inr<|Ax M.kp.grow z]
  .rw[M.own _<|Av<|Aq _ H]
def aK.fin(n:C.aA w fr l A c s)(M:aK C l s d R)(pm:R.Perm<|(C.led y++(C.af y).flatten)++Jq9)(er:a0 r=C.ab y)(lp:(C.post y).length=C.pre.length)(ln:(C.al y).length=(C.ao y).length)(h:C.pure y):C.ax l s r d:=by
 let M:=(M.perm pm).less;rw[(M.kp,M.fr,y,er,lp,ln,M.hs,M.nd,λa H=>?_,λa H=>M.own a (by delta aH at H ⊢;rw[AE,];rw[Aq _ H]),h)];let e:=d8 C lp ln;let m:a∈aH (C.led y++(C.af y).flatten):=by delta aH;rw[AE,];rw[Ao _ ?_];show a∈aH (C.led y);rw[e,];rw[Aq _ H]
 rcases M.own a m with(z|z)|z
 .let c:=eJ M.nd a;rw[a9]at c;let i:cn a (C.led y)=(aH C.pre).count a+(C.ao y).count a:=by show(aH<|C.led y).count _=_;rw[e,AQ]
  let j:=BR.mpr H;rw[(uF c i (BR.mpr z) j).elim]
 .rw[.inl z]
 .rw[.inr z]
end
def aut{α:Type}{l m r:!α}(h:(l++m).Perm (m++l)->l.Perm r):l.Perm r:=h CG
def abz(h:∀r s,G r s->b r s)(z:CH PW w A G fin s):CH PW w A b fin s:=by
 cases fin with
 |done f=>rw[h _ _ z]
 |again c=>rw[(z.1,BK z.2 h)]
def X.aw.use{D:X}{b:BC->Sem Fin}(H:D.aw b w l){G:BL->AJ->Prop}(nd:D.aA w D.fr l A c s)(h:∀r d,D.ax l s r d->G r d):Bq (AN PW w) A c (b c) (CH PW w A G) (C7 G) s:=
 Bk (H A c s nd) (λQ Q z=>abz h z) λQ Q z=>h _ _ z
def aK.go{w:AW}{C D:X}{l:Option<|!Env}{A d:CB}{c i:BC}{s j:AJ}{R0:Rd}{fr:!Env}{k:BC->Sem Fin}{G:BL->AJ->Prop}(H:D.aw k w l)(n:C.aA w fr l A c s)(M:aK C l s j<|(D.pre++D.aj.flatten)++R0)(ec:eV i=D.ec)(hd:d.handled=D.hd)(fs:∀L,l=Y L->d.frames=Y (D.fr++L))(ai:d.depth+D.dt<jc)(un:D.un=0\/d.units<=D.un)
  (h:∀r e y,a0 r=D.ab y->D.pure y->aK C l s e ((D.led y++(D.af y).flatten)++R0)->G r e):Bq (AN PW w) d i (k i) (CH PW w d G) (C7 G) j:=
 H.use (M.need n ec hd fs ai un) λr e g=>by let(y,er,m,_,_,x):=aK.run n M g;rw[h r e y er m x]
def aK.gn{w:AW}{C D:X}{l:Option<|!Env}{A e:CB}{c i:BC}{s j:AJ}{R0:Rd}{fr:!Env}{k:BC->Sem Fin}{G:BL->AJ->Prop}(H:D.aw k w l)(n:C.aA w fr l A c s)(N:D.aA w D.fr l e i j)(M:aK C l s j<|(D.pre++D.aj.flatten)++R0)
  (h:∀r d y,a0 r=D.ab y->D.pure y->aK C l s d ((D.led y++(D.af y).flatten)++R0)->G r d):Bq (AN PW w) e i (k i) (CH PW w e G) (C7 G) j:=
 H.use N λr d g=>by let(y,er,m,_,_,x):=aK.run n M g;rw[h r d y er m x]
def l0{G:Prop}(h:a0 r=e)(a:∀v,r=.ok (.ret v)->.ok (aC v)=e->G)(b:∀v,r=.error v->.err v=e->G)(c:∀f,r=.ok f->.au f=e->G):G:=by
 cases r with
 |error v=>rw[b v rfl h]
 |ok f=>
  clear b;cases f with
  |ret v=>rw[a v rfl h]
  |_=>rw[c _ rfl h]
def iK(h:a0 r=.ok x):∃t,r=.ok (.ret<|x.val t):=
 l0 h (λv e q=>by
  let(t,u):=bA (v:=v) (EE.ok.inj q)
  rw[(t,e.trans<|Z8 _<|Z8 _ u)]) (λQ Q q=>nomatch q) λQ Q q=>nomatch q
def oY(h:a0 r=.err v):r=.error v:=l0 h (λQ Q q=>nomatch q) (λQ e q=>EE.err.inj q▸e) λQ Q q=>nomatch q
def ch(h:a0 r=.au fl):r=.ok fl:=l0 h (λQ Q q=>nomatch q) (λQ Q q=>nomatch q) λQ e q=>EE.au.inj q▸e
noncomputable def xJ(ec:EC)(e:Nat)(cl:AF)(vs:!SV):X:={ec,hd:=Y<|.ref<| -e,ai:=450,pre:=[(-e,.fld cl vs)],ab:=λQ=>.au .brk,post:=λQ=>[.fld cl vs]}
section
variable{C R K4:X}
def ab6(n:C.aA w fr (Y l) A c s)(wt:c.weight<=1)(H:(A.under c).frames=Y (env::l))(L:R.Inv fs)(ef:env.frame=Y (-f))(km:env.scope.kind≠.module)(M:aK C (Y l) s s1<|(((R.wf f f0 fs s0).rz j xt).pre++((R.wf f f0 fs s0).rz j xt).aj.flatten)++R0)(d:D4+1<=C.dt)
  (g:((R.wf f f0 fs s0).rz j xt).ax (Y l) s1 (.error v) k)(V:aW->Rd)(K4:aW->X)(hq:∀y:aW,(xJ (.am<|.handlers (.ref<| -y.u.x.e) [.ExceptHandler (Y t) As [] pos] env) y.u.x.e j y.u.x.vs).Holds w)(h4:∀y,((R.wf f f0 fs s0).rz j xt).pure y->(K4 y).aq w [env] (Y l))
  (ec:∀y,(K4 y).ec=.am (.handlers (.ref<| -y.u.x.e) [.ExceptHandler As As body pos] env))(hd:∀y,(K4 y).hd=Y (.ref<| -y.u.x.e))(d4:∀y,(K4 y).dt=D4)(u4:∀y,(K4 y).un=0)(r4:∀y z,(K4 y).ab z=.au fl)
  (pm:∀y,((R.wf f f0 fs s0).rz j xt).pure y->(R.post y).length=R.pre.length->(R.al y).length=(R.ao y).length->((((R.wf f f0 fs s0).rz j xt).led y++(((R.wf f f0 fs s0).rz j xt).af y).flatten)++R0).Perm (((K4 y).pre++(K4 y).aj.flatten)++V y))(x:450<=D4:=by decide):
  A0 (AN PW w) (A.under c) (Fb v As) (λ_ i=>A0 (AN PW w) (A.under c) (Ha v env<|.ExceptHandler (Y t) As body pos::hs) (λfo B=>fo=fl/\dK λy z=>A3 (((R.wf f f0 fs s0).rz j xt).pure y) ((K4 y).pure z)<|aK C (Y l) s B<|((K4 y).led z++((K4 y).af z).flatten)++V y) (λ_ _=>False) i) (λ_ _=>False) k:=by
 let hv:∃e,v=.ref e:=by
  let(_,_,y,P):=g;cases show v=.ref (-y.u.x.e)from EE.err.inj P.ab
  rw[(_,rfl)]
 let(e,rfl):=hv;let fd:∀b∈a7 l,¬(R.wf f f0 fs s0).own b:=λb hb m=>M.less.frame n ⟨l,rfl,hb⟩<|dw.mp m
 let N:=Ax n.St.big M.kp.grow;rw[BN (kc L ef km (M.fr.f l rfl) fd N g H _<|.inr<|.inr rfl) (λ_ i g=>?_) λ_ _ h=>h]
 let(y,er,Q,lp,ln,M3):=aK.run n M g;clear g;cases show e=-y.u.x.e from LM (EE.err.inj er)
 refine_lift let I:=(R.wf f f0 fs s0).rz j xt;?_;let(p,q,pq):=BS (show(-y.u.x.e,SO.fld j y.u.x.vs)∈(I.led y++(I.af y).flatten)++R0 from Ao _<|Ao _<|Aq _ aE);refine_lift let K1:=xJ (.am<|.handlers (.ref<| -y.u.x.e) [.ExceptHandler (Y t) As [] pos] env) y.u.x.e j y.u.x.vs;?_;let M4:=M3.perm (R0:=((K1.pre++K1.aj.flatten)++(p++q))) (pq▸El);let dp:(A.under c).depth+D4<jc:=by have:=n.ai;rw[at3 wt d this]
 rw[wpAny_handleBy_cons (BK ((hq y).at [env] (Y l) ((A.under c).mark<|Y<|.ref<| -y.u.x.e) _ i<|aK.need n M4 rfl rfl (λl' e=>by cases e;rw[H]) (AV (Em x _) dp)<|.inl rfl) λr s4 g4=>?_) (by intro q;rw[nomatch q])];let(y3,E,_,_,_,M5):=aK.run n M4 g4;clear er g g4;obtain rfl:r=.ok .brk:=ch E
 let M6:=(M5.perm (R0:=(I.led y++(I.af y).flatten)++R0) (by
  rw[pq,]
  rw[(El.symm:((-y.u.x.e,SO.fld j y.u.x.vs)::(p++q)).Perm _)])).perm (pm y Q (Cj lp)<|Cj<|Cj ln)
 rw[BK (h4 y Q ((A.under c).mark<|Y<|.ref<| -y.u.x.e) _ s4<|aK.need n M6 (ec y).symm (hd y).symm (λl' e=>by cases e;rw[H]) (by rw[d4,];rw[dp])<|.inl<|u4 y) λr s5 g5=>?_]
 let(z,G,pz,_,_,M7):=aK.run n M6 g5;rw[r4]at G;clear E g5;obtain rfl:=ch G;rw[(rfl,y,z,Q,pz,M7)]
def ab7(n:C.aA w fr (Y l) A c s)(G:c.weight<=1)(H:(A.under c).frames=Y (env::l))(i:R.Inv fs)(E:env.frame=Y (-f))(B:env.scope.kind≠.module)(M:aK C (Y l) s I<|(((R.wf f f0 fs s0).rz j xt).pre++((R.wf f f0 fs s0).rz j xt).aj.flatten)++R0)(d:D4+1<=C.dt)
  (g:((R.wf f f0 fs s0).rz j xt).ax (Y l) I (.error v) L)(V:aW->Rd)(K4:aW->X)(N:∀y:aW,(xJ (.am<|.handlers (.ref<| -y.u.x.e) [.ExceptHandler (Y t) As [] pos] env) y.u.x.e j y.u.x.vs).Holds w)(Q:∀y,((R.wf f f0 fs s0).rz j xt).pure y->(K4 y).aq w [env] (Y l))
  (ec:∀y,(K4 y).ec=.am (.handlers (.ref<| -y.u.x.e) [.ExceptHandler As As body pos] env))(hd:∀y,(K4 y).hd=Y (.ref<| -y.u.x.e))(d4:∀y,(K4 y).dt=D4)(u4:∀y,(K4 y).un=0)(r4:∀y z,(K4 y).ab z=.au fl)
  (pm:∀y,((R.wf f f0 fs s0).rz j xt).pure y->(R.post y).length=R.pre.length->(R.al y).length=(R.ao y).length->((((R.wf f f0 fs s0).rz j xt).led y++(((R.wf f f0 fs s0).rz j xt).af y).flatten)++R0).Perm (((K4 y).pre++(K4 y).aj.flatten)++V y))(x:450<=D4:=by decide):
  A0 (AN PW w) (A.under c) (CL v env) (λ_ e=>A0 (AN PW w) (A.under c) (Fb v As) (λ_ k=>A0 (AN PW w) (A.under c) (Ha v env<|.ExceptHandler (Y t) As body pos::hs) (λfo r=>fo=fl/\dK λy z=>A3 (((R.wf f f0 fs s0).rz j xt).pure y) ((K4 y).pure z)<|aK C (Y l) s r<|((K4 y).led z++((K4 y).af z).flatten)++V y) (λ_ _=>False) k) (λ_ _=>False) e) (λ_ _=>False) L:=
 BN (kc i E B (M.fr.f l rfl) (λb hb m=>M.less.frame n ⟨l,rfl,hb⟩<|dw.mp m) (Ax n.St.big M.kp.grow) g H _<|.inr<|.inl rfl) (λ_ _ g=>ab6 n G H i E B M d g V K4 N Q ec hd d4 u4 r4 pm x) λ_ _ h=>h
def agF(n:C.aA w fr (Y l) A c s)(G:c.weight<=1)(H:(A.under c).frames=Y (env::l))(i:R.Inv fs)(E:env.frame=Y (-f))(B:env.scope.kind≠.module)(M:aK C (Y l) s I<|(((R.wf f f0 fs s0).rz j xt).pre++((R.wf f f0 fs s0).rz j xt).aj.flatten)++R0)(d:D4+1<=C.dt)
  (g:((R.wf f f0 fs s0).nz j xs xt).ax (Y l) I (.error v) L)(V:aW->Rd)(K4:aW->X)(N:∀y:aW,(xJ (.am<|.handlers (.ref<| -y.u.x.e) [.ExceptHandler (Y t) As [] pos] env) y.u.x.e j y.u.x.vs).Holds w)(Q:∀y,((R.wf f f0 fs s0).rz j xt).pure y->(K4 y).aq w [env] (Y l))
  (ec:∀y,(K4 y).ec=.am (.handlers (.ref<| -y.u.x.e) [.ExceptHandler As As body pos] env))(hd:∀y,(K4 y).hd=Y (.ref<| -y.u.x.e))(d4:∀y,(K4 y).dt=D4)(u4:∀y,(K4 y).un=0)(r4:∀y z,(K4 y).ab z=.au fl)
  (pm:∀y,((R.wf f f0 fs s0).rz j xt).pure y->(R.post y).length=R.pre.length->(R.al y).length=(R.ao y).length->((((R.wf f f0 fs s0).rz j xt).led y++(((R.wf f f0 fs s0).rz j xt).af y).flatten)++R0).Perm (((K4 y).pre++(K4 y).aj.flatten)++V y))(x:450<=D4:=by decide):
  A0 (AN PW w) (A.under c) (CL v env) (λ_ e=>A0 (AN PW w) (A.under c) (Fb v As) (λ_ k=>A0 (AN PW w) (A.under c) (Ha v env<|.ExceptHandler (Y t) As body pos::hs) (λfo r=>fo=fl/\dK λy z=>A3 (((R.wf f f0 fs s0).rz j xt).pure y) ((K4 y).pure z)<|aK C (Y l) s r<|((K4 y).led z++((K4 y).af z).flatten)++V y) (λ_ _=>False) k) (λ_ _=>False) e) (λ_ _=>False) L:=
 BN (aev i E B (M.fr.f l rfl) (λb hb m=>M.less.frame n ⟨l,rfl,hb⟩<|dw.mp m) (Ax n.St.big M.kp.grow) g H) (λ_ _ g=>ab6 n G H i E B M d g V K4 N Q ec hd d4 u4 r4 pm x) λ_ _ h=>h
end
def fq{l:DL}{ep:Nat}{o:Obj}:(dct l ep).is o<->DP l ep o:=by
 constructor
 .intro h;let(H,es,e):=show rd o=aM l/\∃es,o.data=.dict es ep from h
  let(E,n,rfl,b):=aa0 H;cases e;rw[(_,rfl,b)]
 .intro h;let H:=h.so;let(es,rfl,_):=h;rw[(H,es,rfl)]
def ui(C:Ct)(d:AL)(l:DL):X:={ec:=C.ec,hd:=C.hd,ai:=C.ai,pre:=C.pre,aj:=[[(d,aM l)]],ab:=C.ab,post:=C.post,ao:=λy=>[nu y 0],al:=C.al,af:=λy=>[[(d,dct l<|y.n 1)]]}
def l6(H:C.Holds w)(x:C.k=1)(A:∀b,¬C.fp b)(Pre:∀h,bh h d (aM l)->C.Pre h)(Post:∀y h h',C.Post y h h'->∃o,h.get? d=Y o/\DP l (y.n 1) o):(ui C d l).Holds w:=by
 let sp:(aH<|C.pre++[(d,aM l)]).Nodup->(aH C.pre).Nodup/\d∉aH C.pre:=λnd=>by delta aH at nd;rw[AE]at nd;let(a,_,b):=Bu.mp nd;rw[(a,λm=>b d m d aE rfl)]
 rw[X.of_ct H rfl rfl (AA _) (λb j=>j.elim .inl λm=>(A b m).elim) (λh n nd=>⟨λq c=>n q<|Ao _ c,(sp nd).1,Pre h<|n _<|Aq _ aE⟩) λs r V y n nd E P=>?_]
 let(G,N):=sp nd;let ln:=P.ln.trans x;let(so,k):=List.length_eq_one_iff.mp ln;let pn:=P.al;let pf:=P.fresh;rw[x]at pn pf;rw[k]at pn;let(o,g,I):=Post y _ _ P.ext;refine_lift let B:=[(d,dct l<|y.n 1)];?_;let e:(ui C d l).led y++((ui C d l).af y).flatten=((aH C.pre).zip (C.post y)++[(nu y 0,so)])++B:=by show(_++([nu y 0].zip<|C.al y))++B=_;rw[k,];rfl
 rw[(y,P.ab,P.lp,ln,?_,?_,λa i=>.inr ?_,λa i=>?_,trivial)]
 .rw[e,];intro q c;rcases AB.mp c with c|c
  .rcases AB.mp c with c|c
   .rw[P.post q c]
   .cases Au.mp c;rw[pn _ aE]
  .cases Au.mp c;rw[(o,E.keep _ o g λm=>m.elim N<|A d,fq.mpr I)]
 .let L:aH ((ui C d l).led y++((ui C d l).af y).flatten)=(aH C.pre++[nu y 0])++[d]:=by rw[e,];delta aH;rw[AE,AE];show((aH<|(aH C.pre).zip<|C.post y)++_)++_=_;rw[aH,List.map_fst_zip (by delta aH;rw[Ap,P.lp];rw[AA _])];rfl
  rw[L,];rw[Bu.mpr ⟨Bu.mpr ⟨G,AC.mpr ⟨BF,AS⟩,λa i b j q=>?_⟩,AC.mpr ⟨BF,AS⟩,λa i b j q=>?_⟩]
  .cases Au.mp j;let(r,M,rfl):=AM.mp i;let(o2,Q,_):=n r<|Ao _ M;rw[ZZ (AP Q)<|AX.mpr (q▸pf _ aE)]
  .cases Au.mp j;rcases AB.mp i with m|m
   .rw[N (q▸m)]
   .cases Au.mp m;rw[Dz (Dl (AP g)<|pf _ aE) q]
 .cases Au.mp (show a∈[nu y 0]from i);rw[pf _ aE]
 .cases Au.mp (show a∈[d]from i);rw[.inl<|.inr aE]
def Ct.ktB(C:Ct)(R:Rd):X:={C.kt with aj:=[R],af:=λQ=>[R]}
def rZ{w:AW}{C:Ct}{R:Rd}(H:C.Holds w)(l:∀b,¬C.fp b)(Pre:∀h,HS h (C.pre++R)->(aH<|C.pre++R).Nodup->C.Pre h):(C.ktB R).Holds w:=by
 let e0:([R]:!Rd).flatten=R:=Az R;let n:∀{p:Rd},(aH<|p++R).Nodup->A3 ((aH p).Nodup) ((aH R).Nodup) (∀a∈aH p,∀b∈aH R,a≠b):=λh=>by delta aH at h;rw[AE]at h;rw[have⟨a,b,c⟩:=Bu.mp h;⟨a,b,c⟩]
 rw[X.of_ct H rfl rfl (AA _) (λb i=>i.elim .inl λm=>(l b m).elim) (λh d nd=>?_) λs r x y d nd A P=>?_]
 .let d:HS h<|C.pre++[R].flatten:=d;let nd:(aH<|C.pre++[R].flatten).Nodup:=nd;rw[e0]at d nd;rw[(λq e=>d q<|Ao _ e,(n nd).1,Pre h d nd)]
 .let d:HS s.heap<|C.pre++[R].flatten:=d;let nd:(aH<|C.pre++[R].flatten).Nodup:=nd;rw[e0]at d nd;let(B,E,N):=n nd;let ln:(C.al y).length=(m9 y C.k 0).length:=by rw[(λy=>jy y C.k 0),];rw[P.ln]
  rw[(y,P.ab,P.lp,ln,?_,?_,λa j=>.inr<|P.fresh a j,λa j=>.inl<|.inr j,trivial)]
  .show HS x.heap<|((aH C.pre).zip (C.post y)++(m9 y C.k 0).zip (C.al y))++[R].flatten;rw[e0,];intro q e;rcases AB.mp e with e|e
   .rw[(AB.mp e).elim (P.post q)<|P.al q]
   .let(o,g,r):=d q<|Aq _ e;rw[(o,A.keep _ o g λm=>m.elim (λm=>N _ m _ (Av e) rfl)<|l _,r)]
  .let G:aH ((C.ktB R).led y++((C.ktB R).af y).flatten)=(aH C.pre++m9 y C.k 0)++aH R:=by show aH ((C.kt).led y++[R].flatten)=_;rw[e0,];delta aH;rw[AE,];rw[Z8 (·++_)<|d8 C.kt P.lp ln]
   rw[G,];let L:∀b∈aH (C.pre++R),∀c∈m9 y C.k 0,b≠c:=λb i c k q=>by subst q;let(q,e,rfl):=AM.mp i;let(o,g,_):=d q e;rw[ZZ (AP g)<|AX.mpr<|P.fresh _ k]
   let M:∀{b},b∈aH R->b∈aH (C.pre++R):=λh=>by delta aH;rw[AE,];rw[Aq _ h]
   rw[Bu.mpr ⟨Bu.mpr ⟨B,P.nd,λb i c k=>L b ((λh=>by delta aH;rw[AE,];rw[Ao _ h]) i) c k⟩,E,λa j b i q=>?_⟩];rw[(AB.mp j).elim (λm=>N a m b i q) λm=>L b (M i) a m q.symm]
def X.permJ{w:AW}{K k:X}{fr:!Env}{l:Option<|!Env}(R:Rd)(H:K.aq w fr l)(ec:K.ec=k.ec)(hd:K.hd=k.hd)(ai:K.dt<=k.dt)(un:K.un=0\/K.un=k.un)
  (pm:((K.pre++K.aj.flatten)++R).Perm<|k.pre++k.aj.flatten)
  (e:∀y,K.pure y->(K.post y).length=K.pre.length->(K.al y).length=(K.ao y).length->dK λd Jq9=>A5 (k.ab d=K.ab y) ((k.post d).length=k.pre.length) ((k.al d).length=(k.ao d).length) (((k.led d++(k.af d).flatten)++Jq9).Perm<|(K.led y++(K.af y).flatten)++R)<|k.pure d):k.aq w fr l:=by
 let C:∀{r q:Rd}(a:AL),r.Perm q->cn a r=cn a q:=λa h=>(show(aH _).Perm (aH _)from h.map _).count_eq a
 rw[X.mono R H ec hd ai un (λq h=>pm.subset<|AB.mpr h) (λa=>by rw[<-a9];rw[AY<|C a pm]) λy a b c=>?_]
 let(d,Jq9,i,m,n,j,x):=e y a b c;rw[(d,i,m,n,λq A=>AB.mp<|j.subset<|Ao _ A,λa=>?_,x)];let z:=C a j;rw[a9 _ _ Jq9,a9 _ _ R]at z;rw[Ax (BG _ _)<|AY z]
def zh(hd:Option AF)(a b:AL)(xs ys:!SV):Ct:=⟨.bi "list.__add__" [.ref a,.ref b] [],hd,400,[(a,.seq Lt xs),(b,.seq Lt ys)],1,λy=>.ok<|.ref<|nu y 0,λQ=>[.seq Lt xs,.seq Lt ys],λQ=>[.seq Lt<|xs++ys],λQ=>False,λQ=>True,λQ Q Q=>True⟩
def r5 hd w a b xs ys (hl:xs.length+ys.length<=AO):(zh hd a b xs ys).Holds w:=by
 intro A c d ec E _ St m _ _ _;let(_,rfl):=aS ec;let(Q,H,i):=m _ aE;let(o2,j,k):=m _ ce;let n:=k;let(i1,N,rfl,C):=c0 i;let(L,r,rfl,I):=c0 k;let x:i1.size+L.size<=AO:=by rwa [<-Ba,<-Ap (f:=aC),C,<-Ba,<-Ap (f:=aC),I]
 let e0:d.heap.objs.size-902+902=d.heap.objs.size:=Bo St.big;let keep:∀{b:AL}{o:Obj},d.heap.get? b=Y o->(d.heap.push {cls:=Lt,data:=.seq<|i1++L}).get? b=Y o:=λe=>AU _ e
 rw[bk (by decide+kernel) I9 (IA a i1 N b L r x) ⟨H,j,⟨λb o e V=>keep e,by rw[Cq,];rw[CE _],rfl,rfl,rfl⟩,yA [d.heap.objs.size-902],Z8 (λa=>EE.ok<|.ref a) e0.symm,λq l=>?_,rfl,λq l=>?_,rfl,λb B=>?_,AC.mpr ⟨(λh=>nomatch h),AS⟩,trivial⟩]
 .rcases Ar.mp (show q∈[(a,SO.seq Lt xs),(b,.seq Lt ys)]from l)with rfl|l
  .rw[(_,keep H,i)]
  .cases Au.mp l;rw[(_,keep j,n)]
 .cases Au.mp (show q∈[(d.heap.objs.size-902+902,SO.seq Lt (xs++ys))]from l);dsimp only;rw[e0,];rw[(_,BB _ rfl,?_)];show rd _=_;rw[oC,HC,AE,C,I]
 .cases Au.mp (show b∈[d.heap.objs.size-902+902]from B);rw[AY e0.symm]
inductive Tr where
 |n
 |a (i:Nat)
 |p (l r:Tr)
noncomputable def Tr.ev{α:Type}(e:List<|!α):Tr->!α
 |.n=>[]
 |.a i=>e.getD i []
 |.p l r=>l.ev e++r.ev e
noncomputable def Tr.fl:Tr->!Nat
 |.n=>[]
 |.a i=>[i]
 |.p l r=>l.fl++r.fl
theorem Tr.ev_fl{α:Type}(e:List<|!α):∀t:Tr,t.ev e=t.fl.flatMap λi=>e.getD i []
 |.n=>rfl
 |.a i=>(Az _).symm
 |.p l r=>by show l.ev e++r.ev e=(l.fl++r.fl).flatMap _;rw[CC,Tr.ev_fl e l,Tr.ev_fl e r]
def Tr.pm{α:Type}(e:List<|!α)(l r:Tr)(h:l.fl.isPerm r.fl=J):(l.ev e).Perm<|r.ev e:=by rw[Tr.ev_fl,Tr.ev_fl];rw[(List.isPerm_iff.mp h).flatMap_right _]
noncomputable def Tr.dc:Nat->Nat->Tr×Nat
 |0,x=>(.n,x)
 |f+1,x=>match x%32 with
  |0=>match dc f (x/32)with
   |(l,m)=>match dc f m with
    |(r,m)=>(.p l r,m)
  |1=>(.n,x/32)
  |i+2=>(.a i,x/32)
def Tr.st{α:Type}(e:List<|!α)(l r:Tr):Prop:=match l.fl.isPerm r.fl with
 |true=>(l.ev e).Perm<|r.ev e
 |false=>True
def Tr.pmE{α:Type}(e:List<|!α) x {P:Prop}(h:Tr.st e (Tr.dc 40 x).1 (Tr.dc 40 (Tr.dc 40 x).2).1=P:=by kernel_rfl):P:=by
 rw[h▸?_];unfold Tr.st;split
 .rw[Tr.pm e _ _ (by assumption)]
 .trivial
def cq(x:Nd):SO:=.inst (.ref 745) (Y<| -x.da) [Y<|.str x.k,Y<|.int x.np,Y<|rf x.sa]
noncomputable def aG(l:!U):!SV:=l.map .str
structure So where
 so:Nat
 sd:Nat
 nd:Nat
noncomputable def ca(g:So):SO:=.inst (.ref 842) (Y<| -g.sd) []
def cu(g:So)(r:SV)(a b:Int):SO:=.ns tA [(sS "_node2info",rf g.nd),(sS "_ready_nodes",r),(sS "_npassedout",.int a),(sS "_nfinished",.int b)]
def aT(aa:!Nd):DL:=aa.map λx=>(x.k,rf x.ia)
def bj(x:Nd):Rd:=[(-x.ia,cq x),(-x.da,.ns tA []),(-x.sa,.seq Lt<|aG x.sc)]
def gnR(g:So)(r:SV)(a b:Int)(aa:!Nd):Rd:=(-g.so,ca g)::(-g.sd,cu g r a b)::(-g.nd,aM<|aT aa)::aa.flatMap bj
def arq(h:cU (aT aa) k=Y v):n9 λl1 x l2=>A3 (aa=l1++x::l2) (x.k=k) (v=rf x.ia):=by
 cases aa with
 |nil=>cases h
 |cons z l i=>
  let h:(if z.k==k then Y (rf z.ia)else cU (aT l) k)=Y v:=h;cases e:z.k==k with
  |true=>rw[e]at h;rw[([],z,l,rfl,BX e,(B3 h).symm)]
  |false=>rw[e]at h;let(l1,x,l2,rfl,H,b):=i h;rw[(z::l1,x,l2,rfl,H,b)]
def ajW(h:cU (aT aa) k=As):iE (aT aa) k v=aT aa++[(k,v)]:=iF<|j5.mp h
abbrev Pn:=U×Int×!U
noncomputable def Nd.pn(x:Nd):Pn:=(x.k,x.np,x.sc)
abbrev dM(aa:!Nd):!Pn:=aa.map Nd.pn
noncomputable def oZ:!Pn->U->Bool
 |[],_=>O
 |p::l,k=>p.1==k||oZ l k
def fM(l:!Pn)(k:U):!Pn:=if oZ l k then l else l++[(k,0,[])]
noncomputable def gj(l:!Pn)(k:U)(f:Int×!U->Int×!U):!Pn:=l.map λp=>if p.1==k then(p.1,f p.2)else p
noncomputable def k5(k:U):!U->!Pn->!Pn
 |[],l=>l
 |p::d,l=>k5 k d<|gj (fM l p) p λq=>(q.1,q.2++[k])
def k9(l:!Pn)(k:U)(ps:!U):!Pn:=k5 k ps<|gj (fM l k) k λq=>(q.1+ps.length,q.2)
noncomputable def aX(l:!Pn):!U:=l.map (·.1)
def hR:oZ l k=J<->k∈aX l:=by
 cases l with
 |nil=>rw[((λh=>nomatch h),(λh=>nomatch h))]
 |cons p l i=>
  unfold oZ;rw[D7,i];constructor
  .rintro(h|h)
   .rw[<-BX h];rw[aE]
   .rw[.tail _ h]
  .intro h;rcases Ar.mp h with rfl|h
   .rw[.inl<|ZY _]
   .rw[.inr h]
def eK(h:(aX l).Nodup):(aX<|fM l k).Nodup:=by
 delta fM;split
 .rw[h]
 .rename_i n;delta aX;rw[AE,];rw[Bu.mpr ⟨h,AC.mpr ⟨(λh=>nomatch h),AS⟩,λa H b c e=>?_⟩];rw[Au.mp (show b∈[k]from c)]at e;subst e;rw[n<|hR.mpr H]
def bc:aX (gj l k f)=aX l:=by
 delta aX gj;rw[BW,];rw[DH λp Q=>?_]
 show(if p.1==k then(p.1,f p.2)else p).1=p.1;split<;>rfl
def ab8:cU (aT aa) k=As->oZ (dM aa) k=O:=by
 cases aa with
 |nil=>rw[λQ=>rfl]
 |cons x l i=>
  intro h;let h:(if x.k==k then Y (rf x.ia)else cU (aT l) k)=As:=h;show(x.k==k||oZ (dM l) k)=O;cases e:x.k==k with
  |true=>rw[e]at h;rw[nomatch h]
  |false=>rw[e]at h;rw[i h]
def l7 a b:aG (a++b)=aG a++aG b:=by rw[AE]
def o6 a b:aT (a++b)=aT a++aT b:=by rw[AE]
def P3(g:So)(r:SV)(a b:Int)(d:SO):Rd:=[(-g.so,ca g),(-g.sd,cu g r a b),(-g.nd,d)]
noncomputable def nw(k:U)(y:aW):Nd:=⟨k,0,[],y.n 0,y.n 1,y.n 2⟩
def giN(g:So)(r:SV)(a b:Int)(aa:!Nd)(k:U):X:={ec:=.call (.ref 785) [rf g.so,.str k] [],ai:=700,pre:=P3 g r a b<|aM<|aT aa,ab:=λy=>.ok<|rf<|y.n 0,post:=λy=>[ca g,cu g r a b,aM<|aT<|aa++[nw k y]],ao:=λy=>[nu y 0,nu y 1,nu y 2],al:=λy=>[cq<|nw k y,.ns tA [],.seq Lt []]}
def giF(g:So)(r:SV)(a b:Int)(dl:DL)(k:U)(ia:Nat):X:={ec:=.call (.ref 785) [rf g.so,.str k] [],ai:=700,pre:=P3 g r a b<|aM dl,ab:=λy=>.ok<|rf ia,post:=λy=>[ca g,cu g r a b,aM dl]}
def ajX(g:So)(r:SV)(a b:Int)(aa:!Nd)(k:U)(_:Bool)(N:Nat):Nt:=
 (.v (dg 26 0x34333320110001000014444400) (hM As "dict.get" [.ref<| -g.nd,.str k] (-g.nd) (aM<|aT aa)<|.ok .none) [2] [] λx=>
 (.v (dg 157 0x3334201100010000146060000006000000000606006000676060000006000000000606006000676060000006000000000606006000677777700000060600000000000000000000000000000004044) (hN As "dict.__setitem__" [.ref<| -g.nd,.str k,.ref<|x.t 1+1+902] (-g.nd) (aM<|aT aa) (aM<|aT<|aa++[nw k<|yA [x.t 1+1,x.t 1,x.t 1+3]])<|.ok .none) [2] [] λn=>
 (.f [4,4,4] [0,1,2,5,4,7] [J,J,J,O,O,O] []<|yA [x.t 1+1,x.t 1,x.t 1+3])))
def ajY(g:So)(r:SV)(a b:Int)(aa:!Nd)(k:U)(ia:Nat)(_:Bool)(N:Nat):Nt:=
 (.v (dg 26 0x34333320110001000014444400) (hM As "dict.get" [.ref<| -g.nd,.str k] (-g.nd) (aM<|aT aa)<|.ok<|rf ia) [2] [] λx=>
 (.g [4,4,4] [0,1,2] []<|y0))
def qQ a:(-a:AL)≠1:=λe=>by let e:=e;rw[alW (by assumption)]
noncomputable def wrB(hd:Option AF)(id:String)(pos:!SV)(R0 L:Rd)(a:AL)(so so':SO)(R1:Rd)(ab:EE):X:={ec:=.bi id pos [],hd,ai:=400,aj:=[R0++(L++((a,so)::R1))],ab:=λQ=>ab,af:=λQ=>[R0++(L++((a,so')::R1))]}
def gR{w:AW}{hd:Option AF}{id:String}{pos:!SV}{R0 L R1:Rd}{a:AL}{so so':SO}{ab:EE}(H:(hN hd id pos a so so' ab).Holds w):(wrB hd id pos R0 L a so so' R1 ab).Holds w:=by
 let b:=λso=>(El (a:=(a,so)) (l₁:=R0) (l₂:=L++R1)).symm.trans<|GY R0 El.symm
 rw[X.perm (R0++(L++R1)) H rfl rfl (AA _) (.inl rfl) ((b so).trans<|.of_eq (Az _).symm) λy Q Q Q=>⟨y,rfl,rfl,rfl,(Ln<|Az _).trans (b so').symm,trivial⟩]
noncomputable def setG(x:Nd)(q:Int):X:=hN As "object.__setattr__" [rf x.ia,sS "npredecessors",.int q] (-x.ia) (cq x) (cq {x with np:=q})<|.ok .none
def bF(l1:!Nd)(v:Nd)(l2:!Nd):Rd:=l1.flatMap bj++(bj v++l2.flatMap bj)
def nO l1 v l2:bF l1 v l2=(l1++v::l2).flatMap bj:=(CC.trans<|Z8 _ Cn).symm
noncomputable abbrev mN(y:aW):!Nd:=y.u.na++y.u.nd::y.u.nb
def yU(l1:!Nd)(v:Nd)(l2:!Nd)(d:DL):aW:={y0 with u:={na:=l1,nb:=l2,nd:=v},d:=λQ=>d}
def u7(g:So)(r:SV)(a b:Int)(R:Rd)(d:DL)(aa:!Nd)(k:U):X:={ec:=.call (.ref 785) [rf g.so,.str k] [],ai:=700,pre:=P3 g r a b<|aM d,aj:=[R],ab:=λy=>.ok<|rf y.u.nd.ia,post:=λy=>[ca g,cu g r a b,aM<|aT<|mN y],af:=λy=>[bF y.u.na y.u.nd y.u.nb],pure:=λy=>y.u.nd.k=k/\dM (mN y)=fM (dM aa) k}
def npG(l1:!Nd)(v:Nd)(l2:!Nd)(q:Int):X:={ec:=.bi "object.__setattr__" [rf v.ia,sS "npredecessors",.int q] [],ai:=400,aj:=[bF l1 v l2],ab:=λQ=>.ok .none,af:=λQ=>[bF l1 {v with np:=q} l2]}
def aew w l1 v l2 q:(npG l1 v l2 q).Holds w:=gR (R0:=l1.flatMap bj) (L:=[]) (R1:=(-v.da,.ns tA [])::(-v.sa,.seq Lt<|aG v.sc)::l2.flatMap bj) (by
  let e:aR w (setG v q) 600 λQ Q=>.f [0,1,0,1,0,0,0,0,0,0,0,0,0,1,0,0,0,0,0,0,1,0,1] [0] [O] [] y0:=by rw[aF]
  rw[X.ap e rfl λQ Q=>pF rfl Z9])
def apN(l1:!Nd)(v:Nd)(l2:!Nd)(k:U):X:={ec:=.bi "list.append" [.ref<| -v.sa,.str k] [],ai:=400,aj:=[bF l1 v l2],ab:=λQ=>.ok .none,af:=λQ=>[bF l1 {v with sc:=v.sc++[k]} l2]}
def arr:∀{aa:!Nd},cU (aT aa) k=As->oZ (dM aa) k=O:=λh=>ab8 h
def ab9 w g r a b aa k (H:R=aa.flatMap bj)(hd:d=aT aa)(hl:aa.length<=100):(u7 g r a b R d aa k).Holds w:=by
 subst H hd;let nn:∀P:Rd,(P++[])++aa.flatMap bj=P++(aa.flatMap bj++[]):=λP=>by rw[Az,Az]
 cases h:cU (aT aa) k with
 |none=>
  let e:∀(P R T:Rd),(P++((R++(T++[]))++[])).Perm<|((P++T)++[])++R:=λP R T=>by simp only[Az,AD];rw[GY P CG]
  rw[X.perm (aa.flatMap bj) (X.ap (F:=1500) (nt:=(ajX g r a b aa k)) aF rfl λγ N=>pU rfl (bp<|oJ w _ _ _ _ (by rw[h,];rfl)<|qQ _) λc Q=>pU rfl (gQ (by
    let z:=oM w As (-g.nd) (aT aa) k (rf<|c.t 1+1) (Ax (AY (Ap ..))<|Ax hl (by decide));rw[ajW h]at z
    rw[(o6 aa [nw k<|yA [c.t 1+1,c.t 1,c.t 1+3]])▸z])) λn Q=>pF rfl Z9:(giN g r a b aa k).Holds w) rfl rfl (AA _) (.inl rfl) (.of_eq<|nn _) λy Q Q Q=>⟨{y with u:={na:=aa,nb:=[],nd:=nw k y}},rfl,rfl,rfl,e [(-g.so,ca g),(-g.sd,cu g r a b),(-g.nd,aM<|aT<|aa++[nw k y])] (aa.flatMap bj)<|bj<|nw k y,rfl,?_⟩]
  .delta fM;rw[ab8 h,Z7 A9];rw[AE]
 |some v=>
  let(l1,x,l2,rfl,rfl,rfl):=arq h;rw[X.perm _ (X.ap (F:=1500) (nt:=(ajY g r a b (l1++x::l2) x.k x.ia)) aF rfl λγ N=>pU rfl (bp<|oJ w _ _ _ _ (by rw[h,];rfl)<|qQ _) λc Q=>pF rfl Z9:(giF g r a b (aT<|l1++x::l2) x.k x.ia).Holds w) rfl rfl (AA _) (.inl rfl) (.of_eq<|nn _) λy Q Q Q=>⟨yU l1 x l2 [],rfl,rfl,rfl,.of_eq ?_,rfl,?_⟩]
  .show(P3 g r a b _++[])++(bF l1 x l2++[])=((P3 g r a b _++[])++[])++_;simp only[Az,nO];rfl
  .delta fM
   rw[Z0 (hR.mpr (by
     delta aX;rw[BW,]
     rw[Av<|Aq _ aE])),]
   rfl
def adK(g:So)(a b:Int)(R:Rd)(d:DL)(aa:!Nd)(k:U)(ps:!U):X:={ec:=.call (.ref 792) (rf g.so::.str k::ps.map .str) [],ai:=702,pre:=P3 g .none a b<|aM d,aj:=[R],ab:=λQ=>.ok .none,post:=λy=>[ca g,cu g .none a b,aM<|y.d 0],af:=λy=>[bF y.u.na y.u.nd y.u.nb],pure:=λy=>y.d 0=aT (mN y)/\dM (mN y)=k9 (dM aa) k ps}
noncomputable def ars:!Nat:=[0,6,6,0,6,6,4,6,6]
noncomputable def art:List<|!Nat:=[[5,5,5],[0,0,0,0],[0,0,0,0,0,0,0,0,0,0,0,0],[0,0,0,0,0,0],[0]]
noncomputable abbrev k3:!Bool:=[J,J,J]
noncomputable abbrev auu(k:U)(z:Int×!U):Int×!U:=(z.1,z.2++[k])
section
variable(g:So)(a b:Int)(k:U)
noncomputable def u8:!Nat->!U->!Nd->Nd->!Nd->DL->Nt
 |pf,[],l1,v,l2,d=>.f (pf++ars++[8]) [0,1,2] k3 [[.b 0]]<|yU l1 v l2 d
 |pf,q::c,l1,v,l2,d=>.u (pf++ars++[5,5,5,1,0,0,0,1,0,0,0,1,0,0,0,0,1,2,5,0]) (u7 g .none a b (bF l1 v l2) d (l1++v::l2) q) [0,1,2] k3 [[0]] λx=>
  .ob art (-x.y.u.nd.ia) (cq x.y.u.nd) (.ob [[],[],[],[],[5]] (-x.y.u.nd.sa) (.seq Lt<|aG x.y.u.nd.sc) (.v [] (apN x.y.u.na x.y.u.nd x.y.u.nb k) [] [[0]] λQ=>
  u8 [] c x.y.u.na {x.y.u.nd with sc:=x.y.u.nd.sc++[k]} x.y.u.nb (aT<|mN x.y)))
def ajZ(R:Rd)(d:DL)(aa:!Nd)(ps:!U)(n:Int)(_:Bool)(N:Nat):Nt:=
 .u [0,0,5,5,5,5,5,5,5,1,0,0,0,0,1,0,0,0,1,1,0,2,5,1,0,0,0,1,0,0,0,1,0,0,0,0,1,2,5,0] (u7 g .none a b R d aa k) [0,1,2] k3 [[0]] λx=>
 .ob (art++[[0,0,5,0,4,4,0,4,0],[0,0,0]]) (-x.y.u.nd.ia) (cq x.y.u.nd) (.v [0] (npG x.y.u.na x.y.u.nd x.y.u.nb<|x.y.u.nd.np+n) [] [[0]] λQ=>
 u8 g a b k [5,4,4,4,0,6] ps x.y.u.na {x.y.u.nd with np:=x.y.u.nd.np+n} x.y.u.nb (aT<|mN x.y))
end
def PB(m:Nat)(p:!Pn):Prop:=p.length<=m/\∀x∈p,x.2.2.length<=m
def PB.ens(h:PB m p)(k:U):PB (m+1)<|fM p k:=by
 delta fM;split
 .rw[(Bz h.1,λx H=>Bz<|h.2 x H)]
 .rw[(by rw[Ay,];rw[BY h.1],λx H=>?_)];rcases AB.mp H with H|H
  .rw[Bz<|h.2 x H]
  .rw[Au.mp H,];rw[Bd _]
def PB.upd(h:PB m p)(k:U)(C:∀q,(f q).2.length<=q.2.length+1):PB (m+1)<|gj p k f:=by
 rw[(by delta gj;rw[Ap,];rw[Bz h.1],λx H=>?_)];let(y,B,rfl):=AM.mp H;let z:=h.2 y B;split
 .rw[Ax (C y.2)<|BY z]
 .rw[Bz z]
def aex{l1:!Nd}{v:Nd}{l2:!Nd}:dM (l1++v::l2)=dM l1++v.pn::dM l2:=AE.trans<|Z8 _ Cv
def aey{l1:!Nd}{v v':Nd}{l2:!Nd}(n:(aX<|dM<|l1++v::l2).Nodup){f:Int×!U->Int×!U}(h:v'.pn=(v.k,f v.pn.2)):dM (l1++v'::l2)=gj (dM<|l1++v::l2) v.k f:=by
 rw[aex]at n ⊢;rw[aex,h]
 rw[((by
   delta aX at n;rw[AE]at n;let(d,b,i):=Bu.mp n
   let C:∀{l:!Pn},(∀q∈l,q.1≠v.pn.1)->(l.map λq=>if q.1==v.pn.1 then(q.1,f q.2)else q)=l:=λ{l} c=>by
    conv=>rhs;rw[<-Hf l]
    rw[DH λq H=>?_]
    rw[Z7 λe=>c q H<|BX e,];rfl
   delta gj;rw[AE,Cv,C λq H=>i _ (Av H) _ aE,C λq H e=>(AC.mp b).1 (by show v.pn.1∈(dM l2).map (·.1);rw[<-e];rw[Av H])]
   rw[Z0<|ZY _,]):gj ((dM l1)++v.pn::(dM l2)) v.pn.1 f=(dM l1)++(v.pn.1,f v.pn.2)::(dM l2)).symm]
def aez{l1 l2:!Nd} x d (b:d.k=x.k)(H:d.ia=x.ia):aT (l1++d::l2)=aT (l1++x::l2):=by rw[o6,o6];show _++(d.k,rf d.ia)::aT l2=_;rw[b,H];rfl
def r6{l1:!Nd}{v:Nd}{l2:!Nd}{q:AL×SO}(h:q∈bj v):q∈[bF l1 v l2].flatten:=Ao _<|Aq _<|Ao _ h
theorem aa9:∀(ps:!U)(pf:!Nat)(l1:!Nd)(v:Nd)(l2:!Nd)(d:DL)(m:Nat),d=aT (l1++v::l2)->(aX<|dM<|l1++v::l2).Nodup->PB m (dM<|l1++v::l2)->m+2*ps.length<=100->k5 k ps (dM<|l1++v::l2)=k9 (dM N) k c->
  (u8 g a b k pf ps l1 v l2 d).Pure w As (adK g a b R0 r N k c) [bF l1 v l2]
 |[],pf,l1,v,l2,d,m,H,l,B,i,e=>pF rfl ⟨H,e⟩
 |q::ps,pf,l1,v,l2,d,m,H,l,B,i,e=>pU rfl (ab9 w g .none a b _ q (nO l1 v l2) H<|Ax (Ax (AY (Ap _).symm) B.1)<|Ax (BG _ _) i) λx h=>by
  let j:=B.ens q;let n:=eK (k:=q) l;rw[<-h.2]at j n;let i:=i;let E:=aey (v':={x.y.u.nd with sc:=x.y.u.nd.sc++[k]}) (f:=auu k) n rfl
  rw[pO rfl (r6 aE) (pO rfl (r6 iW) (pU rfl (by
    let z:=aP w (-x.y.u.nd.sa) (aG x.y.u.nd.sc) (.str k) (by delta aG;rw[Ap,];rw[amb (by assumption)<|j.2 x.y.u.nd.pn<|Av<|Aq _ aE]);rw[show aG x.y.u.nd.sc++[.str k]=aG (x.y.u.nd.sc++[k])from(l7 x.y.u.nd.sc [k]).symm]at z
    rw[gR (R0:=x.y.u.na.flatMap bj) (L:=[(-x.y.u.nd.ia,cq x.y.u.nd),(-x.y.u.nd.da,.ns tA [])]) (R1:=x.y.u.nb.flatMap bj) z]) λQ Q=>aa9 ps [] _ _ _ _ (m+2) (aez x.y.u.nd {x.y.u.nd with sc:=x.y.u.nd.sc++[k]} rfl rfl).symm ?_ ?_ (amc i) ?_))]
  .rw[E,bc];rw[n]
  .rw[E,];rw[j.upd _ λq=>AY Ay]
  .rw[E,h.1,h.2];rw[e]
section
open PySem.Builtin
noncomputable def uj(d:AL)(i n ep x ok b:AF):Obj:={cls:=.type "dict_itemiterator",dict:=As,data:=.fields #[x,.bool O,.ref d,i,n,ep,ok,b],slots:=#[]}
section
variable{i ep ti tn te:Nat}
def agG(h:s.heap.get? it=Y (uj d (.int i ti) (.int l.length tn) (.int ep te) .none ok L))(hd:∃o,s.heap.get? d=Y o/\DP l ep o)(hx:l[i]?=Y (k,v))
  (hQ:∀j val h',aC j=.str k->aC val=v->h'.get? it=Y (uj d (Co<|(i:Int)+1) (.int l.length tn) (.int ep te) (Co s.heap.objs.size) j val)->h'.get? s.heap.objs.size=Y {cls:=.type "tuple",data:=.seq #[j,val]}->h'.objs.size=s.heap.objs.size+1->(∀b o,b≠it->s.heap.get? b=Y o->h'.get? b=Y o)->Q (Y<|.ref s.heap.objs.size) {s with heap:=h'}):
  A0 (AN M w) A (Fu<|.ref it) Q E s:=by
 let(_,N,es,rfl,V):=hd;let(en,G,he):=oS V hx;let r:s.TypeIs (.ref it) "dict_itemiterator":=⟨_,h,rfl⟩;delta Fu;rw[Al<|Gh<|B7 (name:=BV "__next__") r C0<|CT C0 r Fd ?_<|EV _];rw[Al<|Aw ?_];rw[Al<|Al<|Al<|CU r<|Aw ?_];rw[Al<|DR h rfl ?_];show A0 _ _ (if(BZ d==B8)=J then _ else _) _ _ s;rw[Z7 (show¬((BZ d==B8)=J)from A9),];rw[Al<|Aw<|Al<|B1 N rfl ?_];rw[Z7 (by rw[dA V,];simp),];rw[Al<|Aw<|Al<|Cw N rfl ?_];rw[Z7 (by simp),];rw[Aw ?_];simp only[show¬((i:Int)<0)from DE.mpr<|BH i,if_false,Ca,G];rw[Al<|Al<|CU r<|Aw ?_];rw[Al<|EQ r ?_];show A0 _ _ (D3 (.ref it) 3 (Co<|(i:Int)+1)>>=_) _ _ s;rw[Al<|BA h (by simp) λc B s1=>?_]
 refine_lift let K1:=uj d (Co<|(i:Int)+1) (.int l.length tn) (.int ep te) .none ok L;?_;let B:c.get? it=Y K1:=B;let T1:Ib {s with heap:=c} (.ref it) "dict_itemiterator":=⟨_,B,rfl⟩;rw[Al<|BP ?_];rw[Al<|EQ (s:={s with heap:=c}) T1 ?_];rw[Al<|EQ (s:={s with heap:=c}) T1 ?_];show A0 _ _ (ER (.ref it) 6 en.key en.val) _ _ _;delta ER;rw[Al<|Hd ?_];let I:c.objs.size=s.heap.objs.size:=s1.1;rw[show({s with heap:=c}:AJ).heap.objs.size=s.heap.objs.size from I,];generalize m:({s with heap:=c}:AJ).heap.push {cls:=.type "tuple",data:=.seq #[en.key,en.val]}=n;let m:c.push {cls:=.type "tuple",data:=.seq #[en.key,en.val]}=n:=m;let C:n.get? it=Y K1:=m▸AU _ B;let t2:n.get? s.heap.objs.size=Y {cls:=.type "tuple",data:=.seq #[en.key,en.val]}:=by rw[<-m,<-I];rw[BB _ rfl]
 let y2:n.objs.size=s.heap.objs.size+1:=by rw[<-m,Cq,I]
 let k2:∀b o,b≠it->s.heap.get? b=Y o->n.get? b=Y o:=λb o H e=>m▸AU _ (s1.extBut b o H e)
 clear m;show A0 _ _ (Ex (.ref it)>>=_) _ _ {s with heap:=n};rw[Al ?_];delta Ex;rw[Al<|Bf C rfl (x:=.none) rfl<|Aw ?_];simp only[if_true];rw[Al<|Bf C rfl (x:=ok) rfl<|Al<|Bf C rfl (x:=L) rfl ?_];rw[Al<|BA C (by simp) λh3 e3 s3=>?_]
 rw[Al<|BA (s:={s with heap:=h3}) e3 (by simp) λh4 e4 s4=>?_]
 rw[Al<|BA (s:={s with heap:=h4}) e4 (by simp) λh5 e5 s5=>?_]
 rw[Al<|BA (s:={s with heap:=h5}) e5 (by simp) λh6 e6 s6=>?_]
 let kk:∀b o,b≠it->n.get? b=Y o->h6.get? b=Y o:=λb o H e=>s6.extBut _ _ H<|s5.extBut _ _ H<|s4.extBut _ _ H<|s3.extBut _ _ H e
 rw[Al<|FY<|Aw<|Aw ⟨_,rfl,Aw<|hQ en.key en.val h6 (DV he).1 (DV he).2 e6 (kk _ _ (Dz<|AP h) t2) ?_ λb o H e=>kk b o H<|k2 b o H e⟩];rw[s6.1.trans<|s5.1.trans<|s4.1.trans<|s3.1.trans y2]
def aj0(r:A.handled=As)(H:s.heap.get? it=Y (uj d (.int i ti) (.int l.length tn) (.int ep te) .none ok M))(hd:∃o,s.heap.get? d=Y o/\DP l ep o)(B:l.length<=i)
  (C:∀h',KJ it s.heap h'->s.heap.objs.size<=h'.objs.size->Q As {s with heap:=h'}):A0 (AN j w) A (Fu<|.ref it) Q E s:=by
 let(_,k,es,rfl,m):=hd;let c:s.TypeIs (.ref it) "dict_itemiterator":=⟨_,H,rfl⟩;delta Fu;rw[Al<|Gh<|B7 (name:=BV "__next__") c C0<|CT C0 c Fd ?_<|EV _];rw[Al<|Aw ?_];rw[Al<|Al<|Al<|CU c<|Aw ?_];rw[Al<|DR H rfl ?_];show A0 _ _ (if(BZ d==B8)=J then _ else _) _ _ s;rw[Z7 (show¬((BZ d==B8)=J)from A9),];rw[Al<|Aw<|Al<|B1 k rfl ?_];rw[Z7 (by rw[dA m,];simp),];rw[Al<|Aw<|Al<|Cw k rfl ?_];rw[Z7 (by simp),];rw[Aw ?_];simp only[show¬((i:Int)<0)from DE.mpr<|BH i,if_false,Ca,GG ((dA m).symm▸B:es.size<=i)];rw[Al<|Al<|CU c<|Aw ?_];show A0 _ _ (D3 (.ref it) 2 .none>>=_) _ _ s;rw[Al<|CP H rfl (by simp) ?_];show A0 _ _ (JQ (.type "StopIteration") []>>=λe=>Gp e) _ _ _;rw[@gN _ _ _ _ ⟨As⟩ _ _ _ r (λV h=>nomatch h) λh' G I g=>?_]
 let(t,g):=bZ g;let n:=Bn (h:=s.heap) (a:=it) (f:=CN λx=>x.setIfInBounds 2 B8);rw[Al<|Ja (T:="StopIteration") (b:=J) ⟨_,g,rfl⟩ JR ?_];rw[Aw<|C h' (λb o L e=>G b o<|(n.2 b L).trans e)<|Ax (AY n.1.symm)<|Ax (BG _ 2)<|AY I.symm]
end
end
def aru{b:Dg}{w:AW}{A:CB}{E:AF->AJ->Prop}{s:AJ}{e:!Ea}{x}{pos:Pos}{it d a:AL}{i n ep ok c:AF}{Q:Unit->AJ->Prop}(j:s.heap.get? it=Y (uj d i n ep (Co a) ok c))
  (k:∀h',h'.get? it=Y (uj d i n ep .none ok c)->GB it s.heap h'->Q () {s with heap:=h'}):A0 (AN b w) A (D5 (.Tuple e x pos) (.ref it)<|.ref a) Q E s:=by
 delta D5;rw[Al<|Iv j ?_];show A0 _ _ (if(["enumerate","zip","dict_itemiterator","dict_reverseitemiterator","odict_iterator","itertools.zip_longest","itertools.pairwise"].contains "dict_itemiterator"&&(#[Co a,.bool O,.ref d,i,n,ep,ok,c]:Array AF)[0]?==Y (Co a))=J then _ else _) Q E s;rw[Z0 (by simp),];rw[Al<|E9 ?_];show A0 _ _ (D3 (.ref it) 0 .none) Q E s;rw[BA j (by simp) λh' h H=>k h' h H]
def zi(d:Nat)(n i ep:Int)(ok b:SV):SO:=.fld (.type "dict_itemiterator") [.none,.bool O,rf d,.int i,.int n,.int ep,ok,b]
def aeA{b:Obj}{d:Nat}{n i ep:Int}{ok c:SV}(h:rd b=zi d n i ep ok c):uH λj t2 k u v=>b=uj (-d) (.int i j) (.int n t2) (.int ep k) .none u v:=by let(⟨vs⟩,rfl,e):=eX h;let(t,rfl):=gc e;rw[(t 3,t 4,t 5,_,_,rfl)]
section
variable{it d i ep:Nat}
def ta(it d:Nat)(l:DL)(i ep:Nat)(ok b:SV):Rd:=[(-it,zi d l.length i ep ok b),(-d,dct l ep)]
def agH(n:C.aA w [] As A c s)(M:aK C As s e<|ta it d l i ep ok ov++R0){es:!Ea}{x1:Nat}{ps:Pos}{b ob:!Gc}{env:Env}(hc:c=.forLoop (.Tuple es x1 ps) (.ref<| -it) b ob env)(H:c.quiet=J)(hx:l[i]?=Y (k,v)){R2:AJ->Prop}
  (h3:∀tu s2,aK C As s s2 ((-tu,.seq Tt [.str k,v])::(ta it d l (i+1) ep (.str k) v++R0))->Bq (MM w) A c (qi (.ref<| -tu) c) (CH PW w A λr I=>(r=.ok .next\/r=.ok .cont)/\R2 I) (C7 λr I=>(r=.ok .next\/r=.ok .cont)/\R2 I) s2)
  (h4:∀x,R2 x->Be (MM w) A c G x):Be (MM w) A c G e:=by
 let(oi,gi,ri):=M.hs _ aE;let(od,gd,L):=M.hs _ ce;let(t1,t2,t3,u,u',rfl):=aeA ri;let(N,nd):=AC.mp M.nd;let Q:=Ax n.St.big M.kp.grow;obtain⟨tu,B⟩:∃tu,e.heap.objs.size=-tu:=⟨e.heap.objs.size-902,(Bo Q).symm⟩
 rw[aaW hc H
  (R0:=λV x=>V=.ref e.heap.objs.size/\n9 λj val E=>A7 (x={e with heap:=E}) (aC j=.str k) (aC val=v) (E.get? (-it)=Y (uj (-d) (Co<|(i:Int)+1) (.int l.length t2) (.int ep t3) (Co e.heap.objs.size) j val)) (E.get? e.heap.objs.size=Y {cls:=.type "tuple",data:=.seq #[j,val]}) (E.objs.size=e.heap.objs.size+1) (∀b o,b≠-it->e.heap.get? b=Y o->E.get? b=Y o))
  (R1:=λV x=>V=.ref (-tu)/\aK C As s x ((-tu,.seq Tt [.str k,v])::(ta it d l (i+1) ep (.str k) v++R0)))
  (agG gi ⟨_,gd,fq.mp L⟩ hx λj val E a1 a2 a3 a4 a5 a6=>⟨_,rfl,rfl,j,val,E,rfl,a1,a2,a3,a4,a5,a6⟩) (λV x z=>?_) (λV x z=>?_) h4]
 .let(rfl,j,val,E,rfl,e1,e2,a1,a3,a4,a5):=z;rw[aru (s:={e with heap:=E}) a1 λh₂ b1 b2=>⟨by rw[B,],?_⟩]
  let kp:=λb o N g=>(b2.2 b N).trans<|a5 b o N g
  let sz:=b2.1.trans a4;let ow:∀{b:AL}{o2:Obj},s.heap.get? b=Y o2->b∈aH (ta it d l i ep ok ov++R0)->C.own b:=λ{b o2} g m=>(M.own b m).elim id λz=>ZZ (AP g)<|AX.mpr z
  let lt:∀b∈aH (ta it d l i ep ok ov++R0),b<e.heap.objs.size:=λb hb=>by let(q,H,rfl):=AM.mp hb;let(o2,g,_):=M.hs q H;rw[AP g]
  rw[(⟨λb o2 g q=>kp b o2 (λz=>q<|.inl<|ow g (z▸aE))<|M.kp.keep b o2 g q,Ax M.kp.grow (sz▸CE _),M.kp.g,M.kp.d,M.kp.os⟩,⟨λ_ h=>(nomatch h),by rintro _ ⟨_,h,_⟩;rw[nomatch h]⟩,λq H=>?_,AC.mpr ⟨λm=>ZZ (lt _ m) (by rw[B,];rw[Cs _]),M.nd⟩,λa ha=>?_)]
  .rcases Ar.mp H with rfl|H
   .rw[(_,by rw[<-B];rw[(b2.2 _<|Ne.symm<|DA<|AP gi).trans a3],by show SO.seq _ [aC j,aC val]=_;rw[e1,e2])]
   rcases Ar.mp H with rfl|H
   .rw[(_,b1,by show SO.fld _ [.none,.bool O,_,_,_,_,aC j,aC val]=_;rw[e1,e2];rfl)]
   .let(o,g,r):=M.hs q<|.tail _ H;let mq:q.1∈aH ((-d,dct l ep)::R0):=Av H;rw[(o,kp _ o (λz=>N (by rw[<-z];rw[mq])) g,r)]
  .rcases Ar.mp ha with rfl|ha
   .rw[.inr (by rw[<-B];rw[M.kp.grow])]
   .rw[M.own a ha]
 .let(rfl,z):=z;rw[h3 tu x z]
def agI(n:C.aA w [] As A c s)(hd:C.hd=As)(M:aK C As s B<|ta it d l i ep ok ov++R0)(E:c=.forLoop t (.ref<| -it) b [] env)(H:(JM [] env).quiet=J)(I:l.length<=i)
  (h:∀e,aK C As s e ((-d,aM l)::R0)->G (.ok .next) e):Be (MM w) A c G B:=by
 let(oi,Q,V):=M.hs _ aE;let(j,k,L):=M.hs _ ce;let m:=fq.mp L;let(t1,t2,t3,u,u',rfl):=aeA V;let(N,nd):=AC.mp M.nd;rw[aaX E H (R:=λe=>aK C As s e<|(-d,aM l)::R0) (aj0 (n.hd.trans hd) Q ⟨_,k,m⟩ I λh' x z=>⟨rfl,⟨λb o2 g q=>x b o2 (λz=>q<|.inl<|(M.own b (z▸aE)).elim id λz=>ZZ (AP g)<|AX.mpr z)<|M.kp.keep b o2 g q,Ax M.kp.grow z,M.kp.g,M.kp.d,M.kp.os⟩,⟨λ_ h=>(nomatch h),by rintro _ ⟨_,h,_⟩;rw[nomatch h]⟩,λq H=>?_,nd,λa ha=>M.own a<|.tail _ ha⟩) h];rcases Ar.mp H with rfl|H
 .rw[(j,x _ j (λz=>N (by rw[<-z];rw[aE])) k,fF m.so)]
 .let(o2,g,r):=M.hs q<|.tail _<|.tail _ H;let mq:q.1∈aH ((-d,dct l ep)::R0):=Av<|.tail _ H;rw[(o2,x _ o2 (λz=>N (by rw[<-z];rw[mq])) g,r)]
end
noncomputable abbrev Dt:AF:=.type "dict"
noncomputable abbrev T(cs:!Nat):U:=⟨cs.toArray⟩
def ql(b:U)(p:Int):List<|SV×SV:=[(sS "_StringIO__newline",sS "\n"),(sS "_StringIO__buf",.str b),(sS "_StringIO__pos",.int p)]
def aiy(a d:Nat)(b:U)(p:Int):Rd:=[(-a,.inst (.ref 587) (Y<| -d) []),(-d,.ns Dt<|ql b p)]
noncomputable def kd(s:U)(i j:Int):!Nat:=(By (Y i) (Y j) 1 s.length).filterMap (s.cps[·]?)
def o7(a d:Nat)(b:U)(p:Int)(r:U)(c:Int):X:={ec:=.call (.ref 533) [.ref<| -a,.int 1] [],ai:=401,pre:=aiy a d b p,ab:=λQ=>.ok<|.str r,post:=λQ=>[.inst (.ref 587) (Y<| -d) [],.ns Dt<|ql b c]}
def o8(a d:Nat)(b:U)(p:Int)(r:U)(c:Int):X:={ec:=.call (.ref 541) [.ref<| -a] [],ai:=401,pre:=aiy a d b p,ab:=λQ=>.ok<|.str r,post:=λQ=>[.inst (.ref 587) (Y<| -d) [],.ns Dt<|ql b c]}
def bd(e:!Nat):Jj:=match bf e PW.main.body with
 |some s=>(sp s).sc
 |none=>Bs
def jA(e:!Nat)(env:Env):BC:=match bf e PW.main.body with
 |some s=>.whileLoop (e0 (sp s).e) (sp s).k (sp s).o env
 |none=>.body [] env
def hU(e:!Nat)(it:AF)(env:Env):BC:=match bf e PW.main.body with
 |some s=>.forLoop (e0 (sp s).e) it (sp s).k (sp s).o env
 |none=>.body [] env
noncomputable def pa:String:="abcdfeghijklmnopqrstuvwxyzABCDEFGHIJKLMNOPQRSTUVWXYZ0123456789_ßàáâãäåæçèéêëìíîïðñòóôõöøùúûüýþÿÀÁÂÃÄÅÆÇÈÉÊËÌÍÎÏÐÑÒÓÔÕÖØÙÚÛÜÝÞ"
structure Lx where
 x:Nat
 xd:Nat
 pb:Nat
 fs:Nat
 hook:Nat
def arv(L:Lx)(i:U)(I:Nat)(b:SV)(tok:U)(ln:Int):List<|SV×SV:=
 [(sS "instream",rf I),(sS "infile",.str i),(sS "posix",.bool J),(sS "eof",.none),(sS "commenters",sS "#"),(sS "wordchars",sS pa),
  (sS "whitespace",sS " \t\r\n"),(sS "whitespace_split",.bool O),(sS "quotes",sS "'\""),(sS "escape",sS "\\"),(sS "escapedquotes",sS "\""),(sS "state",b),(sS "pushback",rf L.pb),(sS "lineno",.int ln),(sS "debug",.int 0),(sS "token",.str tok),(sS "filestack",rf L.fs),
  (sS "source",sS "use"),(sS "_punctuation_chars",sS ""),(sS "sourcehook",rf L.hook)]
noncomputable def xI(L:Lx):SO:=.inst (.ref 722) (Y<| -L.xd) []
def xD(L:Lx)(i:U)(I:Nat)(b:SV)(tok:U)(ln:Int):SO:=.ns Dt<|arv L i I b tok ln
noncomputable def la(d:Nat):SO:=.inst (.ref 587) (Y<| -d) []
def pc(b:U)(p:Int):SO:=.ns Dt<|ql b p
def arw(f:Nat):Env:=⟨bd [19,6],-f,3,[],S "shlex.read_token.<locals>.",Y 690,.ref 689,Y<| -f,0⟩
def frO(L:Lx)(q:Bool)(e n:U):SO:=.ns Fr [(sS "self",rf L.x),(sS "quoted",.bool q),(sS "escapedstate",.str e),(sS "nextchar",.str n)]
def frN(L:Lx):SO:=.ns Fr [(sS "self",rf L.x),(sS "quoted",.bool O),(sS "escapedstate",.str<|T [32])]
def aj1(f:Nat):BC:=jA [19,6,2]<|arw f
structure LE where
 L:Lx
 inf:U
 ins:Nat
 d:Nat
 cs:!Nat
 f:Nat
structure LS where
 st:SV
 tok:U
 ln:Int
 r:!Nat
 q:Bool
 e:U
 nc:Option U
noncomputable def pos(cs r:!Nat):Int:=((cs.length-r.length:Nat):Int)
def frE(x:Nat)(q:Bool)(e:U):Option U->!(SV×SV)
 |none=>[(sS "self",rf x),(sS "quoted",.bool q),(sS "escapedstate",.str e)]
 |some s=>[(sS "self",rf x),(sS "quoted",.bool q),(sS "escapedstate",.str e),(sS "nextchar",.str s)]
def LE.o(E:LE)(k:LS):!SO:=[xI E.L,xD E.L E.inf E.ins k.st k.tok k.ln,la E.d,pc (T E.cs)<|pos E.cs k.r,.ns Fr<|frE E.L.x k.q k.e k.nc]
noncomputable def LE.a(E:LE):!AL:=[-E.L.x,-E.L.xd,-E.ins,-E.d,-E.f]
def dD(E:LE)(k e:LS):X:={ec:=.am<|aj1 E.f,ai:=450,pre:=E.a.zip<|E.o k,ab:=λQ=>.au .next,post:=λQ=>E.o e}
noncomputable def LE.at(E:LE)(f:Nat):LE:=⟨E.L,E.inf,E.ins,E.d,E.cs,f⟩
structure Tx where
 st:SV
 ln:Int
 r:!Nat
def Tx.s(a:Tx):LS:=⟨a.st,T [],a.ln,a.r,O,T [32],As⟩
noncomputable def LS.p(k:LS):Tx:=⟨k.st,k.ln,k.r⟩
noncomputable def LE.a4(E:LE):!AL:=[-E.L.x,-E.L.xd,-E.ins,-E.d]
def LE.o4(E:LE)(a:Tx):!SO:=[xI E.L,xD E.L E.inf E.ins a.st (S "") a.ln,la E.d,pc (T E.cs)<|pos E.cs a.r]
def xK(E:LE)(a b:Tx)(ab:SV):X:={ec:=.call (.ref 690) [rf E.L.x] [],ai:=500,pre:=E.a4.zip<|E.o4 a,ab:=λQ=>.ok ab,post:=λQ=>E.o4 b}
abbrev wsQ(c:Nat):Bool:=dR (S " \t\r\n")<|T [c]
abbrev cmQ(c:Nat):Bool:=dR (S "#")<|T [c]
abbrev esQ(c:Nat):Bool:=dR (S "\\")<|T [c]
abbrev wcQ(c:Nat):Bool:=dR (S pa)<|T [c]
abbrev quQ(c:Nat):Bool:=dR (S "'\"")<|T [c]
abbrev nlQ(c:Nat):Bool:=bq (T [c])<|S "\n"
def xL c:((T [c]).length:Int)<2^63:=by show(1:Int)<2^63;decide
def aaz x c:dR x (T [c])=decide (c∈x.cps.toList):=J8 x c
def noQ c:dR (S "") (T [c])=O:=by rw[aaz,];rfl
def aj2(a d:Nat)(b:U)(p:Int)(_:Bool)(N:Nat):Nt:=
 (.fin (dg 212 0x58332011000000010000000013222010000000101001000000013333033133033030233331201100000001000000001300332011000000010000000013201100000001000000001555000210000100000001000000013334004044400040000040044440003033333000) [0,1] [J,O] [] y0 [((By (Y p) (Y<|p+1) 1 b.length).length==b.length)=O,(Hg (λ(x:Nat)=>b.cps[x]?)<|By (Y p) (Y<|p+1) 1 b.length).length<=AO,decide (p+1<(↑b.length:Int))=J,decide (p>=(↑b.length:Int))=O,(↑b.length:Int)<2^63])
def aj3(w:AW) a d b p (q1:((By (Y p) (Y<|p+1) 1 b.length).length==b.length)=O)(Q:(kd b p<|p+1).length<=AO)(c:decide (p+1<(b.length:Int))=J)(e:decide (p>=(b.length:Int))=O)(h:(b.length:Int)<2^63):(o7 a d b p ⟨(kd b p<|p+1).toArray⟩<|p+1).Holds w:=
 X.ap (F:=900) (nt:=(aj2 a d b p)) aF rfl λx x=>pG rfl ⟨q1,Q,c,e,h,trivial⟩ Z9
def aj4(a d:Nat)(b:U)(p:Int)(_:Bool)(N:Nat):Nt:=
 (.fin (dg 207 0x583320110000000100000000132220100000001010010000000133033033030233331201100000001000000001300332011000000010000000013201100000001000000001555000210000100000001000000013334004044400040000040044440003033333000) [0,1] [J,O] [] y0 [((By (Y p) (Y (↑b.length:Int)) 1 b.length).length==b.length)=O,(Hg (λ(x:Nat)=>b.cps[x]?)<|By (Y p) (Y (↑b.length:Int)) 1 b.length).length<=AO,decide (p+1<(↑b.length:Int))=O,decide (p>=(↑b.length:Int))=O,(↑b.length:Int)<2^63])
def aj5(w:AW) a d b p (q1:((By (Y p) (Y (b.length:Int)) 1 b.length).length==b.length)=O)(Q:(kd b p (b.length:Int)).length<=AO)(c:decide (p+1<(b.length:Int))=O)(e:decide (p>=(b.length:Int))=O)(h:(b.length:Int)<2^63):(o7 a d b p ⟨(kd b p b.length).toArray⟩ b.length).Holds w:=
 X.ap (F:=900) (nt:=(aj4 a d b p)) aF rfl λx x=>pG rfl ⟨q1,Q,c,e,h,trivial⟩ Z9
def aj6(a d:Nat)(b:U)(p:Int)(_:Bool)(N:Nat):Nt:=
 (.fin (dg 145 0x1233331201100000001000000001300332011000000010000000013201100000001000000001555000210000100000001000000013334004044400040000040044440003033333000) [0,1] [J,J] [] y0 [decide (p>=(↑b.length:Int))=J,(↑b.length:Int)<2^63])
def aj7(a d:Nat)(b:U)(p:Int)(_:Bool)(N:Nat):Nt:=
 (.fin (dg 306 0x686620110000000100000000162220100000001010010000000166660160061266696662011000000010000000016666660566620110000000100000000160666026666120110000000100000000160066201100000001000000001666660003210000100000001000000013201100000001000000001555000210000100000001000000013334004044400040000040044440003033333000) [0,1] [J,O] [] y0 [((By (Y p) (Y<|Mine.findIn b (S "\n") p (↑b.length:Int)+(↑(S "\n").length:Int)) 1 b.length).length==b.length)=O,(Hg (λ(x:Nat)=>b.cps[x]?)<|By (Y p) (Y<|Mine.findIn b (S "\n") p (↑b.length:Int)+(↑(S "\n").length:Int)) 1 b.length).length<=AO,(↑(S "\n").length:Int)<2^63,decide (Mine.findIn b (S "\n") p (↑b.length:Int)>=0)=J,bq (S "\n") (S "")=O,decide (p>=(↑b.length:Int))=O,(↑b.length:Int)<2^63])
def aj8(w:AW) a d b p (q1:((By (Y p) (Y<|findIn b (S "\n") p b.length+1) 1 b.length).length==b.length)=O)(Q:(kd b p<|findIn b (S "\n") p b.length+1).length<=AO)(c:decide (findIn b (S "\n") p b.length>=0)=J)(e:decide (p>=(b.length:Int))=O)(h:(b.length:Int)<2^63):(o8 a d b p ⟨(kd b p<|findIn b (S "\n") p b.length+1).toArray⟩<|findIn b (S "\n") p b.length+1).Holds w:=
 X.ap (F:=900) (nt:=(aj7 a d b p)) aF rfl λx x=>pG rfl ⟨q1,Q,(by decide+kernel),c,(by decide+kernel),e,h,trivial⟩ Z9
section
open PySem.StrLaws
def qc:Bool->Nat
 |true=>34
 |false=>39
def ec:Bool->Nat
 |true=>34
 |false=>92
def wd:Bool->Nat
 |true=>115
 |false=>101
inductive Wt where
 |e
 |k (c:Nat) (l:!Nat) (q:Bool)
noncomputable def Wt.t:Wt->!Nat
 |.e=>[]
 |.k c l _=>c::l
noncomputable def Wt.q:Wt->Bool
 |.e=>J
 |.k _ _ q=>q
noncomputable abbrev LE.rd(E:LE)(c:Nat)(r:!Nat):X:=o7 E.ins E.d (T E.cs) (pos E.cs<|c::r) (T [c])<|pos E.cs r
abbrev LE.rn(E:LE):X:=o7 E.ins E.d (T E.cs) (pos E.cs []) (T [])<|pos E.cs []
abbrev LE.rl(E:LE)(r:!Nat)(rl:U)(r2:!Nat):X:=o8 E.ins E.d (T E.cs) (pos E.cs r) rl<|pos E.cs r2
def bX a b:T a++T b=T (a++b):=by show(⟨a.toArray++b.toArray⟩:U)=⟨(a++b).toArray⟩;rw[List.append_toArray,]
noncomputable def e8:!Nat->Option !Nat
 |[]=>As
 |c::r=>if c=10 then Y r else e8 r
def l8{i n:Nat}(h:i<n):By (Y (i:Int)) (Y<|(i:Int)+1) 1 n=[i]:=by let z:=GZ (a:=i) (b:=i+1) (len:=n) (CE _) h;rw[EA]at z;let z:By (Y (i:Int)) (Y<|(i:Int)+1) 1 n=_:=z;rw[z,Gq];rfl
def l9{cs:!Nat}{i:Nat}{c:Nat}(h:cs[i]?=Y c):kd (T cs) i ((i:Int)+1)=[c]:=by
 delta kd;let e:(T cs).length=cs.length:=rfl;rw[e,l8<|(Dw.mp h).1];have:(T cs).cps[i]?=Y c:=by rw[EY,];rw[h]
 simp only[Dd,this,List.filterMap_nil]
def aeB w a d {cs:!Nat}{i c:Nat}(h:cs[i]?=Y c)(k:cs.length≠1)(m:cs.length<2^20):(o7 a d (T cs) i (T [c]) ((i+1:Nat):Int)).Holds w:=by
 let l:i<cs.length:=(Dw.mp h).1;let e:(T cs).length=cs.length:=rfl;let b:((i+1:Nat):Int)=(i:Int)+1:=EA ..;let r:1<=AO:=by decide
 by_cases H:i+1<cs.length
 .let z:=aj3 w a d (T cs) i (by rw[e,l8 l];simp;rw[amz k]) (by rw[l9 h,];rw[r]) (by rw[e,];simp;rw[amA H]) (by rw[e,];simp;rw[l]) (by rw[e,];rw[qa m]);rw[l9 h,<-b]at z;rw[z]
 .let j:=amB l H;let M:kd (T cs) i ((T cs).length:Int)=[c]:=by rw[e,j,b];rw[l9 h]
  let z:=aj5 w a d (T cs) i (by rw[e,j,b];rw[l8<|B6 _,];simp;rw[amC k l H]) (by rw[M,];rw[r]) (by rw[e,];simp;rw[amD H]) (by rw[e,];simp;rw[l]) (by rw[e,];rw[qa m]);rw[M,e,j]at z;rw[z]
def bv w a d {cs r:!Nat}{c:Nat}(h:(c::r)<:+cs)(H:cs.length≠1)(b:cs.length<2^20):(o7 a d (T cs) (pos cs<|c::r) (T [c])<|pos cs r).Holds w:=by
 let(E,i,_,_):=((by
   let(t,rfl):=h;let e:(t++c::r).length=t.length+(r.length+1):=by simp
   rw[(?_,?_,⟨t++[c],by simp⟩,amE e)]
   .rw[show(t++c::r).length-(c::r).length=t.length by simp,];simp
   .simp;rw[Nat.eq_sub_of_add_eq<|ED t.length 1 r.length]):A4 (cs[cs.length-(c::r).length]?=Y c) (cs.length-(c::r).length+1=cs.length-r.length) (r<:+cs)<|r.length<cs.length)
 let z:=aeB w a d E H b;rw[i]at z;rw[z]
def pd w a d (h:cs.length<2^20):(o7 a d (T cs) (pos cs []) (T [])<|pos cs []).Holds w:=by let e:(T cs).length=cs.length:=rfl;rw[X.ap (F:=900) (nt:=(aj6 a d (T cs)<|pos cs [])) aF rfl λQ Q=>pG rfl ⟨(by rw[e,];delta pos;simp),(by rw[e,];rw[qa h]),trivial⟩ Z9]
def aeC s sub H i f:∀(l:!Nat),(forIn l ((#[i]:Array Nat),f)<|JB s sub H 1).run.fst=#[i]:=by
 cases _ with
 |nil=>rw[rfl]
 |cons a l I=>rw[GP,];delta JB;rw[Z7 (by simp),];rw[I]
def ada s sub c i (H:i+sub.length<=c/\subAt s sub i=J):∀(l1 l2:!Nat)(b:Nat),(∀j∈l1,b<=j)->b<=i->(∀j∈l1,¬(j+sub.length<=c/\subAt s sub j=J))->
  (forIn (l1++i::l2) ((#[]:Array Nat),b)<|JB s sub c 1).run.fst=#[i]:=by
 cases _ with
 |nil=>intro l2 b _ C _;rw[Dy,GP];delta JB;rw[Z0 ⟨(⟨⟨by simp,C⟩,H.1⟩),H.2⟩,];rw[aeC s sub c i _ l2]
 |cons a l1 I=>intro l2 b k C e;rw[DS,GP];delta JB;rw[Z7 λh=>e a aE ⟨h.1.2,h.2⟩,];rw[I l2 b (λj d=>k j<|.tail _ d) C λj d=>e j<|.tail _ d]
def aab:∀{r r2:!Nat},e8 r=Y r2->∃l,r=l++10::r2/\10∉l:=by
 cases _ with
 |nil=>intro _ h;cases h
 |cons c r i=>
  intro r2 h;unfold e8 at h;split at h
  .rename_i e;cases h;rw[([],by rw[e,];rfl,λh=>(nomatch h))]
  .rename_i e;let(l,H,b):=i h;rw[(c::l,by rw[H,];rfl,λm=>?_)];rcases Ar.mp m with m|m
   .rw[e m.symm]
   .rw[b m]
def agJ(b:10∉l):findIn (T<|t++(l++10::r2)) (S "\n") (t.length:Int) ((t++(l++10::r2)).length:Int)=((t.length+l.length:Nat):Int):=by
 let es:S "\n"=⟨#[10]⟩:=rfl;delta findIn FL;let eT:(T<|t++(l++10::r2)).length=t.length+l.length+1+r2.length:=by show(t++(l++10::r2)).length=_;simp;rw[rC]
 let e:(max 0 (if((t.length:Nat):Int)<0 then((t.length:Nat):Int)+((T<|t++(l++10::r2)).length:Nat)else((t.length:Nat):Int))).toNat=t.length:=by rw[Z7<|DE.mpr<|BH _,];omega
 let E:min (max 0 (if(((t++(l++10::r2)).length:Nat):Int)<0 then(((t++(l++10::r2)).length:Nat):Int)+((T<|t++(l++10::r2)).length:Nat)else(((t++(l++10::r2)).length:Nat):Int))).toNat (T<|t++(l++10::r2)).length=t.length+l.length+1+r2.length:=by
  rw[Z7<|DE.mpr<|BH _,eT];have:(t++(l++10::r2)).length=t.length+l.length+1+r2.length:=by simp;rw[rC]
  rw[this,];omega
 rw[e,E,es,occ_eq];let H:F8 t.length (t.length+l.length+1+r2.length+1-t.length)=F8 t.length l.length++(t.length+l.length)::F8 (t.length+l.length+1) (r2.length+1):=by rw[show t.length+l.length+1+r2.length+1-t.length=l.length+(1+(r2.length+1))by rw[Hh (aD [t.length,l.length,r2.length] 0x11114111601110500111611154000020:t.length+l.length+1+r2.length+1=l.length+(1+(r2.length+1))+t.length)],<-Hi,<-Hi];rfl
 let fS:∀j,(j+(⟨#[10]⟩:U).length<=t.length+l.length+1+r2.length/\subAt (T<|t++(l++10::r2)) ⟨#[10]⟩ j=J)<->(t++(l++10::r2))[j]?=Y 10:=by intro j;let z:=subAt_one (T<|t++(l++10::r2)) 10 j;rw[eT]at z;rw[z]
 rewrite [H,ada _ _ _ (t.length+l.length) ((fS _).mpr (by simp)) _ _ _ (λj c=>by simp[Jt]at c;omega) (BG ..) λj c h=>?_]
 .rfl
 let h:=(fS j).mp h;simp only[Jt,Jk,DU]at c;let(i,d,rfl):=c;rw[FO (BG ..),show t.length+i-t.length=i by rw[Gq ..],List.getElem?_append_left d]at h;rw[b<|Br h]
def adb{i n:Nat}:∀j,j<=n->i<=j->(By (Y (i:Int)) (Y (j:Int)) 1 n).length=j-i:=by intro j H e;rw[GZ e H,];simp
def aca w a d {cs r r2:!Nat}(j:r<:+cs)(h:e8 r=Y r2)(H:r.length<cs.length)(c:cs.length<2^20):∃rl,(o8 a d (T cs) (pos cs r) rl<|pos cs r2).Holds w:=by
 let(l,rfl,k):=aab h;let(t,rfl):=j;let e:(T<|t++(l++10::r2)).length=(t++(l++10::r2)).length:=rfl;let E:(t++(l++10::r2)).length=t.length+l.length+1+r2.length:=by simp;rw[rC]
 let m:pos (t++(l++10::r2)) (l++10::r2)=((t.length:Nat):Int):=by delta pos;congr 1;simp
 let x:pos (t++(l++10::r2)) r2=((t.length+l.length:Nat):Int)+1:=by delta pos;rw[E,];rw[Z8 Int.ofNat (Nat.add_sub_cancel ..)]
 let b:=agJ (t:=t) (r2:=r2) k;let b:findIn (T<|t++(l++10::r2)) (S "\n") (t.length:Int) ((T<|t++(l++10::r2)).length:Int)=((t.length+l.length:Nat):Int):=b;let M:(By (Y ((t.length:Nat):Int)) (Y<|((t.length+l.length:Nat):Int)+1) 1 (T<|t++(l++10::r2)).length).length=l.length+1:=by let z:=adb (i:=t.length) (n:=(T<|t++(l++10::r2)).length) (t.length+l.length+1) (by rw[e,E];rw[aD [t.length,l.length,r2.length] 0x11611154000111540000])<|aD [t.length,l.length] 18765068633088;rw[EA (t.length+l.length) 1]at z;let z:(By (Y ((t.length:Nat):Int)) (Y<|((t.length+l.length:Nat):Int)+1) 1 (T<|t++(l++10::r2)).length).length=_:=z;rw[z,];rw[Hh (aD [t.length,l.length] 0x11114111500111540020:t.length+l.length+1=l.length+1+t.length)]
 let z:=aj8 w a d (T<|t++(l++10::r2)) ((t.length:Nat):Int);rw[b]at z;rw[(⟨(kd (T<|t++(l++10::r2)) ((t.length:Nat):Int)<|((t.length+l.length:Nat):Int)+1).toArray⟩,?_)];rw[m,x];rw[z ?_ ?_ ?_ ?_ ?_]
 .rw[M,e,E];simp;rw[amF (by simp at H;rw[H])]
 .have:(kd (T<|t++(l++10::r2)) ((t.length:Nat):Int)<|((t.length+l.length:Nat):Int)+1).length<=l.length+1:=by rw[<-M];rw[List.length_filterMap_le ..]
  rw[Ax this ?_];have:AO=2^24:=rfl;rw[amG c E]
 .simp;rw[aD [t.length,l.length] 4651483520]
 .rw[e,E];simp;rw[aD [t.length,l.length,r2.length] 4891801655706768]
 .rw[e,];rw[qa c]
def nR:!Nat:=dg 77 0x4300003000000030000000320110001000015002011000100001666000000000000010000150
def fN(n:!Nat)(k:!Bool)(qs:!Prop):Nt:=.fin n [0,1,2,3,4] k [] y0 qs
def ntA(n:!Nat)(k:!Bool)(D A:X)(qs:!Prop):Bool->Nat->Nt:=λQ Q=>.v nR D [2,3] [] λQ=>.use n A As [0,1,2,3,4] k [] qs λQ=>fN [] [J,J,J,J,J] []
def ntF(n:!Nat)(D:X)(qs:!Prop):Bool->Nat->Nt:=λQ Q=>.v nR D [2,3] [] λQ=>fN n [J,O,J,J,O] qs
def ntC(m n:!Nat)(D B A:X)(qs:!Prop):Bool->Nat->Nt:=λQ Q=>.v nR D [2,3] [] λQ=>.use m B As [2,3] [J,J] [] qs λQ=>.u n A [0,1,2,3,4] [J,O,J,J,O] [] λQ=>fN [] [J,J,J,J,J] []
def ntG(m n:!Nat)(D B:X)(q1 qs:!Prop):Bool->Nat->Nt:=λQ Q=>.v nR D [2,3] [] λQ=>.use m B As [2,3] [J,J] [] q1 λQ=>fN n [J,O,J,J,O] qs
section
def bM(p:aR w (dD v b e) 900<|ntA n k D (dD v k2 e) qs)(h:D.Holds w)(q:bW qs)(i:(dD v k2 e).Holds w):(dD v b e).Holds w:=X.ap p rfl λQ Q=>pU rfl h λQ Q=>pV rfl q i λQ Q=>pF rfl Z9
def ke(p:aR w (dD v b e) 900<|ntF n D qs)(h:D.Holds w)(q:bW qs):(dD v b e).Holds w:=X.ap p rfl λQ Q=>pU rfl h λQ Q=>pG rfl q Z9
def aj9(p:aR w (dD v b e) 900<|ntC m n D B (dD v k2 e) qs)(h:D.Holds w)(q:bW qs)(H:B.Holds w)(i:(dD v k2 e).Holds w):(dD v b e).Holds w:=X.ap p rfl λQ Q=>pU rfl h λQ Q=>pV rfl q H λQ Q=>pU rfl i λQ Q=>pF rfl Z9
def aka(p:aR w (dD v b e) 900<|ntG m n D B q1 qs)(h:D.Holds w)(q:bW q1)(H:B.Holds w)(q':bW qs):(dD v b e).Holds w:=X.ap p rfl λQ Q=>pU rfl h λQ Q=>pV rfl q H λQ Q=>pG rfl q' Z9
end
def u9:aZ [S "a",S "c"] (T [97])=J:=rfl
end
def bB(h:(c::r)<:+cs):r<:+cs:=(List.suffix_cons c r).trans h
def aeD(h:(c::r)<:+cs):r.length<cs.length:=h.length_le
def akb(h:e8 r=Y r2)(s:r<:+cs):r2<:+cs:=by let(l,e,_):=aab h;rw[FC ⟨l++[10],by rw[e,AD];rfl⟩ s]
def LX(w:AW)(v:LE)(k e:LS):Prop:=v.cs.length≠1->v.cs.length<2^20->k.r<:+v.cs->(dD v k e).Holds w
section
def akc:LX w v ⟨.str<|T [32],T [],ln,[],O,T [32],o⟩ ⟨.none,T [],ln,[],O,T [32],Y (T [])⟩:=λH e s=>ke (D:=v.rn) (qs:=[]) (n:=(dg 70 0x2220100010100100015005020110001000015201100010000150201100010000150555)) (by induction o<;>rw[aF]) (pd w v.ins v.d e) Z9
def aeE(b:dR (S " \t\x0d\n") (T [c])=J)(d:bq (T [c]) (S "\n")=O)(i:LX w v ⟨.str<|T [32],T [],ln,r,O,T [32],Y (T [c])⟩ h):LX w v ⟨.str<|T [32],T [],ln,c::r,O,T [32],o⟩ h:=λH e s=>bM (D:=(v.rd c r)) (n:=(dg 114 0x520110001000015002011000100001502011000100001514201100010000155150201100010000152011000100001502011000100001505555)) (k:=[J,J,J,J,O]) (qs:=[dR (S " \t\x0d\n") (T [c])=J,((T [c]).length:Int)<2^63,bq (T [c]) (S "\n")=O]) (k2:=⟨.str<|T [32],T [],ln,r,O,T [32],Y<|T [c]⟩) (by induction o<;>rw[aF]) (bv w v.ins v.d s H e) ⟨b,xL _,d,trivial⟩<|i H e<|bB s
def akd(i:LX w v ⟨.str<|T [32],T [],ln+1,r,O,T [32],Y (T [10])⟩ b):LX w v ⟨.str<|T [32],T [],ln,10::r,O,T [32],o⟩ b:=λH e s=>bM (D:=(v.rd 10 r)) (n:=(dg 146 0x52011000100001500201100010000150201100010000150201100010000155005020110001000015201100010000150201100010000152220100010100100010201100010000150555)) (k:=[J,O,J,J,O]) (qs:=[]) (k2:=⟨.str<|T [32],T [],ln+1,r,O,T [32],Y<|T [10]⟩) (by induction o<;>rw[aF]) (bv w v.ins v.d s H e) Z9<|i H e<|bB s
def ake(c:e8 r=Y r2)(i:LX w v ⟨.str<|T [32],T [],ln+1,r2,O,T [32],Y (T [35])⟩ k):LX w v ⟨.str<|T [32],T [],ln,35::r,O,T [32],o⟩ k:=λH e s=>(aca w v.ins v.d (bB s) c (aeD s) e).elim λQ h=>aj9 (D:=(v.rd 35 r)) (B:=v.rl r _ r2) (qs:=[]) (m:=(dg 121 0x430000300000003000000032011000100001502011000100001550201100010000155005020110001000015201100010000150201100010000150555)) (n:=(dg 33 0x222010001010010001020110001000015)) (k2:=⟨.str<|T [32],T [],ln+1,r2,O,T [32],Y<|T [35]⟩) (by induction o<;>rw[aF]) (bv w v.ins v.d s H e) Z9 h<|i H e<|akb c<|bB s
def akf(i:LX w v ⟨.str<|T [92],T [],ln,r,O,T [97],Y (T [92])⟩ b):LX w v ⟨.str<|T [32],T [],ln,92::r,O,T [32],o⟩ b:=λH e s=>bM (D:=(v.rd 92 r)) (n:=(dg 135 0x222010001010010001555502011000100001552011000100001502011000100001550201100010000155005020110001000015201100010000150201100010000150555)) (k:=[J,O,J,J,O]) (qs:=[]) (k2:=⟨.str<|T [92],T [],ln,r,O,T [97],Y<|T [92]⟩) (by induction o<;>rw[aF]) (bv w v.ins v.d s H e) Z9<|i H e<|bB s
def akg(i:LX w v ⟨.str<|T [97],T [117],ln,r,O,T [32],Y (T [117])⟩ b):LX w v ⟨.str<|T [32],T [],ln,117::r,O,T [32],o⟩ b:=λH e s=>bM (D:=(v.rd 117 r)) (n:=(dg 168 0x222010001010010001522201000101001000155020110001000015502011000100001552011000100001502011000100001550201100010000155005020110001000015201100010000150201100010000150555)) (k:=[J,O,J,J,O]) (qs:=[]) (k2:=⟨.str<|T [97],T [117],ln,r,O,T [32],Y<|T [117]⟩) (by induction o<;>rw[aF]) (bv w v.ins v.d s H e) Z9<|i H e<|bB s
def aeF(i:LX w v ⟨.str<|T [qc g],T [],ln,r,O,T [32],Y (T [qc g])⟩ b):LX w v ⟨.str<|T [32],T [],ln,qc g::r,O,T [32],o⟩ b:=λH e s=>bM (D:=(v.rd (qc g) r)) (n:=(dg 217 0x2220100010100100015520110001000015020110001000015502011000100001777000000000000010000155020110001000015502011000100001552011000100001502011000100001550201100010000155005020110001000015201100010000150201100010000150555)) (k:=[J,O,J,J,O]) (qs:=[]) (k2:=⟨.str<|T [qc g],T [],ln,r,O,T [32],Y<|T [qc g]⟩) (by induction o<;>induction g<;>rw[aF]) (bv w v.ins v.d s H e) Z9<|i H e<|bB s
def ma(i:LX w v ⟨.str<|T [97],tok,ln,r,J,e,Y (T [qc g])⟩ b):LX w v ⟨.str<|T [qc g],tok,ln,qc g::r,q,e,Y n⟩ b:=λH h s=>bM (D:=(v.rd (qc g) r)) (n:=(dg 131 0x22201000101001000152011000100001502011000100001550055502011000100001520110001000015020110001000015201100010000150201100010000150555)) (k:=[J,O,J,J,O]) (qs:=[]) (k2:=⟨.str<|T [97],tok,ln,r,J,e,Y<|T [qc g]⟩) (by induction g<;>rw[aF]) (bv w v.ins v.d s H h) Z9<|i H h<|bB s
def aeG(i:LX w v ⟨.str<|T [92],tok,ln,r,J,T [34],Y (T [92])⟩ b):LX w v ⟨.str<|T [34],tok,ln,92::r,q,e,Y n⟩ b:=λH h s=>bM (D:=(v.rd 92 r)) (n:=(dg 193 0x2220100010100100015555201100010000150201100010000152011000100001502011000100001552011000100001502011000100001550055502011000100001520110001000015020110001000015201100010000150201100010000150555)) (k:=[J,O,J,J,O]) (qs:=[]) (k2:=⟨.str<|T [92],tok,ln,r,J,T [34],Y<|T [92]⟩) aF (bv w v.ins v.d s H h) Z9<|i H h<|bB s
def akh(b:(tok++T [92]).length<=AO)(i:LX w v ⟨.str<|T [39],tok++T [92],ln,r,J,e,Y (T [92])⟩ c):LX w v ⟨.str<|T [39],tok,ln,92::r,q,e,Y n⟩ c:=λH h s=>bM (D:=(v.rd 92 r)) (n:=(dg 191 0x2220100010100100011cf5201100010000150201100010000152011000100001502011000100001552011000100001502011000100001550055502011000100001520110001000015020110001000015201100010000150201100010000150555)) (k:=[J,O,J,J,O]) (qs:=[((T [92]).length==0)=O,(tok++T [92]).length<=AO]) (k2:=⟨.str<|T [39],tok++T [92],ln,r,J,e,Y<|T [92]⟩) aF (bv w v.ins v.d s H h) ⟨rfl,b,trivial⟩<|i H h<|bB s
def aki(b:(tok++T [10]).length<=AO)(i:LX w v ⟨.str<|T [qc g],tok++T [10],ln+1,r,J,e,Y (T [10])⟩ c):LX w v ⟨.str<|T [qc g],tok,ln,10::r,q,e,Y n⟩ c:=λH h s=>bM (D:=(v.rd 10 r)) (n:=(dg 195 0x2220100010100100011cf52011000100001502011000100001552011000100001502011000100001550055502011000100001520110001000015020110001000015201100010000150201100010000152220100010100100010201100010000150555)) (k:=[J,O,J,J,O]) (qs:=[((T [10]).length==0)=O,(tok++T [10]).length<=AO]) (k2:=⟨.str<|T [qc g],tok++T [10],ln+1,r,J,e,Y<|T [10]⟩) (by induction g<;>rw[aF]) (bv w v.ins v.d s H h) ⟨rfl,b,trivial⟩<|i H h<|bB s
def akj(b:(tok++T [c]).length<=AO)(d:dR (S "\\") (T [c])=O)(i:bq (T [c]) (T [qc g])=O)(j:bq (T [c]) (S "\n")=O)(I:LX w v ⟨.str<|T [qc g],tok++T [c],ln,r,J,e,Y (T [c])⟩ l):LX w v ⟨.str<|T [qc g],tok,ln,c::r,q,e,Y n⟩ l:=λH h s=>bM (D:=(v.rd c r)) (n:=(dg 164 0x2220100010100100011cf5201100010000150420110001000015520110001000015052011000100001551555020110001000015201100010000150201100010000152011000100001502011000100001505555)) (k:=[J,O,J,J,O]) (qs:=[((T [c]).length==0)=O,(tok++T [c]).length<=AO,dR (S "\\") (T [c])=O,bq (T [c]) (T [qc g])=O,((T [c]).length:Int)<2^63,bq (T [c]) (S "\n")=O]) (k2:=⟨.str<|T [qc g],tok++T [c],ln,r,J,e,Y<|T [c]⟩) (by induction g<;>rw[aF]) (bv w v.ins v.d s H h) ⟨rfl,b,d,i,xL _,j,trivial⟩<|I H h<|bB s
def aeH(b:(tok++T [c]).length<=AO)(d:bq (T [c]) (S "\n")=O)(i:LX w v ⟨.str<|T [97],tok++T [c],ln,r,q,T [97],Y (T [c])⟩ h):LX w v ⟨.str<|T [92],tok,ln,c::r,q,T [97],Y n⟩ h:=λH e s=>bM (D:=(v.rd c r)) (n:=(dg 179 0x222010001010010001552220100010100100011cf52011000100001502011000100001551502011000100001520110001000015020110001000015201100010000150201100010000152011000100001502011000100001505555)) (k:=[J,O,J,J,O]) (qs:=[((T [c]).length==0)=O,(tok++T [c]).length<=AO,((T [c]).length:Int)<2^63,bq (T [c]) (S "\n")=O]) (k2:=⟨.str<|T [97],tok++T [c],ln,r,q,T [97],Y<|T [c]⟩) aF (bv w v.ins v.d s H e) ⟨rfl,b,xL _,d,trivial⟩<|i H e<|bB s
def akk(b:(tok++T [10]).length<=AO)(i:LX w v ⟨.str<|T [97],tok++T [10],ln+1,r,q,T [97],Y (T [10])⟩ c):LX w v ⟨.str<|T [92],tok,ln,10::r,q,T [97],Y n⟩ c:=λH e s=>bM (D:=(v.rd 10 r)) (n:=(dg 212 0x222010001010010001552220100010100100011cf52011000100001502011000100001550050201100010000152011000100001502011000100001520110001000015020110001000015201100010000150201100010000152220100010100100010201100010000150555)) (k:=[J,O,J,J,O]) (qs:=[((T [10]).length==0)=O,(tok++T [10]).length<=AO]) (k2:=⟨.str<|T [97],tok++T [10],ln+1,r,q,T [97],Y<|T [10]⟩) aF (bv w v.ins v.d s H e) ⟨rfl,b,trivial⟩<|i H e<|bB s
def akl(b:(tok++T [34]).length<=AO)(i:LX w v ⟨.str<|T [34],tok++T [34],ln,r,q,T [34],Y (T [34])⟩ c):LX w v ⟨.str<|T [92],tok,ln,34::r,q,T [34],Y n⟩ c:=λH e s=>bM (D:=(v.rd 34 r)) (n:=(dg 198 0x222010001010010001552220100010100100011cf520110001000015055020110001000015502011000100001550050201100010000152011000100001502011000100001520110001000015020110001000015201100010000150201100010000150555)) (k:=[J,O,J,J,O]) (qs:=[((T [34]).length==0)=O,(tok++T [34]).length<=AO]) (k2:=⟨.str<|T [34],tok++T [34],ln,r,q,T [34],Y<|T [34]⟩) aF (bv w v.ins v.d s H e) ⟨rfl,b,trivial⟩<|i H e<|bB s
def akm(b:(tok++T [92]).length<=AO)(i:LX w v ⟨.str<|T [34],tok++T [92],ln,r,q,T [34],Y (T [92])⟩ c):LX w v ⟨.str<|T [92],tok,ln,92::r,q,T [34],Y n⟩ c:=λH e s=>bM (D:=(v.rd 92 r)) (n:=(dg 195 0x222010001010010001552220100010100100011cf520110001000015020110001000015502011000100001550050201100010000152011000100001502011000100001520110001000015020110001000015201100010000150201100010000150555)) (k:=[J,O,J,J,O]) (qs:=[((T [92]).length==0)=O,(tok++T [92]).length<=AO]) (k2:=⟨.str<|T [34],tok++T [92],ln,r,q,T [34],Y<|T [92]⟩) aF (bv w v.ins v.d s H e) ⟨rfl,b,trivial⟩<|i H e<|bB s
def akn(i:LX w v ⟨.str<|T [qc g],tok,ln,r,q,e,Y (T [qc g])⟩ b):LX w v ⟨.str<|T [97],tok,ln,qc g::r,q,e,Y n⟩ b:=λH h s=>bM (D:=(v.rd (qc g) r)) (n:=(dg 226 0x22201000101001000155020110001000015520110001000015020110001000015020110001000015502011000100001550051614f777201100010000150201100010000152011000100001502011000100001520110001000015020110001000015201100010000150201100010000150555)) (k:=[J,O,J,J,O]) (qs:=[aZ [S "a",S "c"] (T [97])=J]) (k2:=⟨.str<|T [qc g],tok,ln,r,q,e,Y<|T [qc g]⟩) (by induction g<;>rw[aF]) (bv w v.ins v.d s H h) ⟨u9,trivial⟩<|i H h<|bB s
def aeI(i:LX w v ⟨.str<|T [92],tok,ln,r,q,T [97],Y (T [92])⟩ b):LX w v ⟨.str<|T [97],tok,ln,92::r,q,e,Y n⟩ b:=λH h s=>bM (D:=(v.rd 92 r)) (n:=(dg 258 0x2220100010100100015555020110001000015520110001000015020110001000015520110001000015020110001000015020110001000015502011000100001550051614f777201100010000150201100010000152011000100001502011000100001520110001000015020110001000015201100010000150201100010000150555)) (k:=[J,O,J,J,O]) (qs:=[aZ [S "a",S "c"] (T [97])=J]) (k2:=⟨.str<|T [92],tok,ln,r,q,T [97],Y<|T [92]⟩) aF (bv w v.ins v.d s H h) ⟨u9,trivial⟩<|i H h<|bB s
def aeJ(c:(tok++T [wd b]).length<=AO)(i:LX w v ⟨.str<|T [97],tok++T [wd b],ln,r,q,e,Y (T [wd b])⟩ d):LX w v ⟨.str<|T [97],tok,ln,wd b::r,q,e,Y n⟩ d:=λH h s=>bM (D:=(v.rd (wd b) r)) (n:=(dg 286 0x2220100010100100011cf5201100010000150201100010000155020110001000015520110001000015020110001000015520110001000015020110001000015020110001000015502011000100001550051614f777201100010000150201100010000152011000100001502011000100001520110001000015020110001000015201100010000150201100010000150555)) (k:=[J,O,J,J,O]) (qs:=[((T [wd b]).length==0)=O,(tok++T [wd b]).length<=AO,aZ [S "a",S "c"] (T [97])=J]) (k2:=⟨.str<|T [97],tok++T [wd b],ln,r,q,e,Y<|T [wd b]⟩) (by induction b<;>rw[aF]) (bv w v.ins v.d s H h) ⟨rfl,c,u9,trivial⟩<|i H h<|bB s
def pg{W:Wt}(b:((T W.t).length:Int)<2^63)(d:dR (S " \t\x0d\n") (T [c])=J)(h:bq (T [c]) (S "\n")=O):LX w v ⟨.str<|T [97],T W.t,ln,c::r,W.q,e,Y n⟩ ⟨.str<|T [32],T W.t,ln,r,W.q,e,Y (T [c])⟩:=λH i s=>ke (D:=(v.rd c r)) (qs:=[((T W.t).length:Int)<2^63,dR (S " \t\x0d\n") (T [c])=J,((T [c]).length:Int)<2^63,aZ [S "a",S "c"] (T [97])=J,bq (T [c]) (S "\n")=O]) (n:=(dg 210 0x520110001000015120110001000015222010001010010001502011000100001514201100010000155151614f7772011000100001502011000100001520110001000015020110001000015201100010000150201100010000152011000100001502011000100001505555)) (by induction W<;>rw[aF]) (bv w v.ins v.d s H i) ⟨b,d,xL _,u9,h,trivial⟩
def ako{W:Wt}(b:((T W.t).length:Int)<2^63)(c:e8 r=Y r2):LX w v ⟨.str<|T [97],T W.t,ln,35::r,W.q,e,Y n⟩ ⟨.str<|T [32],T W.t,ln+1,r2,W.q,e,Y (T [35])⟩:=λH h s=>(aca w v.ins v.d (bB s) c (aeD s) h).elim λQ d=>aka (D:=(v.rd 35 r)) (B:=v.rl r _ r2) (q1:=[aZ [S "a",S "c"] (T [97])=J]) (qs:=[((T W.t).length:Int)<2^63]) (m:=(dg 199 0x4300003000000030000000320110001000015020110001000015502011000100001550051614f777201100010000150201100010000152011000100001502011000100001520110001000015020110001000015201100010000150201100010000150555)) (n:=(dg 96 0x520110001000015120110001000015222010001010010001520110001000015222010001010010001020110001000015)) (by induction W<;>rw[aF]) (bv w v.ins v.d s H h) ⟨u9,trivial⟩ d ⟨b,trivial⟩
def akp:LX w v ⟨.none,T [],ln,[],O,T [32],As⟩ ⟨.none,T [],ln,[],O,T [32],Y (T [])⟩:=λH e s=>ke (D:=v.rn) (qs:=[]) (n:=(dg 52 0x2220100010100100015201100010000150201100010000150555)) aF (pd w v.ins v.d e) Z9
end
structure Fl where
 nm:U
 a:Nat
 i:Nat
 tx:!Nat
 m:Bool
 e:Nat
def Fl.so(f:Fl):SO:=.seq Lt [rf f.i,.str<|T f.tx,.bool f.m]
def nh(fl:!Fl):DL:=fl.map λf=>(f.nm,rf f.a)
noncomputable def flE:!Fl->Nat
 |[]=>0
 |f::_=>f.e
def uk(fl:!Fl):SO:=dct (nh fl)<|flE fl
def kW(fl:!Fl):Rd:=fl.map λf=>(-f.a,f.so)
structure Ev where
 L:Lx
 K:Nat
 cf:Nat
 cl:Nat
 cr:Nat
 ct:Nat
 k1:Nat
 k2:Nat
 k3:Nat
 z:Int
 rw :Nat
 pz:Int
 fd:Nat
 fl:!Fl
def aba(E:Ev):Kb:=match bf [32,1] PW.main.body with
 |some (.FunctionDef _ args B _ _ _ b _ _ _)=>.func ⟨S "_law_hook",S "_law_read.<locals>._law_hook",args,.stmts B,b,3,[(S "rows",-E.cr),(S "lexer",-E.cl),(S "files",-E.cf)],.none,.none,.none,.str (S "law_ox0144_01") 1324,As,.ref (-E.K),.ref (-E.ct),0⟩
 |_=>.plain
def aeK(E:Ev):SO:=.fld (.type "code") [sS "_law_hook",sS "_law_read.<locals>._law_hook",sS "/claim/cut.py",.int 892,.int 1,.int 0,.int 0,.int 19,rf E.k1,.bool J,.int 273,rf E.k2,.none,.none,.none,rf E.k3,.int E.z,.int 892,sS "/claim/cut.py"]
noncomputable abbrev tH:AF:=.type "cell"
def aJ(a:Nat):SO:=.cell tH<|Y<|rf a
def Ev.env(E:Ev):Rd:=[(-E.L.hook,.am ⟨.type "function",As,aba E,#[]⟩),(-E.K,aeK E),(-E.cf,aJ E.fd),(-E.cl,aJ E.L.x),(-E.cr,aJ E.rw),(-E.fd,uk E.fl)]
def gB(i:U)(I:Nat)(ln:Int):SO:=.seq Tt [.str i,rf I,.int ln]
def gk(s:Int)(ts:!Nat):SO:=.fld (.type "collections.deque")<|.none::.int s::ts.map rf
def Lv.sio(l:Lv):Rd:=[(-l.j,la l.d),(-l.d,pc (T l.cs)<|pos l.cs l.r)]
def lc(lv:!Lv):Rd:=lv.map λl=>(-l.t,gB l.nm l.j l.ln)
def rh(lv:!Lv):Rd:=lv.flatMap Lv.sio
abbrev mc:Type:=bu×Nat×Nat
def cV:mc->SV
 |(.opn,_,_)=>sS "open"
 |(_,p,_)=>rf p
def dE:mc->Rd
 |(.tok v l,p,_)=>[(-p,.seq Tt [v,.str l])]
 |(.ask a l n,p,q)=>[(-p,.seq Tt [.str a,.str l,rf q]),(-q,.seq Lt<|n.map .str)]
 |(.opn,_,_)=>[]
noncomputable def Lv.p(l:Lv):Lv:={l with t:=0,j:=0,d:=0}
noncomputable def Gs.p(g:Gs):Gs:=⟨g.an.p,g.st,g.lv.map Lv.p,0,g.ae.map λr=>(r.1,0,0),g.bs⟩
def Lx.two(L:Lx)(g:Gs):Rd:=[(-L.x,xI L),(-L.xd,xD L g.an.nm g.an.j g.st (S "") g.an.ln)]
def Gs.two(g:Gs)(L:Lx):!SO:=[xI L,xD L g.an.nm g.an.j g.st (S "") g.an.ln]
def Gs.dq(g:Gs):SO:=gk g.s<|g.lv.map (·.t)
def Gs.rws(g:Gs):SO:=.seq Lt<|g.bs++g.ae.map cV
noncomputable def Ev.ad4(E:Ev):!AL:=[-E.L.x,-E.L.xd,-E.L.fs,-E.rw]
def Gs.so4(g:Gs)(E:Ev):!SO:=[xI E.L,xD E.L g.an.nm g.an.j g.st (S "") g.an.ln,g.dq,g.rws]
def Gs.aj(g:Gs)(E:Ev):!Rd:=[g.an.sio,lc g.lv,rh g.lv,kW E.fl,g.ae.flatMap dE]
def yG(g:Gs):aW:={y0 with u:={g:=g}}
def Ev.enp(E:Ev):Rd:=E.env++[(-E.L.pb,gk E.pz [])]
noncomputable def Gs.fn(g:Gs):SV->Gs
 |.none=>⟨g.an,g.st,[],g.s,g.ae,g.bs⟩
 |_=>g
def v4(E:Ev)(n:Nat)(g G:Gs)(ab:SV):X:={ec:=.call (.ref 683) [rf E.L.x] [],ai:=501,rcs:=Y n,pre:=E.ad4.zip (g.so4 E)++E.enp,aj:=g.aj E,ab:=λQ=>.ok ab,post:=λy=>(y.u.g.fn ab).so4 E++E.enp.map (·.2),af:=λy=>(y.u.g.fn ab).aj E,pure:=λy=>(y.u.g.fn ab).p=G}
def rtB(L:Lx)(l:Lv)(a b:Tx)(ab:SV):X:=(xK ⟨L,l.nm,l.j,l.d,l.cs,0⟩ a b ab).box 2
def tJ(L:Lx)(s:Int)(ts:!Nat):X:=hM As "collections.deque.__len__" [rf L.fs] (-L.fs) (gk s ts)<|.ok<|.int ts.length
def aiz(L:Lx)(i:U)(I:Nat)(st:SV)(ln s:Int)(ts:!Nat)(N:U)(cs:!Nat):X:={ec:=.call (.ref 669) [rf L.x,.str<|T cs,.str N] [],ai:=499,pre:=[(-L.x,xI L),(-L.xd,xD L i I st (S "") ln),(-L.fs,gk s ts)],ab:=λQ=>.ok .none,post:=λy=>[xI L,xD L N (y.n 1) st (S "") 1,gk (s+1)<|y.n 0::ts],af:=λy=>[[(-y.n 1,la<|y.n 2),(-y.n 2,pc (T cs) 0)],[(-y.n 0,gB i I ln)]]}
def va(p:Int):SO:=.ns Dt [(sS "_StringIO__newline",sS "\n"),(sS "_StringIO__buf",.none),(sS "_StringIO__pos",.int p)]
def auv(L:Lx)(c:U)(b d:Nat)(B:U)(p:Int)(st:SV)(ln s:Int)(t:Nat)(ts:!Nat)(i:U)(I:Nat)(l:Int):X:={ec:=.call (.ref 676) [rf L.x] [],ai:=499,pre:=[(-L.x,xI L),(-L.xd,xD L c b st (S "") ln),(-L.fs,gk s<|t::ts),(-t,gB i I l),(-b,la d),(-d,pc B p)],ab:=λQ=>.ok .none,post:=λQ=>[xI L,xD L i I (.str<|T [32]) (S "") l,gk (s+1) ts,gB i I l,la d,va p]}
def md{K:X}{y:Nat->aW}(p:aR w K F λQ N=>.f n ix ks bx (y N))(j:DW 400 K.ai=J)(d:∀N,K.pure (y N)):K.Holds w:=X.ap p j λQ N=>pF rfl<|d N
def ph w L s:∀ts:!Nat,ts.length<=3->(tJ L s ts).Holds w:=λts h=>md (F:=300) (n:=[0,1]) (ix:=[0]) (ks:=[J]) (bx:=[]) (y:=λQ=>y0) (match ts,h with
 |[],_|[_],_|[_,_],_|[_,_,_],_=>aF
 |_::_::_::_::l,h=>ZZ h<|Ce<|BI 4 l.length) rfl λQ=>Z9
def agK w L i I st ln s b cs:∀ts:!Nat,ts.length<=2->(aiz L i I (.str st) ln s ts b cs).Holds w:=λts h=>md (F:=1200) (n:=(dg 451 0x201100010000142220100010100100014222010001010010001442220100010100100014433333032011000100001420110001000014201100010000143333201100010000144488809000000090900900000009ab0b0bbbb809900000009000000009bbbbb000a89000090000000900000009aa88809000000090900900000009a88809000000090900900000009a88809000000090900900000009aa000a00a0a0aa000a00aaaaaaa000000090900000000000000000000000000000000000000700007000777777700000000000000000000000000000400000400444444000)) (ix:=[0,1,2]) (ks:=[J,O,O]) (bx:=[[.l 8,.l 7],[.l 11]]) (y:=λN=>yA [N+8,N+5,N+4]) (match ts,h with
 |[],_|[_],_|[_,_],_=>aF
 |_::_::_::l,h=>ZZ h<|Ce<|BI 3 l.length) rfl λQ=>Z9
def akq w L b c d B p ln s t i I e:∀ts:!Nat,ts.length<=2->(auv L b c d B p .none ln s t ts i I e).Holds w:=λts h=>md (F:=1200) (n:=(dg 228 0x2220100010100100017020110001000017222010001010010001722201000101001000172220100010100100017b9949909999499099994990999949909990444433333033333201100010000176660500000005050050000000588800065000050000000500000005201100010000177700)) (ix:=[0,1,2,3,4,5]) (ks:=[J,O,O,J,J,O]) (bx:=[]) (y:=λQ=>y0) (match ts,h with
 |[],_|[_],_|[_,_],_=>aF
 |_::_::_::l,h=>ZZ h<|Ce<|BI 3 l.length) rfl λQ=>Z9
def vb(L:Lx)(c:Lv)(s:Int)(l:Lv)(b:!Lv):X:={ec:=.call (.ref 676) [rf L.x] [],ai:=499,pre:=[(-L.x,xI L),(-L.xd,xD L c.nm c.j .none (S "") c.ln),(-L.fs,gk s<|l.t::b.map (·.t))],aj:=[c.sio,lc<|l::b,rh<|l::b],ab:=λQ=>.ok .none,post:=λQ=>[xI L,xD L l.nm l.j (.str<|T [32]) (S "") l.ln,gk (s+1)<|b.map (·.t)],af:=λQ=>[l.sio,lc b,rh b,[(-l.t,gB l.nm l.j l.ln),(-c.j,la c.d),(-c.d,va<|pos c.cs c.r)]]}
def acb w L c s l b (h:b.length<=2):(vb L c s l b).Holds w:=by
 rw[X.perm (l.sio++(lc b++rh b)) (akq w L c.nm c.j c.d (T c.cs) (pos c.cs c.r) c.ln s l.t l.nm l.j l.ln (b.map (·.t)) (by rw[Ap,];rw[h])) rfl rfl (AA _) (.inl rfl) ?_ λy Q Q Q=>⟨y,rfl,rfl,rfl,?_,trivial⟩]
 .rw[Tr.pmE [[(-L.x,xI L),(-L.xd,xD L c.nm c.j .none (S "") c.ln),(-L.fs,gk s<|l.t::b.map (·.t))],[(-l.t,gB l.nm l.j l.ln)],c.sio,l.sio,lc b,rh b] 0x27280061800400807300a00906010000]
 .rw[Tr.pmE [[(-L.x,xI L),(-L.xd,xD L l.nm l.j (.str<|T [32]) (S "") l.ln),(-L.fs,gk (s+1)<|b.map (·.t))],l.sio,lc b,rh b,[(-l.t,gB l.nm l.j l.ln),(-c.j,la c.d),(-c.d,va<|pos c.cs c.r)]] 0xa400c010984000001300a02006008800]
def qm(L:Lx)(i:U)(I:Nat)(st:U)(ln s:Int)(ts:!Nat)(N:U)(cs:!Nat):X:={aiz L i I (.str st) ln s ts N cs with af:=λy=>[[(-y.n 1,la<|y.n 2),(-y.n 2,pc (T cs)<|pos cs cs)],[(-y.n 0,gB i I ln)]]}
def abb cs:pos cs cs=0:=by delta pos;rw[FE,];rfl
def abc w L i I st ln s ts N cs (h:ts.length<=2):(qm L i I st ln s ts N cs).Holds w:=by delta qm;rw[abb,];rw[agK w L i I st ln s N cs ts h]
noncomputable def vc:Nat->Ea->Option Ea
 |0,_=>As
 |n+1,e=>match(ep e).c with
  |true=>Y e
  |false=>match(ep e).e with
   |a::_=>vc n a
   |[]=>As
def iL(o:Option Gc):Option Ea:=o.bind λs=>(sp s).e.head?
def mf(e:!Nat):Ea:=((iL<|bf e PW.main.body).bind<|vc 9).getD Bs
def scC(e:Ea):Jj:=(ep e).sc
structure Cm where
 e:Ea
 q:String
 cd:AL
structure Cp where
 L:Nat
 F:Nat
 it:Nat
 ac:Nat
def Cm.env(c:Cm)(p:Cp):Env:=⟨scC c.e,-p.L,3,[],S c.q,As,.ref c.cd,Y<| -p.F,0⟩
def Cm.lp(c:Cm)(p:Cp):BC:=.compLoop c.e 0 (.ref<| -p.it) (.ref<| -p.ac)<|c.env p
noncomputable def Cm.st(c:Cm)(p:Cp):BC:=.compStart c.e 0 (.ref<| -p.it) (.ref<| -p.ac)<|c.env p
def zj(x:String):Option SV->!(SV×SV)
 |none=>[]
 |some v=>[(sS x,v)]
def ni(x:String)(o:Option SV):SO:=.ns tA<|zj x o
def vd(K:Nat):Cm:=⟨mf [32,1,0],"_law_read.<locals>._law_hook.<locals>.",-K⟩
noncomputable def aiA:!Lv->Option SV->Option SV
 |[],o=>o
 |l::b,_=>aiA b<|Y<|rf l.t
def ve(c:BC)(p:Cp)(fs:Nat)(s i l e:Int)(lv b:!Lv)(o:Option SV)(ys d:!SV):X:={ec:=.am c,ai:=450,pre:=[(-p.L,ni "below" o),(-p.it,qN (-fs) i s l),(-p.ac,.seq Lt ys),(-fs,gk s<|lv.map (·.t))],aj:=[lc lv],ab:=λQ=>.au .next,post:=λQ=>[ni "below"<|aiA b o,qN (-fs) e s 0,.seq Lt d,gk s<|lv.map (·.t)],af:=λQ=>[lc lv]}
def dnK(p:Cp)(fs:Nat)(i s l:Int)(lv:!Lv)(x:Nat):X:=(ad8 (-p.it) (-fs) i s l ((lv.map (·.t)).map rf)<|rf x).kt
def deK(p:Cp)(fs:Nat)(i s:Int)(lv:!Lv):X:=(rQ (-p.it) (-fs) i s<|(lv.map (·.t)).map rf).kt
def akr(K:Nat)(p:Cp)(fs:Nat)(s i l e:Int)(lv b:!Lv)(o:Option SV)(ys d:!SV)(v:Lv)(_:Bool)(N:Nat):Nt:=
 (.v [0,2,2] (dnK p fs i s l lv v.t) [1,3] [] λx=>
 (.ob [[1,1,1],[],[],[],[0]] (-v.t) (gB v.nm v.j v.ln) (.v [3] (hN As "list.append" [.ref<| -p.ac,.str v.nm] (-p.ac) (.seq Lt ys) (.seq Lt<|ys++[.str v.nm])<|.ok .none) [2] [] λn=>
 (.u [] (ve ((vd K).lp p) p fs s (i+1) (l-1) e lv b (Y<|rf v.t) (ys++[.str v.nm]) d) [0,1,2,3] [O,J,J,J] [[0]] λc=>
 (.g [] [0,1,2,3] [[.b 0]]<|y0)))))
def aks(K:Nat)(p:Cp)(fs:Nat)(s i:Int)(lv:!Lv)(o:Option SV)(ys:!SV)(_:Bool)(N:Nat):Nt:=
 (.v [0,2,2] (deK p fs i s lv) [1,3] [] λx=>
 (.g [5] [0,1,2,3] [[.b 0]]<|y0))
def akt(K:Nat)(p:Cp)(fs:Nat)(s i l e:Int)(lv b:!Lv)(d:!SV)(γ:Bool)(N:Nat):Nt:=match γ with
 |true=>(.v [0] (ve ((vd K).lp p) p fs s i l e lv b As [] d) [0,1,2,3] [[0]] λx=>
 (.g [] [0,1,2,3] [[.b 0]]<|y0))
 |false=>(.v [0,2,2,2,0,2] (ve ((vd K).lp p) p fs s i l e lv b As [] d) [0,1,2,3] [[0]] λx=>
 (.g [] [0,1,2,3] [[.b 0]]<|y0))
def arx w K p fs s lv d:∀(b:!Lv)(n:Nat)(l e:Int)(o:Option SV)(ys:!SV),lv.drop n=b->l=b.length->e=n+l->ys++b.map (λl=>.str l.nm)=d->d.length<2^20->(ve ((vd K).lp p) p fs s n l e lv b o ys d).Holds w:=by
 cases _ with
 |nil=>intro n l e o ys _ H c A _;subst H c;rw[Ki,Az]at A;subst A;rw[(ES (n:Int)).symm▸(X.ap (F:=900) (nt:=(aks K p fs s n lv o ys)) (by induction o<;>rw[aF]) rfl λV V=>pU rfl (dX (agy w _ _ _ _ _) (λV h=>h) λV=>Z9) λV V=>pF rfl Z9)]
 |cons v b I=>
  intro n l e o ys i H c A B;let x:lv[n]?=Y v:=by rw[<-Bp n,<-Bb,i];rfl
  rw[X.ap (F:=900) (nt:=(akr K p fs s n l e lv b o ys d v)) (by induction o<;>rw[aF]) rfl λV V=>pU rfl (dX (aeh w _ _ _ _ _ _ _ ?_ ?_) (λV h=>h) λV=>Z9) λV V=>pO rfl ?_<|pU rfl (aP w _ ys (.str v.nm) ?_) λV V=>pU rfl (I (n+1) (l-1) e (Y<|rf v.t) (ys++[SV.str v.nm]) ?_ ?_ ?_ (by rw[AD,];rw[A]) B) λV V=>pF rfl Z9]
  .rw[AG,AG,show(n:Int).toNat=n from rfl,x];rfl
  .rw[H,];rfl
  .rw[AT aE<|Av (f:=λl:Lv=>(-l.t,gB l.nm l.j l.ln))<|Br x]
  .rw[<-A,Ay]at B;rw[AV (BG _ _) B]
  .rw[<-BU,i];rfl
  .rw[H,];rw[Dm (b.length:Int) 1]
  .rw[c,EA,D8,show((1:Nat):Int)+(l-1)=l by rw[(EK 1<|l-1).trans<|Int.sub_add_cancel l 1]]
def aeL w K p fs s lv (h:lv.length<2^20):(ve ((vd K).st p) p fs s 0 lv.length lv.length lv lv As []<|lv.map λl=>.str l.nm).Holds w:=by
 rw[X.ap (F:=900) (nt:=(akt K p fs s 0 lv.length.cast lv.length.cast lv lv<|D6 (λl=>SV.str l.nm) lv)) lW rfl λγ Q=>match γ with
  |true|false=>pU rfl (arx w K p fs s lv _ lv 0 lv.length lv.length As [] rfl rfl (Int.zero_add _).symm (Dy _) (by rw[Ap,];rw[h])) λQ Q=>pF rfl Z9]
@[elab_as_elim] theorem len3{motive:!α->Prop} l (h:l.length<=3)(a:motive [])(b:∀x,motive [x])(c:∀x y,motive [x,y])(d:∀x y z,motive [x,y,z]):motive l:=by
 cases l using A8 with
 |nil=>rw[a]
 |cons x l=>cases l using A8 with
  |nil=>rw[b x]
  |cons y l=>cases l using A8 with
   |nil=>rw[c x y]
   |cons z l=>cases l using A8 with
    |nil=>rw[d x y z]
    |cons u l=>rw[ZZ h<|Ce<|BI 4 l.length]
noncomputable def Gs.put(g:Gs)(r:bu)(p q:Nat):Gs:=⟨g.an,g.st,g.lv,g.s,g.ae++[(r,p,q)],g.bs⟩
def Gs.lead(g:Gs):U:=aO g.an.nm g.an.ln
noncomputable def Gs.ah(g:Gs):!U:=g.an.nm::g.lv.map (·.nm)
def Gs.ask(g:Gs)(a:U):bu:=.ask a g.lead g.ah
def tK(E:Ev)(g:Gs)(a:U)(ab:aW->EE)(ao:aW->!AL)(al:!SO):X:={ec:=.call (rf E.L.hook) [.str a] [],ai:=500,pre:=E.ad4.zip (g.so4 E)++E.env,aj:=[lc g.lv,kW E.fl],ab,ao,al:=λQ=>al,post:=λy=>[xI E.L,xD E.L g.an.nm g.an.j g.st (S "") g.an.ln,g.dq,.seq Lt<|g.bs++g.ae.map cV++[rf<|y.n 1]]++E.env.map (·.2),af:=λy=>[lc g.lv,kW E.fl,dE (g.ask a,y.n 1,y.n 2)]}
def dcK(E:Ev)(a:U)(b:Bool):X:=hM As "dict.__contains__" [rf E.fd,.str a] (-E.fd) (uk E.fl)<|.ok<|.bool b
def dgK(E:Ev)(a:U)(f:Fl):X:=hM As "dict.__getitem__" [rf E.fd,.str a] (-E.fd) (uk E.fl)<|.ok<|rf f.a
def zk(E:Ev)(g:Gs)(q:Nat):X:=hN As "list.append" [rf E.rw,rf q] (-E.rw) g.rws (.seq Lt<|g.bs++g.ae.map cV++[rf q])<|.ok .none
noncomputable def hkD(l:!Nat):!Lv->!Nat
 |[]=>l.drop 2
 |_::_=>l
def hkP(V:Ev)(g:Gs)(a:U)(b:Bool)(nx:aQ->aQ->Nt):Bool->Nat->Nt:=λQ N=>
 .u (dg 39 0xd3303332011000100001820110001000018bb65) (ve ((vd V.K).st ⟨N+4,N,N+2,N+3⟩) ⟨N+4,N,N+2,N+3⟩ V.L.fs g.s 0 g.lv.length g.lv.length g.lv g.lv As []<|g.lv.map λl=>.str l.nm) [14,12,13,2] [O,O,O,J] [[0]] λx=>
 .u (hkD (dg 82 0x12f11f11f11f11f201100010000111f11f11f11f201100010000111f11f11f11f11f11f11f11f00002100001000100018b44449bbece0ccec0ff0ff0ff) g.lv) (rP (x.t 1+2+902) g.an.nm g.an.ln).kt [17] [O] [] λn=>
 .v [11,4] (zk V g<|n.t 1) [3] [] λQ=>
 .use (dg 13 0xaaa7b00ff18f10f10f10fbb) (dcK V a b) As [9] [J] [] [aZ g.ah a=O] λQ=>nx x n
noncomputable def kA(l:!Bool):!Bool:=J::J::J::J::O::J::J::J::J::J::l
def aeM(p:g.lv.length<=3->aR w (tK V g a ab ao al) 900 (hkP V g a b nx))(H:(cU (nh V.fl) a).isSome=b)(hl:aZ g.ah a=O)(i:g.lv.length<=3)(c:g.an.nm.length<=1000000)(d:0<=g.an.ln)(e:g.an.ln<10^10)(l:g.bs.length+g.ae.length<2^20)(q:∀x n,(nx x n).Pure w As (tK V g a ab ao al) [lc g.lv,kW V.fl]):(tK V g a ab ao al).Holds w:=
 X.ap (p i) rfl λQ N=>pU rfl (aeL w V.K _ V.L.fs g.s g.lv<|AV i (by decide)) λQ Q=>pU rfl (dX (oG w _ _ _ c d e) (λQ h=>h) λQ=>Z9) λQ Q=>pU rfl (aP w _ _ _ (by rw[Ay,Ap];rw[l])) λQ Q=>pV rfl ⟨hl,trivial⟩ (e7<|oK w _ _ _ b H (by simp)) λQ Q=>q _ _
def aeN(w:AW) V g a f (C:f∈V.fl)(hd:cU (nh V.fl) a=Y (rf f.a))(hl:aZ g.ah a=O)(i:g.lv.length<=3)(H:g.an.nm.length<=1000000)(d:0<=g.an.ln)(e:g.an.ln<10^10)(l:g.bs.length+g.ae.length<2^20):(tK V g a (λy=>.ok (rf<|y.n 0)) (λy=>[-y.n 0]) [.seq Tt [.str a,.str (T f.tx)]]).Holds w:=by let(c,st,lv,s,r,B):=g;rw[aeM (b:=J) (nx:=λx n=>.v (dg 7 0xaaaab7b) (dgK V a f) [9] [] λj=>.ob [[],[],[],[],[0]] (-f.a) f.so<|.f [0] [0,1,2,3,4,5,6,7,8,9,19] (kA [O]) [[.b 0],[.b 1],[.l 18,.l 15]]<|yA [j.t 1,n.t 1,x.t 1]) (λh=>len3 lv h aF (λQ=>aF) (λQ Q=>aF) λQ Q Q=>aF) (by rw[hd,];rfl) hl i H d e l λQ Q=>pU rfl (e7<|eZ w _ _ _ _ hd) λQ Q=>pO rfl (AT ce<|Av (f:=λf:Fl=>(-f.a,f.so)) C)<|pF rfl Z9]
def aeO(w:AW) V g a (hd:cU (nh V.fl) a=As)(hl:aZ g.ah a=O)(i:g.lv.length<=3)(H:g.an.nm.length<=1000000)(d:0<=g.an.ln)(e:g.an.ln<10^10)(l:g.bs.length+g.ae.length<2^20):(tK V g a (λQ=>.ok .none) (λQ=>[]) []).Holds w:=by let(c,st,lv,s,r,B):=g;rw[aeM (b:=O) (nx:=λx n=>.f [] [0,1,2,3,4,5,6,7,8,9] (kA []) [[.b 0],[.b 1],[.l 18,.l 15]]<|yA [0,n.t 1,x.t 1]) (λh=>len3 lv h aF (λQ=>aF) (λQ Q=>aF) λQ Q Q=>aF) (by rw[hd,];rfl) hl i H d e l λQ Q=>pF rfl Z9]
def vf(E:Ev)(g:Gs)(a:U)(ab:aW->EE)(ao:aW->!AL)(al:!SO):X:={ec:=.call (rf E.L.hook) [.str a] [],ai:=500,pre:=E.ad4.zip (g.so4 E)++E.env,aj:=[lc g.lv,kW E.fl,g.ae.flatMap dE],ab,ao,al:=λQ=>al,post:=λy=>(g.put (g.ask a) (y.n 1)<|y.n 2).so4 E++E.env.map (·.2),af:=λy=>[lc g.lv,kW E.fl,(g.put (g.ask a) (y.n 1)<|y.n 2).ae.flatMap dE]}
def pm3(P t f R:Rd):((P++(t++(f++[])))++R).Perm<|P++(t++(f++(R++[]))):=by rw[Az,Az,AD,AD]
def pm4(P t f R r:Rd):(P++(t++(f++((R++r)++[])))).Perm<|(P++(t++(f++(r++[]))))++R:=Tr.pmE [P,t,f,R,r] 0xa13008018040004c50008018040
def mh(H:(tK E g a ab ao al).Holds w):(vf E g a ab ao al).Holds w:=by
 let e:∀y:aW,(vf E g a ab ao al).post y=(tK E g a ab ao al).post y:=λy=>by show[_,_,_,SO.seq _<|g.bs++(g.ae++[_]).map cV]++_=_;rw[AE,<-AD];rfl
 rw[X.perm (g.ae.flatMap dE) H rfl rfl (AA _) (.inl rfl) (pm3 _ _ _ _) λy Q b c=>⟨y,rfl,by rw[e,];rw[b],c,?_,trivial⟩]
 delta X.led;rw[e,];let z:=pm4 ((tK E g a ab ao al).led y) (lc g.lv) (kW E.fl) (g.ae.flatMap dE)<|dE (g.ask a,y.n 1,y.n 2);rw[<-D1 dE (g.ask a,y.n 1,y.n 2),<-CC,D1]at z;rw[z]
noncomputable def Gs.tx(g:Gs):Tx:=⟨g.st,g.an.ln,g.an.r⟩
noncomputable def Gs.rd(g:Gs)(b:Tx):Gs:=⟨⟨g.an.nm,g.an.cs,b.r,b.ln,g.an.t,g.an.j,g.an.d⟩,b.st,g.lv,g.s,g.ae,g.bs⟩
noncomputable def Gs.push(g:Gs)(f:Fl)(t j d:Nat):Gs:=⟨⟨f.nm,f.tx,f.tx,1,0,j,d⟩,g.st,⟨g.an.nm,g.an.cs,g.an.r,g.an.ln,t,g.an.j,g.an.d⟩::g.lv,g.s+1,g.ae,g.bs⟩
noncomputable def Gs.opn(p:Gs)(f:Fl):Gs:=⟨⟨f.nm,f.tx,f.tx,1,0,0,0⟩,p.st,⟨p.an.nm,p.an.cs,p.an.r,p.an.ln,0,0,0⟩::p.lv,0,p.ae,p.bs⟩
def Gs.rt(g:Gs)(L:Lx)(b:Tx)(ab:SV):X:=rtB L g.an g.tx b ab
noncomputable def rO:Option U->SV
 |none=>.none
 |some t=>.str t
def kG:!Bool:=kA [J]
noncomputable def iG:!Nat:=[0,1,2,3,4,5,6,7,8,9,10]
noncomputable def fB:Bool->!!Bi
 |false=>[[.b 0],[.b 1],[.b 2],[.b 3],[.b 4]]
 |true=>[[.b 5],[.b 6],[.b 0],[.b 3],[.b 4]]
def fG(z:Bool)(n:!Nat)(y:aW)(qs:!Prop):Nt:=.fin n iG kG (fB z) y qs
def eG(z:Bool)(n:!Nat)(L:Lx)(s:Int)(y:aW):Nt:=.v n (tJ L s []) [2] [] λQ=>fG z (dg 14 0x2011000100001c) y []
def tG(V:Ev)(z p:Bool)(o:Option U)(x:aQ):Nt:=match p,o with
 |true,Y _=>fG z (dg 36 0xc02011000100001c002011000100001cc0cc) x.y []
 |false,Y t=>fG z (dg 54 0xc02011000100001c002011000100001cc0052011000100001cc0cc) x.y [bq t (S "use")=O]
 |true,As=>eG z (dg 38 0x330332011000100001c02011000100001cc0cc) V.L x.y.u.g.s x.y
 |false,As=>eG z (dg 56 0x330332011000100001c02011000100001cc0002011000100001cc0cc) V.L x.y.u.g.s x.y
def nG(V:Ev)(n:Nat)(m:!Nat)(g G:Gs)(z p:Bool)(o:Option U):Nt:=.use m (v4 V n g G<|rO o) As iG kG (match z with|true=>[[5],[6,1],[0,2],[3],[4]]|false=>[[0],[1],[2],[3],[4]]) []<|tG V z p o
def rG(V:Ev)(g:Gs)(b:Tx)(ab:SV)(nx:Nt):Nt:=.v (dg 42 0x210000100010001cb0bb0bb2011000100001ccc00) (g.rt V.L b ab) [0,1] [[0]] λQ=>nx
def uG(V:Ev)(g:Gs)(b c:Tx)(a:U)(ab:aW->EE)(ao:aW->!AL)(al:!SO)(nx:aQ->Nt):Nt:=rG V g b (.str<|S "use") (.use (dg 83 0x210000100010001c2011000000100001210000100010001c152011000100001cc02011000100001ccc) ((g.rd b).rt V.L c<|.str a) As [0,1] [J,J] [[0]] [bq (S "use") (S "use")=J] λQ=>
 .u [5] (vf V ((g.rd b).rd c) a ab ao al) [0,1,2,3,4,5,6,7,8,9] (kA []) [[1],[3],[4]] nx)
section
variable{V:Ev}{g g' p' p:Gs}{b c:Tx}
def aiB(h:C.pure y):(eG z m L s y).Pure w As C B:=pU rfl (ph w L s []<|Bd _) λQ Q=>pF rfl h
def r7(i:(v4 V n g g'<|rO o).Holds w)(e:q=O->∀t,o=Y t->bq t (S "use")=O)(h:∀y,(v4 V n g g'<|rO o).pure y->C.pure y):(nG V n m g g' z q o).Pure w As C B:=pU rfl i λx d=>by
 let H:=h x.y d;clear h d i;cases o with
 |none=>induction q<;>rw[aiB H]
 |some t=>cases q with
  |true=>rw[pF rfl H]
  |false=>rw[pG rfl ⟨e rfl t rfl,trivial⟩ H]
def RT(w:AW)(l:Lv)(a b:Tx)(ab:SV):Prop:=∀L j d,(xK ⟨L,l.nm,j,d,l.cs,0⟩ a b ab).Holds w
def GX(w:AW)(V:Ev)(n:Nat)(p p':Gs)(ab:SV):Prop:=∀g:Gs,g.p=p->(v4 V n g p' ab).Holds w
def RT.at(h:RT w g.p.an g.p.tx b ab):(g.rt V.L b ab).Holds w:=(X.box_ok 2<|h _ _ _)
def aeP(h:RT w p.an p.tx b<|.str t)(d:bq t (S "use")=O):GX w V n p (p.rd b)<|.str t:=λg e=>by subst e;rw[X.ap (F:=1500) (nt:=λQ Q=>rG V g b (.str t)<|fG O (dg 68 0xc02011000100001c002011000100001cc0052011000100001cc02011000100001ccc) (yG<|g.rd b) [bq t (S "use")=O]) aF rfl λQ Q=>pU rfl h.at λQ Q=>pG rfl ⟨d,trivial⟩ rfl]
def aeQ(h:RT w p.an p.tx b .none)(hl:p.lv=[]):GX w V n p (p.rd b) .none:=λg e=>by subst e;let(k,st,lv,s,r,B):=g;cases DG.mp hl;rw[X.ap (F:=1500) (nt:=λQ Q=>rG V ⟨k,st,[],s,r,B⟩ b .none<|eG O (dg 70 0x330332011000100001c02011000100001cc0002011000100001cc02011000100001ccc) V.L s<|yG<|(⟨k,st,[],s,r,B⟩:Gs).rd b) aF rfl λQ Q=>pU rfl h.at λQ Q=>aiB rfl]
def aku(h:RT w p.an p.tx ⟨.none,b.ln,b.r⟩ .none)(hl:p.lv=l::L)(H:L.length<=2)(i:GX w V n ⟨l,.str (T [32]),L,0,p.ae,p.bs⟩ p'<|rO o):GX w V (n+1) p p'<|rO o:=λg e=>by
 subst e;let(k,st,lv,s,r,B):=g;let(l,L,rfl,rfl,rfl):=Hj.mp hl;rw[Ap]at H
 rw[X.ap (F:=1500) (nt:=λQ Q=>rG V ⟨k,st,l::L,s,r,B⟩ ⟨.none,b.ln,b.r⟩ .none (.v (dg 70 0x330332011000100001c02011000100001cc0002011000100001cc02011000100001ccc) (tJ V.L s<|l.t::L.map (·.t)) [2] [] λQ=>
  .v (dg 17 0x210000100010001c) (vb V.L ((⟨k,st,l::L,s,r,B⟩:Gs).rd b).an s l L) [0,1,2] [[0],[1],[2]] λQ=>nG V n (dg 17 0x210000100010001c) ⟨l,.str<|T [32],L,s+1,r,B⟩ p' O J o)) (match L,H,o with
  |[],_,As|[_],_,As|[_,_],_,As|[],_,Y _|[_],_,Y _|[_,_],_,Y _=>aF
  |_::_::_::l,h,_=>ZZ h<|Ce<|BI 3 l.length) rfl λQ Q=>pU rfl h.at λQ Q=>pU rfl (ph w _ _ _ (by rw[AI,Ap];rw[BY H])) λQ Q=>pU rfl (acb w _ _ _ _ _ H) λQ Q=>r7 (i _ rfl) (λh=>nomatch h) λQ h=>h]
structure nP(p:Gs)(a:U)(b:Bool):Prop where
 h3:p.lv.length<=3
 hn:p.an.nm.length<=1000000
 h0:0<=p.an.ln
 h1:p.an.ln<10^10
 hr:p.bs.length+p.ae.length<2^20
 hl:aZ p.ah a=b
def aeR:g.p.ah=g.ah:=Z8 (g.an.nm::·) (by
 show(g.lv.map Lv.p).map _=_;rw[BW,]
 rfl)
theorem nP.at(h:nP g.p a q):nP g a q:=⟨by have:=h.h3;rwa [show g.p.lv=g.lv.map Lv.p from rfl,Ap]at this,h.hn,h.h0,h.h1,by have:=h.hr;rwa [show g.p.ae=g.ae.map _ from rfl,Ap]at this,by have:=h.hl;rwa [aeR]at this⟩
def nQ:(g.put (g.ask a) x y).p=g.p.put (g.p.ask a) 0 0:=by
 let e:g.p.ask a=g.ask a:=by delta Gs.ask;rw[aeR,];rfl
 rw[e,];show Gs.mk _ _ _ _ ((g.ae++[_]).map _) _=Gs.mk _ _ _ _ _ _;rw[AE,];rfl
def aeS(h:RT w p.an p.tx b<|.str<|S "use")(H:RT w (p.rd b).an (p.rd b).tx c<|.str a)(d:nP ((p.rd b).rd c) a O)(hd:cU (nh V.fl) a=As)(i:∀t,o=Y t->bq t (S "use")=O)(I:GX w V n (((p.rd b).rd c).put (((p.rd b).rd c).ask a) 0 0) p'<|rO o):GX w V (n+1) p p'<|rO o:=λg e=>by subst e;let A:=nP.at (g:=(g.rd b).rd c) d;rw[X.ap (F:=1500) (nt:=λQ Q=>uG V g b c a (λQ=>.ok .none) (λQ=>[]) [] λx=>nG V n (dg 20 0x210000100010001cccc) (((g.rd b).rd c).put (((g.rd b).rd c).ask a) (x.y.n 1)<|x.y.n 2) p' O O o) (by induction o<;>rw[aF]) rfl λQ Q=>pU rfl h.at λQ Q=>pV rfl ⟨by decide+kernel,trivial⟩ (RT.at (g:=g.rd b) H) λQ Q=>pU rfl (mh<|aeO w V _ a hd A.hl A.h3 A.hn A.h0 A.h1 A.hr) λx Q=>r7 (I _ nQ) (λQ=>i) λQ h=>h]
def akv{f:Fl}{st:U}(h:RT w p.an p.tx b<|.str<|S "use")(H:RT w (p.rd b).an (p.rd b).tx ⟨.str st,c.ln,c.r⟩<|.str f.nm)(d:nP ((p.rd b).rd ⟨.str st,c.ln,c.r⟩) f.nm O)(C:f∈V.fl)(hd:cU (nh V.fl) f.nm=Y (rf f.a))(i:p.lv.length<=2)(j:∀t,o=Y t->bq t (S "use")=O)(I:GX w V n ((((p.rd b).rd ⟨.str st,c.ln,c.r⟩).put (((p.rd b).rd ⟨.str st,c.ln,c.r⟩).ask f.nm) 0 0).opn f) p'<|rO o):GX w V (n+1) p p'<|rO o:=λg e=>by subst e;let A:=nP.at (g:=(g.rd b).rd ⟨.str st,c.ln,c.r⟩) d;rw[X.ap (F:=1500) (nt:=λQ Q=>uG V g b ⟨.str st,c.ln,c.r⟩ f.nm (λy=>.ok<|rf<|y.n 0) (λy=>[-y.n 0]) [.seq Tt [.str f.nm,.str<|T f.tx]] λx=>.v (dg 65 0xcc210000100010001ccccc10feedee0eeeedee0eeeedee0eee0ddddcd0dd0ddccc) (qm V.L g.an.nm g.an.j st c.ln g.s (g.lv.map (·.t)) f.nm f.tx) [0,1,2] [] λz=>nG V n (dg 17 0x210000100010001c) ((((g.rd b).rd ⟨.str st,c.ln,c.r⟩).put (((g.rd b).rd ⟨.str st,c.ln,c.r⟩).ask f.nm) (x.y.n 1)<|x.y.n 2).push f (z.y.n 0) (z.y.n 1)<|z.y.n 2) p' J O o) (by induction o<;>rw[aF]) rfl λQ Q=>pU rfl h.at λQ Q=>pV rfl ⟨by decide+kernel,trivial⟩ (RT.at (g:=g.rd b) H) λQ Q=>pU rfl (mh<|aeN w V _ _ f C hd A.hl A.h3 A.hn A.h0 A.h1 A.hr) λx Q=>pU rfl (abc w _ _ _ _ _ _ _ _ _ (by rw[Ap,];rwa [show g.p.lv=g.lv.map Lv.p from rfl,Ap]at i)) λz Q=>r7 (I _<|Z8 (·.opn f)<|nQ (g:=(g.rd b).rd ⟨.str st,c.ln,c.r⟩)) (λQ=>j) λQ h=>h]
end
def iM(e:!Nat)(env:Env):BC:=match bf e PW.main.body with
 |some s=>.func (sp s).k env
 |none=>.body [] env
def r8(b:!Nat)(e:AF)(env:Env):BC:=match(bf b PW.main.body).map λs=>(sp s).h with
 |some (.ExceptHandler (Y t) _ _ pos::_)=>.handlers e [.ExceptHandler (Y t) As [] pos] env
 |_=>.body [] env
def aiC(V:Ev)(f:Nat):Env:=⟨bd [32,1],-f,3,[(S "rows",-V.cr),(S "lexer",-V.cl),(S "files",-V.cf)],S "_law_read.<locals>._law_hook.<locals>.",Y<| -V.L.hook,.ref<| -V.K,Y<| -f,0⟩
def xM(V:Ev)(g:Gs)(a:U):X:=tK V g a (λQ=>.ok .none) (λQ=>[]) []
def zl(V:Ev)(g:Gs)(a:U)(f:Nat):X:={xM V g a with ec:=.am<|iM [32,1]<|aiC V f,ai:=480}
def hkN(V:Ev)(g:Gs)(a:U)(f:Nat):X:=((zl V g a f).wf f [(sS "asked",.str a)] λy=>[(sS "asked",.str a),(sS "lies",rf<|y.n 2)]).nz (.type "LookupError") λy=>[rf<|y.n 3,.none,.none,.none,.bool O,.none]
def yX(l:!Nat)(e:Nat):aW:={yA l with u:={x:={e:=e}}}
def hkQ(V:Ev)(g:Gs)(a:U)(f:Nat):Bool->Nat->Nt:=λQ N=>
 .u (dg 35 0xd4404443022000200002930220002000029) (ve ((vd V.K).st ⟨N+3,f,N+1,N+2⟩) ⟨N+3,f,N+1,N+2⟩ V.L.fs g.s 0 g.lv.length g.lv.length g.lv g.lv As []<|g.lv.map λl=>.str l.nm) [14,12,13,3] [O,O,O,J] [[0]] λx=>
 .u (hkD (dg 82 0x12f11f11f11f11f302200020000211f11f11f11f302200020000211f11f11f11f11f11f11f11f0000320000200020002915555a11ece0ccec0ff0ff0ff) g.lv) (rP (x.t 1+2+902) g.an.nm g.an.ln).kt [17] [O] [] λn=>
 .v [1,5] (zk V g<|n.t 1) [4] [] λb=>
 .stk (.fin (dg 25 0x15f15f15f15f15f15f15f15f015f15f15f15f000010ff18f10f10f10f11) (dg 12 0x14fa9876543210) [O,J,J,J,J,O,J,J,J,J,J,O] [[.b 0],[.b 1],[.l 18,.l 15]] (yX [0,n.t 1,x.t 1,b.t 1+2]<|b.t 1+1) [aZ g.ah a=J])
def agL:(aiC V f).scope.kind≠.module:=by show(bd [32,1]).kind≠.module;decide+kernel
section
variable(w:AW)(V:Ev)(g:Gs)(a:U)(f:Nat)(l:!Env)(hl:aZ g.ah a=J)(h3:g.lv.length<=3)(hn:g.an.nm.length<=1000000)(h0:0<=g.an.ln)(h1:g.an.ln<10^10)(hr:g.bs.length+g.ae.length<2^20)
include hl h3 hn h0 h1 hr
def auw:(hkN V g a f).aw v2 w<|Y l:=by let(c,st,lv,s,r,B):=g;rw[X.av (F:=900) (nt:=hkQ V ⟨c,st,lv,s,r,B⟩ a f) (len3 lv h3 aF (λQ=>aF) (λQ Q=>aF) λQ Q Q=>aF) rfl λQ N=>pU rfl (aeL w V.K _ V.L.fs s lv<|AV h3 (by decide)) λQ Q=>pU rfl (dX (oG w _ _ _ hn h0 h1) (λQ h=>h) λQ=>Z9) λQ Q=>pU rfl (aP w _ _ _ (by rw[Ay,Ap];rw[hr])) λQ Q=>pS rfl<|pG rfl ⟨hl,trivial⟩ ⟨⟨rfl,rfl⟩,trivial⟩]
def aux:(((zl V g a f).wf f [(sS "asked",.str a)] λy=>[(sS "asked",.str a),(sS "lies",rf (y.n 2))]).rz<|.type "LookupError").aq w []<|Y l:=
 aa7 (λQ Q=>⟨rfl,rfl,rfl,rfl,rfl,id⟩) rfl agL rfl rfl (auw w V g a f l hl h3 hn h0 h1 hr)
def auy:((xM V g a).rz<|.type "LookupError").aq w []<|Y l:=
 X.aB (F:=900) (nt:=λQ N=>.use [5,6,11,11] (((zl V g a N).wf N [(sS "asked",.str a)] λy=>[(sS "asked",.str a),(sS "lies",rf<|y.n 2)]).rz<|.type "LookupError") (Y []) [10,0,1,2,3,4,5,6,7,8,9] [O,J,J,J,J,O,J,J,J,J,J] [[0],[1]] [] λx=>.f [] [0,1,2,3,4,5,6,7,8,9,11,12] [J,J,J,J,O,J,J,J,J,J,J,J] [[.b 0],[.b 1],[.b 2]] x.y)
  aF rfl λQ N=>⟨trivial,aux w V g a N l hl h3 hn h0 h1 hr,λx h=>pF rfl h⟩
end
def dF(f:Nat):Env:=⟨bd [19,5],-f,3,[],S "shlex.get_token.<locals>.",Y 683,.ref 682,Y<| -f,0⟩
noncomputable def aW.setG(y:aW)(g:Gs):aW:={y with u:={y.u with g:=g}}
noncomputable def aW.setN(y:aW)(l:!Nat):aW:={y with n:=λi=>l.getD i 0}
def ul(V:Ev)(n:Nat)(g G:Gs):X:=v4 V n g G<|.bool J
def gtP(V:Ev)(n:Nat)(g G:Gs)(c:BC)(fr:!Env)(d f:Nat)(f0:List<|SV×SV)(fs:aW->!(SV×SV)):X:=(({ul V n g G with ec:=.am c,ai:=d,sm:=J,fr:=fr}:X).wf f f0 fs).rz<|.type "LookupError"
def um(V:Ev)(n:Nat)(g G:Gs)(p:!Nat)(f:Nat)(f0:List<|SV×SV)(fs:aW->!(SV×SV)):X:=gtP V n g G (jA p<|dF f) [dF f] 500 f f0 fs
def uo(V:Ev)(r:SV):List<|SV×SV:=[(sS "self",rf V.L.x),(sS "raw",r)]
def hkI(V:Ev)(g:Gs)(a:U)(f:Nat)(f0:List<|SV×SV):X:=((vf V g a (λQ=>.ok .none) (λQ=>[]) []).wf f f0 λQ=>f0).rz<|.type "LookupError"
def gtI(V:Ev)(n:Nat)(g G:Gs)(f:Nat)(f0:List<|SV×SV):X:=((ul V n g G).wf f f0 λQ=>f0).rz<|.type "LookupError"
def e9:(dF f).scope.kind≠.module:=by show(bd [19,5]).kind≠.module;decide+kernel
def GF(V:Ev):List<|SV×SV:=uo V<|.str<|S "use"
def GR(w:AW)(V:Ev)(n:Nat)(p b:Gs):Prop:=∀(l:!Env)(g:Gs),g.p=p->((ul V n g b).rz<|.type "LookupError").aq w [] (Y l)
noncomputable def wx:!Nat:=[0,1,2,3,4,5,6,7,8,9,10,11]
noncomputable def kB(l:!Bool):!Bool:=J::J::J::J::O::J::J::J::J::J::J::l
def eR(n:!Nat)(j:Nat)(k z:Bool)(y:aW):Nt:=.f n (wx++[j,j+1]) (J::kB [J,k]) (fB z) y
section
variable{b c:Tx}{a st:U}{F:(Nat->Nat)->!(SV×SV)}
def nX(V:Ev)(n f:Nat)(m:!Nat)(g G:Gs)(f0:List<|SV×SV)(j:Nat)(q z:Bool)(bx:List<|!Nat)(nx:aW->aW):Nt:=.use m (gtI V n g G f f0) (Y [dF f]) wx (q::kB []) bx [] λx=>eR [] j J z<|nx x.y
def r9(e:g.p=p)(i:GR w V n p G)(h:∀y,(ul V n g G).pure y->C.pure (nx y)):(nX V n f m g G f0 j q z bx nx).Pure w (Y l) C B:=⟨trivial,qk (λQ Q=>⟨rfl,rfl,rfl,rfl,rfl,id⟩) rfl e9<|i _ _ e,λx H=>⟨trivial,h x.y H⟩⟩
def wR(V:Ev)(g:Gs)(c:Tx)(a:U)(nx:Nt):Nt:=.use (dg 66 0x32000020002000213022000000200002320000200020002115302200020000211) (g.rt V.L c<|.str a) As [1,2] [J,J] [[0]] [bq (S "use") (S "use")=J] λQ=>nx
def sb(h:RT w g.p.an g.p.tx c<|.str a)(e:nx.Pure w (Y l) C<|lU [[0]] ((g.rt V.L c<|.str a).af y0) (dC B [[0]]).2):(wR V g c a nx).Pure w (Y l) C B:=pV rfl ⟨by decide+kernel,trivial⟩ (RT.at h) λQ Q=>e
def agM(h:RT w g.p.an g.p.tx c<|.str a)(H:nP (g.p.rd c) a J):(um V n g ((g.p.rd c).put ((g.p.rd c).ask a) 0 0) [19,5,2,0] f (GF V) λy=>(λQ=>GF V) y.n).aq w [dF f]<|Y l:=by
 let A:=nP.at (g:=g.rd c) H
 rw[hO (xt:=As) (λQ Q=>⟨rfl,rfl,rfl,rfl,rfl,id⟩) rfl e9 rfl rfl (X.av (F:=1500) (nt:=λQ Q=>wR V g c a<|.use [6] (hkI V (g.rd c) a f<|GF V) (Y [dF f]) [0,1,2,3,4,5,6,7,8,9,10] (J::kA []) [[1],[3],[4]] [] λx=>eR [] 12 J O<|x.y.setG<|(g.rd c).put ((g.rd c).ask a) (x.y.n 1)<|x.y.n 2) aF rfl λQ Q=>sb h ⟨trivial,(by
   rw[qk (λQ Q=>⟨rfl,rfl,rfl,rfl,rfl,id⟩) rfl e9 (ab5 ((g.rd c).ae.flatMap dE) (auy w V (g.rd c) a (dF f::l) A.hl A.h3 A.hn A.h0 A.h1 A.hr) rfl rfl (AA _) (.inl rfl) (pm3 _ _ _ _) λy Q b=>?_)];let e:(vf V (g.rd c) a (λQ=>.ok .none) (λQ=>[]) []).post y=(xM V (g.rd c) a).post y:=by show[_,_,_,SO.seq _<|(g.rd c).bs++((g.rd c).ae++[_]).map cV]++_=_;rw[AE,<-AD];rfl
   rw[(by rw[e,];rw[b],rfl,rfl,?_,trivial)];delta X.led;rw[e,];let z:=pm4 ((xM V (g.rd c) a).led y) (lc (g.rd c).lv) (kW V.fl) ((g.rd c).ae.flatMap dE) (dE ((g.rd c).ask a,y.n 1,y.n 2));rw[<-D1 dE ((g.rd c).ask a,y.n 1,y.n 2),<-CC,D1]at z
   rw[z]),λx d=>⟨trivial,nQ⟩⟩)]
def aeT(h:RT w g.p.an g.p.tx c<|.str a)(H:nP (g.p.rd c) a O)(hd:cU (nh V.fl) a=As)(i:GR w V n ((g.p.rd c).put ((g.p.rd c).ask a) 0 0) d):(um V (n+1) g d [19,5,2,0] f (GF V) λy=>(λQ=>GF V++[(sS "spec",.none)]) y.n).aq w [dF f]<|Y l:=by let A:=nP.at (g:=g.rd c) H;rw[hO (xt:=As) (λQ Q=>⟨rfl,rfl,rfl,rfl,rfl,id⟩) rfl e9 rfl rfl<|X.av (F:=1500) (nt:=λQ Q=>wR V g c a<|.u [6] (vf V (g.rd c) a (λQ=>.ok .none) (λQ=>[]) []) [1,2,3,4,5,6,7,8,9,10] (kA []) [[1],[3],[4]] λx=>nX V n f (dg 20 0x3200002000200021111) ((g.rd c).put ((g.rd c).ask a) (x.y.n 1)<|x.y.n 2) d (GF V++[(sS "spec",.none)]) 12 O O [[0],[1],[2],[3],[4]] id) aF rfl λQ Q=>sb h<|pU rfl (mh<|aeO w V _ a hd A.hl A.h3 A.hn A.h0 A.h1 A.hr) λx Q=>r9 nQ i λQ h=>h]
def zm(fl:Fl)(m:Nat->Nat):List<|SV×SV:=[(sS "spec",rf<|m 0),(sS "newfile",.str fl.nm),(sS "newstream",.str<|T fl.tx)]
def akw(h:RT w g.p.an g.p.tx ⟨.str st,c.ln,c.r⟩<|.str fl.nm)(H:nP (g.p.rd ⟨.str st,c.ln,c.r⟩) fl.nm O)(C:fl∈V.fl)(hd:cU (nh V.fl) fl.nm=Y (rf fl.a))(i:g.lv.length<=2)(I:GR w V n (((g.p.rd ⟨.str st,c.ln,c.r⟩).put ((g.p.rd ⟨.str st,c.ln,c.r⟩).ask fl.nm) 0 0).opn fl) d):(um V (n+1) g d [19,5,2,0] f (GF V) λy=>(λm=>GF V++zm fl m) y.n).aq w [dF f]<|Y l:=by
 let A:=nP.at (g:=g.rd ⟨.str st,c.ln,c.r⟩) H
 rw[hO (xt:=As) (λQ Q=>⟨rfl,rfl,rfl,rfl,rfl,id⟩) rfl e9 rfl rfl (X.av (F:=1500) (nt:=λQ Q=>wR V g ⟨.str st,c.ln,c.r⟩ fl.nm (.u [6] (vf V (g.rd ⟨.str st,c.ln,c.r⟩) fl.nm (λy=>.ok<|rf<|y.n 0) (λy=>[-y.n 0]) [.seq Tt [.str fl.nm,.str<|T fl.tx]]) [1,2,3,4,5,6,7,8,9,10] (kA []) [[1],[3],[4]] λx=>
  .v (dg 65 0x113200002000200021111110feedee0eeeedee0eeeedee0eee0dddd1d0dd0dd111) (qm V.L g.an.nm g.an.j st c.ln g.s (g.lv.map (·.t)) fl.nm fl.tx) [1,2,3] [] λz=>nX V n f (dg 17 0x3200002000200021) (((g.rd ⟨.str st,c.ln,c.r⟩).put ((g.rd ⟨.str st,c.ln,c.r⟩).ask fl.nm) (x.y.n 1)<|x.y.n 2).push fl (z.y.n 0) (z.y.n 1)<|z.y.n 2) d (GF V++zm fl x.y.n) 16 O J [[5],[6,1],[0,2],[3],[4]] λy=>y.setN [x.y.n 0])) aF rfl λQ Q=>sb h<|pU rfl (mh<|aeN w V _ _ fl C hd A.hl A.h3 A.hn A.h0 A.h1 A.hr) λx Q=>pU rfl (abc w _ _ _ _ _ _ _ _ _ (by rw[Ap,];rw[i])) λz Q=>r9 (nx:=λy=>y.setN [x.y.n 0]) (Z8 (·.opn fl)<|nQ (g:=g.rd ⟨.str st,c.ln,c.r⟩)) I λQ h=>h)]
def akx(hl:g.p.lv=r::rs)(e:rs.length<=2)(H:g.st=.none)(I:GR w V n ⟨r,.str (T [32]),rs,0,g.p.ae,g.p.bs⟩ i):(um V (n+1) g i [19,5,3] f (uo V .none) λy=>(λQ=>uo V .none) y.n).aq w [dF f]<|Y l:=by
 let(k,st,lv,s,d,B):=g;cases H;let(r,rs,rfl,rfl,rfl):=Hj.mp hl;rw[Ap]at e
 rw[hO (xt:=As) (λQ Q=>⟨rfl,rfl,rfl,rfl,rfl,id⟩) rfl e9 rfl rfl (X.av (F:=1500) (nt:=λQ Q=>.v (dg 35 0x44044302200020000210302200020000211) (tJ V.L s<|r.t::rs.map (·.t)) [3] [] λQ=>
  .v (dg 17 0x3200002000200021) (vb V.L k s r rs) [1,2,3] [[0],[1],[2]] λQ=>nX V n f (dg 17 0x3200002000200021) ⟨r,.str<|T [32],rs,s+1,d,B⟩ i (uo V .none) 12 J O [[0],[1],[2],[3],[4]] id) (match rs,e with
  |[],_|[_],_|[_,_],_=>aF
  |_::_::_::l,h=>ZZ h<|Ce<|BI 3 l.length) rfl λQ Q=>pU rfl (ph w _ _ _ (by rw[AI,Ap];rw[BY e])) λQ Q=>pU rfl (acb w _ _ _ _ _ e) λQ Q=>r9 rfl I λQ h=>h)]
def xN(V:Ev)(n:Nat)(g G:Gs)(f:Nat)(F:(Nat->Nat)->!(SV×SV)):X:=gtP V n g G (iM [19,5]<|dF f) [] 501 f [(sS "self",rf V.L.x)] λy=>F y.n
def aeU(p:dW v2 w (xN V n g G f F) 1500 λQ Q=>.v (dg 38 0x3200002000200021c0cc0cc30220002000021) (g.rt V.L b r) [1,2] [[0]] λQ=>.use m (um V n (g.rd b) G d f (uo V r) λy=>F y.n) (Y [dF f]) wx (O::kB []) [[0],[1],[2],[3],[4]] [] λx=>eR [13,13,14,14] 12 O O (x.fl f))
  (h:RT w g.p.an g.p.tx b r)(H:(um V n (g.rd b) G d f (uo V r) λy=>F y.n).aq w [dF f]<|Y l):(xN V n g G f F).aq w []<|Y l:=
 aeu (xt:=As) (λQ Q=>⟨rfl,rfl,rfl,rfl,rfl,id⟩) rfl e9 rfl rfl (X.av p rfl λQ Q=>pU rfl (RT.at h) λQ Q=>⟨trivial,H,λQ e=>⟨trivial,e⟩⟩)
def aeV(h:∀f,(xN V n g G f F).aq w [] (Y l)):((ul V n g G).rz<|.type "LookupError").aq w []<|Y l:=
 X.aB (F:=1500) (nt:=λQ N=>.use [0,0,12,12] (xN V n g G N F) (Y []) (11::[0,1,2,3,4,5,6,7,8,9,10]) (O::kB []) [[0],[1],[2],[3],[4]] [] λx=>.f [] [0,1,2,3,4,5,6,7,8,9,10,12,13] (kB [J,J]) (fB O) x.y) aF rfl λQ Q=>⟨trivial,h _,λQ H=>⟨trivial,H⟩⟩
def vg(h:RT w g.p.an g.p.tx b<|.str<|S "use")(H:∀f,(um V n (g.rd b) G [19,5,2,0] f (GF V) λy=>F y.n).aq w [dF f] (Y l)):((ul V n g G).rz<|.type "LookupError").aq w []<|Y l:=
 aeV λQ=>aeU (m:=dg 16 0x3022000200002111) aF h<|H _
def auz(h:RT w g.p.an g.p.tx b .none)(H:∀f,(um V n (g.rd b) G [19,5,3] f (uo V .none) λy=>F y.n).aq w [dF f] (Y l)):((ul V n g G).rz<|.type "LookupError").aq w []<|Y l:=
 aeV λQ=>aeU (m:=dg 34 0x30220002000021103022000200002111) aF h<|H _
def agN(h:RT w p.an p.tx b<|.str<|S "use")(H:RT w (p.rd b).an (p.rd b).tx c<|.str a)(d:nP ((p.rd b).rd c) a J):GR w V n p<|((p.rd b).rd c).put (((p.rd b).rd c).ask a) 0 0:=λl g e=>by subst e;rw[vg (F:=λQ=>GF V) h λf=>agM (g:=g.rd b) H d]
def aeW(h:RT w p.an p.tx b<|.str<|S "use")(H:RT w (p.rd b).an (p.rd b).tx c<|.str a)(d:nP ((p.rd b).rd c) a O)(hd:cU (nh V.fl) a=As)(i:GR w V n (((p.rd b).rd c).put (((p.rd b).rd c).ask a) 0 0) j):GR w V (n+1) p j:=λl g e=>by subst e;rw[vg (F:=λQ=>GF V++[(sS "spec",.none)]) h λf=>aeT (g:=g.rd b) H d hd i]
def aky(h:RT w p.an p.tx b<|.str<|S "use")(H:RT w (p.rd b).an (p.rd b).tx ⟨.str st,c.ln,c.r⟩<|.str fl.nm)(d:nP ((p.rd b).rd ⟨.str st,c.ln,c.r⟩) fl.nm O)(C:fl∈V.fl)(hd:cU (nh V.fl) fl.nm=Y (rf fl.a))(i:p.lv.length<=2)(I:GR w V n ((((p.rd b).rd ⟨.str st,c.ln,c.r⟩).put (((p.rd b).rd ⟨.str st,c.ln,c.r⟩).ask fl.nm) 0 0).opn fl) j):GR w V (n+1) p j:=λl g e=>by subst e;rw[vg (F:=λm=>GF V++zm fl m) h λf=>akw (g:=g.rd b) H d C hd (by rwa [show g.p.lv=g.lv.map Lv.p from rfl,Ap]at i) I]
def akz(h:RT w p.an p.tx ⟨.none,b.ln,b.r⟩ .none)(hl:p.lv=r::rs)(H:rs.length<=2)(i:GR w V n ⟨r,.str (T [32]),rs,0,p.ae,p.bs⟩ d):GR w V (n+1) p d:=λl g e=>by subst e;rw[auz (F:=λQ=>uo V .none) h λf=>akx (g:=g.rd ⟨.none,b.ln,b.r⟩) hl H rfl i]
end
def ary:!Nat->Bool->SV
 |[],O=>.none
 |t,_=>.str<|T t
def LG(w:AW)(k:LS)(a:Tx)(ab:SV):Prop:=lG λt q e n=>(∀v:LE,LX w v k ⟨a.st,T t,a.ln,a.r,q,e,Y n⟩)/\ary t q=ab
def LG.map(h:LG w k2 a ab)(f:∀v b,LX w v k2 b->LX w v k b):LG w k a ab:=by let(t,q,e,n,x,y):=h;rw[(t,q,e,n,λv=>f v _<|x v,y)]
def tL(h:c≠d):bq (T [c]) (T [d])=O:=by show([c]==[d])=O;rw[List.cons_beq_cons,ZX h];rfl
def zn:S "\n"=T [10]:=rfl
def bsT:S "\\"=T [92]:=rfl
def uq(h:t.length<2^20):(T t++T [c]).length<=AO:=by rw[bX,];show(t++[c]).length<=2^24;rw[Ay,];rw[Ax (Nat.succ_le_of_lt h) (by decide)]
noncomputable def tc(c:Nat)(ln:Int):Int:=match c==10 with
 |true=>ln+1
 |false=>ln
def se(h:c≠10):tc c ln=ln:=by delta tc;rw[ZX h,]
abbrev QS(g:Bool)(t:!Nat)(ln:Int)(r:!Nat)(q:Bool)(e n:U):LS:=⟨.str<|T [qc g],T t,ln,r,q,e,Y n⟩
abbrev WS(t:!Nat)(ln:Int)(r:!Nat)(q:Bool)(e n:U):LS:=⟨.str<|T [97],T t,ln,r,q,e,Y n⟩
section
def arz(H:c≠qc g)(b:c=92->g=O)(z:t.length<2^20)(h:∀e n,LG w (QS g (t++[c]) (tc c ln) r J e n) a ab):LG w (QS g t ln (c::r) q e n) a ab:=by
 by_cases k:c=10
 .clear b H;subst k;rw[(h _ _).map λQ Q x=>aki (uq z) (bX t [10]▸x)]
 .rw[se k]at h;by_cases l:c=92
  .clear H k;subst l;cases b rfl;rw[(h _ _).map λQ Q x=>akh (uq z) (bX t [92]▸x)]
  .rw[(h _ _).map λQ Q x=>akj (uq z) (bsT▸(by
    rw[aaz,]
    rw[ZU λm=>l<|Au.mp m])) (tL H) (zn▸tL k) (bX t [c]▸x)]
def auA(H:c=34\/c=92)(z:t.length<2^20)(h:∀e n,LG w (QS J (t++[c]) ln r J e n) a ab):LG w (QS J t ln (92::c::r) q e n) a ab:=by
 rcases H with rfl|rfl
 .rw[(h _ _).map λQ Q x=>aeG<|akl (uq z) (bX t [34]▸x)]
 .rw[(h _ _).map λQ Q x=>aeG<|akm (uq z) (bX t [92]▸x)]
def arA(z:t.length<2^20)(h:∀e n,LG w (WS (t++[c]) (tc c ln) r q e n) a ab):LG w ⟨.str<|T [92],T t,ln,c::r,q,T [97],Y n⟩ a ab:=by
 by_cases k:c=10
 .subst k;rw[(h _ _).map λQ Q x=>akk (uq z) (bX t [10]▸x)]
 .rw[se k]at h;rw[(h _ _).map λQ Q x=>aeH (uq z) (zn▸tL k) (bX t [c]▸x)]
noncomputable def kX(way c:Nat):!Nat:=match way with
 |0=>if c=39 then[39,92,39,39]else[c]
 |1=>if c=92\/c=34 then[92,c]else[c]
 |_=>[92,c]
noncomputable def xO:!Nat->Int->Int
 |[],ln=>ln
 |c::cs,ln=>xO cs<|tc c ln
def xP(way:Nat)(t:!Nat)(ln:Int)(r:!Nat)(q:Bool)(e n:U):LS:=match way with
 |0=>QS O t ln r q e n
 |1=>QS J t ln r q e n
 |_=>WS t ln r q e n
def auB(way:Nat)(z:t.length<2^20)(h:∀q,(way<=1\/q=O)->∀e n,LG w (xP way (t++[c]) (tc c ln) r q e n) a ab)(H:way<=1\/q=O):LG w (xP way t ln (kX way c++r) q e n) a ab:=by
 cases way using BE with
 |zero=>
  let h:=h J<|.inl<|Bd _;show LG w (QS O t ln ((if c=39 then[39,92,39,39]else[c])++r) q e n) a ab;by_cases k:c=39
  .subst k;rw[(h _ _).map λQ Q x=>ma (g:=O)<|aeI<|aeH (uq z) (zn▸tL (by decide))<|akn (g:=O) (bX t [39]▸x)]
  .rw[Z7 k,];rw[arz (g:=O) k (λQ=>rfl) z h]
 |succ way=>cases way using BE with
  |zero=>
   let h:=h J<|.inl<|AA _;show LG w (QS J t ln ((if c=92\/c=34 then[92,c]else[c])++r) q e n) a ab;by_cases k:c=92\/c=34
   .rw[Z0 k,];let e:tc c ln=ln:=se (by rcases k with rfl|rfl<;>decide);rw[auA k.symm z λE n=>e▸h E n]
   .rw[Z7 k,];rw[arz (g:=J) (λm=>k<|.inr m) (λm=>(k<|.inl m).elim) z h]
  |succ m=>rw[show q=O from H.resolve_left<|Ce<|BI 2 m,];rw[(arA z<|h O<|.inr rfl).map λQ Q x=>aeI x]
def sf way:∀(cs t:!Nat)(ln:Int)(q:Bool)(e n:U),t.length+cs.length<2^20->(way<=1\/q=O)->(∀q,(way<=1\/q=O)->∀e n,LG w (xP way (t++cs) (xO cs ln) r q e n) a ab)->LG w (xP way t ln (cs.flatMap (kX way)++r) q e n) a ab:=by
 cases _ with
 |nil=>intro t ln q e n _ H h;let h:=h q H e n;rwa [Az]at h
 |cons c cs i=>
  intro t ln q e n z H h;rw[Cn,AD];rw[auB way (AV (BG _ _) z) (λq H e n=>i _ _ q e n ?_ H λq H e n=>?_) H]
  .rw[Ay,Ew,DB [c].length];rw[z]
  .rw[AD,];rw[h q H e n]
end
def ntR(n:!Nat)(v:LE)(a:Tx)(k:LS)(qs:!Prop):Bool->Nat->Nt:=λQ N=>.u [0,0,5,5,5,5,5,5] (dD (v.at N) a.s k) [0,1,2,3,4] [J,J,J,J,O] [] λQ=>.fin n [0,1,2,3] [J,O,J,J] [] y0 qs
def mi(p:aR w (xK v a b ab) 900<|ntR n v a k qs)(q:bW qs)(h:∀f,(dD (v.at f) a.s k).Holds w):(xK v a b ab).Holds w:=X.ap p rfl λQ N=>pU rfl (h N) λQ Q=>pG rfl q Z9
def nS{w:AW}{l:Lv}{st:SV}{ln:Int}{r:!Nat}(o:Option U){bl:Int}{b:!Nat}{ab:SV}(h:LG w (⟨st,ln,r⟩:Tx).s ⟨rO o,bl,b⟩ ab)(H:l.cs.length≠1)(i:l.cs.length<2^20)(m:r<:+l.cs):RT w l ⟨st,ln,r⟩ ⟨rO o,bl,b⟩ ab:=λL j d=>by
 let(t,q,e,n,h,rfl):=h;let z:=λf=>h ⟨L,l.nm,j,d,l.cs,f⟩ H i m
 clear h;cases t using A8 with
 |nil=>
  cases(q) with
  |true=>rw[mi (n:=dg 66 0x502011000100001552011000100001522201000101001000155520110001000015) (k:=⟨rO o,T [],bl,b,J,e,Y n⟩) (qs:=[]) (by induction o<;>rw[aF]) Z9 z]
  |false=>rw[mi (n:=dg 70 0x5020110001000015550552011000100001522201000101001000155520110001000015) (k:=⟨rO o,T [],bl,b,O,e,Y n⟩) (qs:=[]) (by induction o<;>rw[aF]) Z9 z]
 |cons c t=>
  cases(q) with
  |true=>rw[mi (n:=dg 66 0x502011000100001552011000100001522201000101001000155520110001000015) (k:=⟨rO o,T<|c::t,bl,b,J,e,Y n⟩) (qs:=[]) (by induction o<;>rw[aF]) Z9 z]
  |false=>rw[mi (n:=dg 69 0x502011000100001505552011000100001522201000101001000155520110001000015) (k:=⟨rO o,T<|c::t,bl,b,O,e,Y n⟩) (qs:=[bq (T<|c::t) (S "")=O]) (by induction o<;>rw[aF]) ⟨rfl,trivial⟩ z]
noncomputable def X.wth(K:X)(a:AL)(so:SO):X:={K with pre:=K.pre++[(a,so)],post:=λy=>K.post y++[so]}
def akA{K:X}(a:AL)(so:SO)(H:K.aq w fr l):(K.wth a so).aq w fr l:=by
 rw[X.perm [(a,so)] H rfl rfl (AA _) (.inr rfl) (bP λq=>?_) λy p b c=>⟨y,rfl,?_,c,bP λq=>?_,p⟩]
 .show((K.pre++K.aj.flatten)++[(a,so)]).count q=((K.pre++[(a,so)])++K.aj.flatten).count q;simp only[AQ];rw[ED ..]
 .show(K.post y++[so]).length=(K.pre++[(a,so)]).length;rw[Ay,Ay,b];rfl
 .show(((aH<|K.pre++[(a,so)]).zip (K.post y++[so])++_)++_).count q=_;delta aH;rw[AE,GQ (by rw[Ap,b])];show(((aH K.pre).zip (K.post y)++[(a,so)]++(K.ao y).zip (K.al y))++(K.af y).flatten).count q=((((aH K.pre).zip (K.post y)++(K.ao y).zip (K.al y))++(K.af y).flatten)++[(a,so)]).count q;simp only[AQ];rw[amk]
def nU(x:aQ)(a n:Nat)(l:List<|Option SV):List<|Option SV:=(hw (x.p a) n l).map<|CS aC
def fP(V:Ev)(F:Nat):Env:=⟨bd [32],-F,3,[(S "rows",-V.cr),(S "lexer",-V.cl),(S "files",-V.cf)],S "_law_read.<locals>.",Y 884,.ref 883,Y<| -F,0⟩
def kf(V:Ev)(F it:Nat):BC:=hU [32,5] (.ref<| -it)<|fP V F
def Gs.soB(g:Gs)(V:Ev):!SO:=[xI V.L,xD V.L g.an.nm g.an.j g.st (S "") g.an.ln,g.dq,.seq Lt g.bs]
def Gs.bl4(g:Gs)(V:Ev):!Rd:=[g.an.sio,lc g.lv,rh g.lv,kW V.fl]
def gtZ(V:Ev)(g G:Gs)(ab:SV):X:={v4 V 0 g G ab with ai:=801,rcs:=As,pre:=V.ad4.zip (g.soB V)++V.enp,aj:=g.bl4 V}
def gC(V:Ev)(nm:U)(e:Bool)(o:Option<|Int×Option (Option U)):List<|SV×SV:=[(sS "name",.str nm),(sS "_law_hook",rf V.L.hook),(sS "ends",.int (match e with|false=>0|true=>1))]++match o with
 |none=>[]
 |some (k,As)=>[(sS "step",.int k)]
 |some (k,Y v)=>[(sS "step",.int k),(sS "token",rO v)]
def zo(it F:Nat)(k m:Int)(fr:SO):X:=(y7 (-it) k m 1).kt.wth (-F) fr
def qn(V:Ev)(F it:Nat)(g:Gs)(k m:Int)(fr:List<|SV×SV)(sl:List<|Option SV)(R:!bu):X:={ec:=.am<|kf V F it,ai:=810,fr:=[fP V F],pre:=V.ad4.zip (g.soB V)++V.enp++[(-F,aI fr sl),(-it,j3 k m 1)],aj:=g.bl4 V,ab:=λQ=>.au .next,post:=λy=>[xI V.L,.ns Dt<|y.u.fs 0,.fld Dq<|y.l 1,.seq Lt<|y.l 0]++V.enp.map (·.2)++[aI (y.u.fs 1) y.u.x.sl,.fld (.type "range_iterator")<|y.l 2],af:=λy=>[kW V.fl,y.r 0],pure:=λy=>A3 (y.l 0=g.bs++y.u.g.ae.map cV) (y.r 0=y.u.g.ae.flatMap dE)<|y.u.g.ae.map (·.1)=R}
def Gs.q(g:Gs):Gs:=⟨g.an.p,g.st,g.lv.map Lv.p,0,[],[]⟩
noncomputable def Gs.at(q:Gs)(bs:!SV)(R:!bu):Gs:=⟨q.an,q.st,q.lv,0,R.map λr=>(r,0,0),bs⟩
def xQ(w:AW)(V:Ev)(q q':Gs)(R:!bu)(ab:SV):Prop:=∃n,n<=60/\∀B,B.length+R.length<2^20->GX w V n (q.at B []) (q'.at B R) ab
def GRQ(w:AW)(V:Ev)(q q':Gs)(R:!bu):Prop:=∃n,n<=60/\∀B,B.length+R.length<2^20->GR w V n (q.at B []) (q'.at B R)
noncomputable def Gs.z(q:Gs):Gs:=⟨q.an,q.st,q.lv,0,[],[]⟩
def td(w:AW)(V:Ev)(m:Nat)(nm:U)(e:Bool)(q:Gs)(R:!bu):Prop:=∀l F it g k M o,g.q=q.z->g.bs.length+R.length<2^20->(qn V F it g k m (gC V nm e o) M R).aq w [fP V F] (Y l)
section
variable{g q q':Gs}{k m:Int}{bs:!SV}
def aeX{fr:SO}(h:0<m):(zo it F k m fr).Holds w:=akA _ _<|dX (aaV w _ _ _ _ h) (λQ h=>h) λQ=>Z9
def xR(V:Ev)(F it:Nat)(g d:Gs)(k m:Int)(fr:List<|SV×SV)(sl:List<|Option SV)(ab:SV)(nx:aQ->aQ->aQ->Nt):Bool->Nat->Nt:=λQ Q=>
 .v [0,13,13] (zo it F k m<|aI fr sl) [12,11] [] λb=>
 .use (dg 19 0x2100001000100018cc) (gtZ V g d ab) As iG kG [[0],[1],[2],[3]] [] λn=>
 .u (dg 71 0xffeeee2011000100001eeee2011000100001eeeeeeee00002100001000100018c44449cc) ((rP (n.t 1+1+902) n.y.u.g.an.nm n.y.u.g.an.ln).kt) [14] [O] [] λx=>
 .v [4] (zk V (n.y.u.g.fn ab)<|x.t 1) [3] [] λQ=>nx b n x
def Gs.nxt(h:Gs)(q:Nat):Gs:=⟨h.an,h.st,h.lv,h.s,[],h.bs++h.ae.map cV++[rf q]⟩
def lrY(h:Gs)(q:Nat)(r:bu)(c:SO)(y:aW):aW:={y with r:=λQ=>h.ae.flatMap dE++((-q,c)::y.r 0),u:={y.u with g:={y.u.g with ae:=h.ae++(r,q,0)::y.u.g.ae}}}
def zp(V:Ev)(F it:Nat)(k m:Int)(fr M:List<|SV×SV)(sl:List<|Option SV)(ab:SV)(R':!bu)(n:!Nat)(c x b:aQ):Nt:=
 .use n (qn V F it ((x.y.u.g.fn ab).nxt<|b.t 1) (k+1) (m-1) M (nU c (-F) fr.length sl) R') (Y [fP V F]) [0,1,2,3,4,5,6,7,8,9,10,11,12] (kA [J,O,J]) [[0],[1],[2],[3]] [] λj=>
 .f [] [0,1,2,3,4,5,6,7,8,9,10,11,12] (kA [J,J,J]) [[.b 0],[.b 4,.l 15,.b 1]] (lrY (x.y.u.g.fn ab) (b.t 1) (.tok ab (x.y.u.g.fn ab).lead) (.seq Tt [ab,.str (x.y.u.g.fn ab).lead]) j.y)
def akB:aR w (qn V F it g k m (gC V nm e o) sl R) 1500<|xR V F it g d k m (gC V nm e o) sl (.str t)<|zp V F it k m (gC V nm e o) (gC V nm e<|Y (k,Y (Y t))) sl (.str t) R' [12]:=by
 cases o with
 |none=>rw[aF]
 |some o=>cases(o) with|mk a b=>induction b<;>rw[aF]
def arB:aR w (qn V F it g k m (gC V nm O o) sl R) 1500<|xR V F it g d k m (gC V nm O o) sl .none<|zp V F it k m (gC V nm O o) (gC V nm J<|Y (k,Y As)) sl .none R' [12,12,0,12,12,12,0]:=by
 cases o with
 |none=>rw[aF]
 |some o=>cases(o) with|mk a b=>induction b<;>rw[aF]
def lrE(V:Ev)(nm:U)(k m:Int)(h:Gs)(q:Nat)(sl:List<|Option SV):aW:={y0 with
 l:=λi=>(match i with
  |0=>h.bs++h.ae.map cV++[rf q]
  |1=>.none::.int h.s::(h.lv.map (·.t)).map rf
  |_=>[.int<|k+1,.int<|m-1,.int 1])
 r:=λQ=>h.ae.flatMap dE++[(-q,.seq Tt [.none,.str h.lead])]
 u:={y0.u with
  g:={h with ae:=h.ae++[(.tok .none h.lead,q,0)]}
  x:={sl:=sl}
  fs:=λi=>(match i with
   |0=>arv V.L h.an.nm h.an.j h.st (S "") h.an.ln
   |_=>[(sS "name",.str nm),(sS "_law_hook",rf V.L.hook),(sS "ends",.int 2),(sS "step",.int k),(sS "token",.none)])}}
def akC:aR w (qn V F it g k m (gC V nm J o) sl R) 1500<|xR V F it g d k m (gC V nm J o) sl .none λx n c=>.f [12,12,0,12,12,12,0] [0,1,2,3,4,5,6,7,8,9,10,11,12] (kA [J,O,J]) [[.b 3],[.b 4,.l 15]] (lrE V nm k m (n.y.u.g.fn .none) (c.t 1)<|nU x (-F) (gC V nm J o).length sl):=by
 cases o with
 |none=>rw[aF]
 |some o=>cases(o) with|mk a b=>induction b<;>rw[aF]
structure Gs.Is(h q:Gs)(bs:!SV)(R:!bu):Prop where
 eq:h.q=q.z
 eb:h.bs=bs
 er:h.ae.map (·.1)=R
 el:h.lead=aO q.an.nm q.an.ln
def Gs.Is.of{h:Gs}(e:h.p=q.at bs R):h.Is q bs R:=by
 let(c,st,lv,s,ae,b):=h;let(E,d,i,_,j,l):=Gs.mk.inj e;rw[(?_,l,?_,?_)]
 .show Gs.mk _ _ _ _ _ _=_;rw[E,d,i];rfl
 .let z:=Z8 (D6 (·.1)) j;rw[BW,BW]at z;rw[z.trans<|Hf _]
 .show aO c.p.nm c.p.ln=_;rw[E,]
def Gs.Is.len{h:Gs}(i:h.Is q bs R):h.ae.length=R.length:=by rw[<-i.er,Ap]
theorem Gs.Is.nxt{h:Gs}(i:h.Is q bs R) n:(h.nxt n).q=q.z/\(h.nxt n).bs.length=bs.length+R.length+1:=⟨i.eq,by
 show(h.bs++h.ae.map cV++[rf n]).length=_;rw[Ay,Ay,Ap,i.eb,i.len]
 rfl⟩
def acc(i:h.Is q bs R)(B:A3 (y.l 0=(h.nxt n).bs++y.u.g.ae.map cV) (y.r 0=y.u.g.ae.flatMap dE)<|y.u.g.ae.map (·.1)=R'):(qn V F it ⟨g.an,g.st,g.lv,g.s,g.ae,bs⟩ k m [] []<|R++.tok ab (aO q.an.nm q.an.ln)::R').pure<|lrY h n (.tok ab h.lead) (.seq Tt [ab,.str h.lead]) y:=by
 let(a,b,c):=B;rw[(?_,?_,?_)]
 .show y.l 0=bs++(h.ae++(.tok ab h.lead,n,0)::y.u.g.ae).map cV;rw[a,AE];show(h.bs++h.ae.map cV++[rf n])++_=bs++(h.ae.map cV++(rf n::_));rw[i.eb,AD,AD];rfl
 .show h.ae.flatMap dE++(_::y.r 0)=(h.ae++(.tok ab h.lead,n,0)::y.u.g.ae).flatMap dE;rw[CC,b];rfl
 .show(h.ae++(.tok ab h.lead,n,0)::y.u.g.ae).map (·.1)=_;rw[AE,i.er,i.el];show _++_::y.u.g.ae.map (·.1)=_;rw[c,]
def qS(q:Gs):Prop:=A3 (q.an.nm.length<=1000000) (0<=q.an.ln)<|q.an.ln<10^10
def akD{h:Gs}(i:h.Is q bs R)(ok:qS q)(a:Nat):((rP a h.an.nm h.an.ln).kt).Holds w:=by
 let e:=Z8 Gs.an i.eq;let E:h.an.ln=q.an.ln:=by let z:=Z8 Lv.ln e;rw[z]
 rw[dX (oG w _ _ _ ((by let z:=Z8 Lv.nm e;rw[z])▸ok.1) (E▸ok.2) (E▸ok.3)) (λQ h=>h) λQ=>Z9]
def pi{nx:aQ->aQ->aQ->Nt}(p:aR w (qn V F it g k m fr sl r) 1500<|xR V F it g (q'.at g.bs R) k m fr sl ab nx)(A:0<m)(C:g.q=q.z)(h:xQ w V q q' R ab)(ok:qS q')(z:g.bs.length+R.length<2^20)
  (H:∀E d G B,(d.y.u.g.fn ab).Is q' g.bs R->(nx E d G).Pure w (Y l) (qn V F it g k m fr sl r) B):(qn V F it g k m fr sl r).aq w [fP V F]<|Y l:=
 X.aB p rfl λQ Q=>pU rfl (aeX A) λQ Q=>pU rfl (by
   let(n,H,h):=h;rw[X.perm [] (h g.bs z ⟨g.an,g.st,g.lv,g.s,[],g.bs⟩<|Z8 (λq:Gs=>(⟨q.an,q.st,q.lv,0,[],g.bs⟩:Gs)) C) rfl rfl (by rw[ahH H]) (.inl rfl) ?_ λy a b c=>⟨y,rfl,b,c,?_,a⟩]
   .show((([_,_,_,(_,SO.seq Lt<|g.bs++[])]++V.enp)++(g.an.sio++(lc g.lv++(rh g.lv++(kW V.fl++([]++[]))))))++[]).Perm (([_,_,_,(_,SO.seq Lt g.bs)]++V.enp)++(g.an.sio++(lc g.lv++(rh g.lv++(kW V.fl++[])))));rw[Az,Az,Az,Az];rw[.refl _]
   .rw[Az,]
    rw[.refl _]) λx I=>by
  let i:(x.y.u.g.fn ab).Is q' g.bs R:=.of I;let j:x.y.u.g.fn ab=x.y.u.g\/x.y.u.g.fn ab=⟨x.y.u.g.an,x.y.u.g.st,[],x.y.u.g.s,x.y.u.g.ae,x.y.u.g.bs⟩:=by induction ab<;>first|exact .inl rfl|exact .inr rfl
  let L:(x.y.u.g.fn ab).an=x.y.u.g.an:=by rcases j with j|j<;>rw[j,]
  let e:=akD (w:=w) i ok<|x.t 1+1+902;rw[L]at e
  rw[pU rfl e λQ Q=>pU rfl (aP w _ _ _ (by
   rw[Ay,Ap,i.eb,i.len]
   rw[z])) λQ Q=>H _ _ _ _ i]
def aeY{c b d:aQ}{K:X}(i:(b.y.u.g.fn ab).Is q' g.bs R)(I:td w V n nm E q' R')(C:M=gC V nm E j)(z:g.bs.length+(R.length+1+R'.length)<2^20)(h:m-1=n)(H:K.pure=(qn V F it g k m [] []<|R++.tok ab (aO q'.an.nm q'.an.ln)::R').pure):(zp V F it k m fr M sl ab R' r c b d).Pure w (Y l) K B:=by
 subst C;rw[(trivial,?_,λx e=>⟨trivial,?_⟩)]
 .rw[h,];rw[I l F it _ _ _ _ (i.nxt _).1 (by rw[(i.nxt _).2,];rw[ahI z])]
 .rw[H,];rw[acc i e]
def mj:(R++r::R').length=R.length+1+R'.length:=by rw[Ay,AI];rw[ahJ]
def akE(h:xQ w V q q' R<|.str t)(ok:qS q')(I:td w V n nm e q' R'):td w V (n+1) nm e q<|R++.tok (.str t) (aO q'.an.nm q'.an.ln)::R':=λl F it g k M o H z=>by rw[mj]at z;rw[pi akB nB H h ok (p9 z) λQ Q Q Q i=>aeY i I rfl z nC rfl]
def arC(h:xQ w V q q' R .none)(ok:qS q')(I:td w V n nm J q' R'):td w V (n+1) nm O q<|R++.tok .none (aO q'.an.nm q'.an.ln)::R':=λl F it g k M o H z=>by rw[mj]at z;rw[pi arB nB H h ok (p9 z) λQ Q Q Q i=>aeY i I rfl z nC rfl]
def akF(h:xQ w V q q' R .none)(ok:qS q'):td w V (n+1) nm J q<|R++[.tok .none<|aO q'.an.nm q'.an.ln]:=λl F it g k M o H z=>by
 rw[mj]at z;rw[pi akC nB H h ok (AV (BG _ 1) z) λc x b Q i=>⟨trivial,?_⟩]
 let z:=acc (F:=F) (it:=it) (k:=k) (m:=k) (V:=V) (g:=g) (ab:=.none) i (n:=b.t 1) (R':=[]) (y:={y0 with l:=λQ=>(x.y.u.g.fn .none).bs++(x.y.u.g.fn .none).ae.map cV++[rf<|b.t 1]}) ⟨(Az _).symm,rfl,rfl⟩;rw[z]
end
noncomputable def sg(k:Int):Option (Int×Option (Option U))->Option (Int×Option (Option U))
 |none=>Y (k,As)
 |some (_,t)=>Y (k,t)
def lhd(V:Ev)(F it:Nat)(k m:Int)(fr M:List<|SV×SV)(sl:List<|Option SV):X:={ec:=.am<|kf V F it,ai:=810,fr:=[fP V F],pre:=[(-F,aI fr sl),(-it,j3 k m 1)],ab:=λQ=>.au .next,post:=λy=>[aI M y.u.x.sl,j3 (k+1) (m-1) 1]}
def zq(V:Ev)(g G:Gs):X:={ul V 0 g G with ai:=801,rcs:=As,pre:=V.ad4.zip (g.soB V)++V.enp,aj:=g.bl4 V}
def gtV(V:Ev)(F:Nat)(g G:Gs)(fr:List<|SV×SV)(sl:List<|Option SV):X:=((zq V g G).wf F fr (λQ=>fr) sl).rz<|.type "LookupError"
def xS(V:Ev)(F it:Nat)(g G:Gs):X:={zq V g G with ec:=.am<|kf V F it,ai:=810,fr:=[fP V F]}
def avV(e:AF)(env:Env):BC:=r8 [32,5,0] e env
def auC(e:AF)(env:Env):BC:=match bf [32,5,0] PW.main.body with
 |some (.Try _ (.ExceptHandler _ n b pos::_) _ _ _)=>.handlers e [.ExceptHandler As n b pos] env
 |_=>.body [] env
def xT(V:Ev)(F:Nat)(x:Xd)(bs:!SV):X:={ec:=.am<|auC (.ref<| -x.e)<|fP V F,hd:=Y<|.ref<| -x.e,ai:=450,pre:=[(-x.e,.fld (.type "LookupError") x.vs),(-x.T,.fld Tb x.ts),(-V.cr,aJ V.rw),(-V.rw,.seq Lt bs)],ab:=λQ=>.au .cont,post:=λy=>[.fld (.type "LookupError")<|y.l 0,.fld Tb<|y.l 1,aJ V.rw,.seq Lt<|bs++[sS "open"]]}
section
def acd:(fP V F).scope.kind≠.module:=by show(bd [32]).kind≠.module;decide+kernel
def akG(i:0<m):(lhd V F it k m (gC V nm e o) (gC V nm e<|sg k o) sl).aw ail w<|Y l:=
 X.av (F:=1500) (nt:=λQ Q=>.v [2,2] (zo it F k m<|aI (gC V nm e o) sl) [1,0] [] λc=>.f [1,1] [0,1] [O,J] [] {y0 with u:={y0.u with x:={sl:=nU c (-F) (gC V nm e o).length sl}}}) (by
  cases o with
  |none=>rw[aF]
  |some o=>cases(o) with|mk a b=>rcases b with _|_|_<;>rw[aF]) rfl λQ Q=>pU rfl (aeX i) λQ Q=>pF rfl Z9
def akH(H:g.q=q.z)(h:GRQ w V q q' R)(z:g.bs.length+R.length<2^20)(C:fr=gC V nm e o):(((xS V F it g<|q'.at g.bs R).wf F fr (λQ=>fr) sl).rz<|.type "LookupError").aw ara w<|Y l:=by
 subst C
 rw[X.av (F:=1500) (nt:=λQ Q=>.use [9,2,0,0,0,2,0,0,0,2,0,0,0,0,2,3,0] (gtV V F g (q'.at g.bs R) (gC V nm e o) sl) (Y [fP V F]) wx (J::kA [J]) [[0],[1],[2],[3]] [] λx=>.f [] (wx++[12,13]) (J::kA [J,J,J]) [[.b 0],[.b 1],[.b 2],[.b 3],[.b 4]] x.y) (by
  cases o with
  |none=>rw[aF]
  |some o=>cases(o) with|mk a b=>rcases b with _|_|_<;>rw[aF]) rfl λQ Q=>⟨trivial,(by
    let(n,c,h):=h;rw[qk (λQ Q=>⟨rfl,rfl,rfl,rfl,rfl,id⟩) rfl acd (ab5 [] (h g.bs z _ ⟨g.an,g.st,g.lv,g.s,[],g.bs⟩<|Z8 (λq:Gs=>(⟨q.an,q.st,q.lv,0,[],g.bs⟩:Gs)) H) rfl rfl (by rw[ahH c]) (.inl rfl) ?_ λy a b=>⟨b,rfl,rfl,?_,a⟩)]
    .show((([_,_,_,(_,SO.seq Lt<|g.bs++[])]++V.enp)++(g.an.sio++(lc g.lv++(rh g.lv++(kW V.fl++([]++[]))))))++[]).Perm (([_,_,_,(_,SO.seq Lt g.bs)]++V.enp)++(g.an.sio++(lc g.lv++(rh g.lv++(kW V.fl++[])))));rw[Az,Az,Az,Az];rw[.refl _]
    .rw[Az,]
     rw[.refl _]),λQ d=>⟨trivial,d⟩⟩]
def agO(h:bs.length<2^20):(xT V F x bs).Holds w:=
 X.ap (F:=1500) (nt:=λQ Q=>.cx λc=>.v [1,2,2,3,4,4,4,4,4] (hN (Y<|.ref<| -x.e) "list.append" [rf V.rw,sS "open"] (-V.rw) (.seq Lt bs) (.seq Lt<|bs++[sS "open"])<|.ok .none) [3] [] λQ=>.f [] [0,1,2,3] [J,O,J,J] [] {y0 with l:=λi=>(match i with
  |0=>x.vs
  |_=>(aQ.fl {c with y:={y0 with u:={x:=x}}} 0).u.x.ts.set 3 .none)}) aF rfl λQ Q=>pX rfl λQ=>pU rfl (jz w _ _ _ _ h) λQ Q=>pF rfl Z9
def pmH{α:Type}(F x d fs rw b K cf cl cr fd h e T i:α) c:(([F,x,d,fs,rw,b,K,cf,cl,cr,fd,h,e,T]++c)++[i]).Perm<|([e,T,cr,rw]++[])++([F,x,d,fs,b,K,cf,cl,fd,h]++c++[i]):=Tr.pmE [[F],[x],[d],[fs],[rw],[b],[K],[cf],[cl],[cr],[fd],[h],[e],[T],[i],c] 0x845ac02809020070140400c020000132c0f038000422f701a06016050120400e0300a02006010000
def pmI{α:Type}(F x d fs rw h K cf cl cr fd j e T i:α) a b c f r:(([e,T,cr,rw]++[])++([F,x,d,fs,h,K,cf,cl,fd,j]++(a++(b++(c++(f++(r++[])))))++[i])).Perm<|([x,d,fs,rw,h,K,cf,cl,cr,fd,j,F,i]++(a++(b++(c++(f++[])))))++([e,T]++r):=Tr.pmE [[e],[T],[cr],[rw],[F],[x],[d],[fs],[h],[K],[cf],[cl],[fd],[j],[i],a,b,c,f,r] 0xa8c4000680982408820603c0e0100d0300b028050240801c0004035050130481103dc0681805814048100380c0000252006010000
def pmJ{α:Type}(P aQ B:!α):((P++aQ)++B).Perm<|(aQ++[])++(P++B):=Tr.pmE [P,aQ,B] 0x208011800418800
def pmK{α:Type}(F i:α) P B:(([F,i]++[])++(P++B)).Perm<|((F::P)++B)++[i]:=Tr.pmE [[F],[i],P,B] 0x19482000052002310000
def pmL{α:Type}(e T:α) L f r R:((L++(f++(r++[])))++([e,T]++R)).Perm<|(L++(f++((R++r)++[])))++[e,T]:=Tr.pmE [[e],[T],L,f,r,R] 0x62004c7000a020007188000980501000
def hrR(V:Ev)(F it:Nat)(fr:List<|SV×SV)(k m:Int)(y:aW):Rd:=[(-F,aI fr y.u.x.sl),(-V.L.x,xI V.L),(-V.L.xd,xD V.L y.u.g.an.nm y.u.g.an.j y.u.g.st (S "") y.u.g.an.ln),(-V.L.fs,y.u.g.dq),(-V.L.hook,.am ⟨.type "function",As,aba V,#[]⟩),(-V.K,aeK V),(-V.cf,aJ V.fd),(-V.cl,aJ V.L.x),(-V.fd,uk V.fl),(-V.L.pb,gk V.pz [])]++(y.u.g.an.sio++(lc y.u.g.lv++(rh y.u.g.lv++(kW V.fl++(y.u.g.ae.flatMap dE++[])))))++[(-it,j3 k m 1)]
def aeZ(h:GRQ w V q q' R)(I:td w V n nm e q' R'):td w V (n+1) nm e q<|R++.opn::R':=λl F it g k sl o H z=>by
 rw[mj]at z;rw[X.am (d:=kf V F it) rfl λA s nd=>?_]
 let B:=nd.ai;let C:=(aK.of nd).perm<|pmJ _ _ _
 rw[aea (c:=kf V F it) rfl rfl
  (R1:=λb=>∃ji,aK (qn V F it g k (n+1:Nat) (gC V nm e o) sl<|R++.opn::R') (Y l) s b<|([(-F,aI (gC V nm e<|sg k o) ji),(-it,j3 (k+1) ((n+1:Nat)-1) 1)]++[])++((V.ad4.zip (g.soB V)++V.enp)++(g.bl4 V).flatten))
  (R2:=λv E=>dK λji b=>aK (qn V F it g k (n+1:Nat) (gC V nm e o) sl<|R++.opn::R') (Y l) s b ((((((xS V F it g<|q'.at g.bs R).wf F (gC V nm e<|sg k o) (λ_=>gC V nm e<|sg k o) ji).rz<|.type "LookupError").pre++(((xS V F it g<|q'.at g.bs R).wf F (gC V nm e<|sg k o) (λ_=>gC V nm e<|sg k o) ji).rz<|.type "LookupError").aj.flatten))++[(-it,j3 (k+1) ((n+1:Nat)-1) 1)])/\(((xS V F it g<|q'.at g.bs R).wf F (gC V nm e<|sg k o) (λ_=>gC V nm e<|sg k o) ji).rz<|.type "LookupError").ax (Y l) b (.error v) E)
  (R3:=λx=>dK λy z=>(zq V g<|q'.at g.bs R).pure y/\aK (qn V F it g k (n+1:Nat) (gC V nm e o) sl<|R++.opn::R') (Y l) s x ((((xT V F y.u.x<|y.u.g.bs++y.u.g.ae.map cV).led z++((xT V F y.u.x<|y.u.g.bs++y.u.g.ae.map cV).af z).flatten))++hrR V F it (gC V nm e<|sg k o) (k+1) ((n+1:Nat)-1) y)) ?_ (?_) (?_) λx ⟨y,y4,m,M⟩=>?_]
 .rw[aK.gn (akG nB) nd (aK.need nd C rfl nd.hd nd.fs B<|.inl rfl) C λr L y er _ M=>?_]
  obtain rfl:=ch er;rw[(rfl,y.u.x.sl,M)]
 .rintro b ⟨ji,M⟩;let M:=M.perm<|pmK _ _ _ _;rw[(akH (sl:=ji) H h (p9 z) rfl).use (aK.need nd M rfl nd.hd nd.fs B<|.inl rfl) λr L G=>?_]
  let(_,_,y,P):=id G;let er:=P.ab;obtain rfl:=oY er;rw[(_,rfl,ji,b,M,G)]
 .rintro v E ⟨ji,b,M,N⟩;rw[BN (ab7 nd (show 0<=1 by decide) (nd.fs l rfl) (λ_ _=>⟨rfl,rfl,rfl,rfl,rfl,id⟩) rfl acd M (show 451<=810 by decide) N (hrR V F it (gC V nm e<|sg k o) (k+1)<|(n+1:Nat)-1) (λy=>xT V F y.u.x<|y.u.g.bs++y.u.g.ae.map cV) (λ_=>(X.ap (F:=1500) (nt:=λ_ _=>.g [0,0,1] [0] [] y0) aF rfl λ_ _=>pF rfl Z9)) (λy m=>(agO ?_).at _ _) (λ_=>rfl) (λ_=>rfl) (λ_=>rfl) (λ_=>rfl) (λ_ _=>rfl) λy _ _ _=>pmH _ _ _ _ _ _ _ _ _ _ _ _ _ _ _ _) (λ_ s3 z=>BN z (λ_ x z=>BN z (λf Q z=>?_) λ_ _ h=>h) λ_ _ h=>h) λ_ _ h=>h]
  .let i:y.u.g.Is q' g.bs R:=.of m;rw[Ay,Ap,i.eb,i.len];rw[p9 z]
  .let(rfl,y,z,m,_,M):=z;rw[(rfl,y,z,m,M)]
 .let i:y.u.g.Is q' g.bs R:=.of m;rw[nC]at M;let lb:(y.u.g.bs++y.u.g.ae.map cV++[sS "open"]).length=g.bs.length+R.length+1:=by rw[Ay,Ay,Ap,i.eb,i.len];rfl
  let M:=M.perm<|pmI _ _ _ _ _ _ _ _ _ _ _ _ _ _ _ _ _ _ _ _
  rw[BK (I l F it ⟨y.u.g.an,y.u.g.st,y.u.g.lv,y.u.g.s,[],y.u.g.bs++y.u.g.ae.map cV++[sS "open"]⟩ (k+1) y.u.x.sl (sg k o) i.eq (by
   rw[lb,]
   rw[ahI z]) A _ x (aK.need nd M rfl nd.hd nd.fs B<|.inl rfl)) λr Q g5=>?_]
  let(j,er,(p1,p2,p3),_,_,M5):=aK.run nd M g5;rw[aK.fin nd M5 (y:={j with r:=λ_=>y.u.g.ae.flatMap dE++j.r 0,u:={j.u with g:={j.u.g with ae:=y.u.g.ae++(.opn,0,0)::j.u.g.ae}}}) (pmL _ _ _ _ _ _) er rfl rfl ⟨?_,?_,?_⟩]
  .rw[p1,AE];rw[i.eb,AD,AD];rfl
  .rw[CC,p2];rfl
  .rw[AE,i.er];show _++_::j.u.g.ae.map (·.1)=_;rw[p3,]
end
structure Cd where
 K:Nat
 k1:Nat
 k2:Nat
 k3:Nat
 z:Int
def lg(c:Cd):SO:=.fld (.type "code") [sS "_law_hook",sS "_law_read.<locals>._law_hook",sS "/claim/cut.py",.int 892,.int 1,.int 0,.int 0,.int 19,rf c.k1,.bool J,.int 273,rf c.k2,.none,.none,.none,rf c.k3,.int c.z,.int 892,sS "/claim/cut.py"]
def cv:Option Cd->SO
 |none=>.fld .none []
 |some c=>.fld .none [.int 892,.int 4,rf c.K]
def tbR:Option Cd->Rd
 |none=>[(879,cv As)]
 |some c=>[(879,cv<|Y c),(-c.K,lg c)]
def arD(nm:U)(I h fs:Nat):List<|SV×SV:=
 [(sS "instream",rf I),(sS "infile",.str nm),(sS "posix",.bool J),(sS "eof",.none),(sS "commenters",sS "#"),(sS "wordchars",sS pa),
  (sS "whitespace",sS " \t\r\n"),(sS "whitespace_split",.bool O),(sS "quotes",sS "'\""),(sS "escape",sS "\\"),(sS "escapedquotes",sS "\""),(sS "state",.str<|T [32]),(sS "pushback",rf h),(sS "lineno",.int 1),(sS "debug",.int 0),(sS "token",sS ""),(sS "filestack",rf fs),
  (sS "source",.none),(sS "_punctuation_chars",sS "")]
def arE(cs:!Nat)(nm:U)(p:Int):X:={ec:=.call (.ref 722) [.str<|T cs,.str nm,.bool J] [],ai:=500,ab:=λy=>.ok<|rf<|y.n 0,ao:=λy=>[-y.n 0,-y.n 1,-y.n 2,-y.n 3],al:=λy=>[.inst (.ref 722) (Y<| -y.n 1) [],.ns Dt<|arD nm (y.n 4) (y.n 2)<|y.n 3,gk 0 [],gk 0 []],af:=λy=>[[(-y.n 4,la<|y.n 5),(-y.n 5,pc (T cs) p)]]}
def ae0 w cs nm:(arE cs nm<|pos cs cs).Holds w:=by rw[abb,];rw[X.ap (F:=3000) (nt:=λQ N=>.fin (dg 790 0x31110200020200200023333311102000202002000231110200020200200023ccc0ccc0001110200020200200023111020002020020002311102000202002000231110200020200200023bbb0bbb0001110200020200200023111020002020020002311102000202002000231110200020200200023111020002020020002311102000202002000231110200020200200021cf10220002000023102200020000231110200020200200023111020002020020002311102000202002000233111020002020020002331110200020200200023311102000202002000233333777080000000808008000000089a0a0aaaa708800000008000000008aaaaa00097800008000000080000000899777080000000808008000000089777080000000808008000000089777080000000808008000000089900090090909900090099999990000000808000000000000000000000000000000000000006000060006666666000000000000000000000000000003000003003333333333000000020200000000000000000000000000000) [1,0,10,11] [O,O,O,O] [[.l 7,.l 6]] (yA [N+1,N,N+10,N+11,N+7,N+6]) [((S "ßàáâãäåæçèéêëìíîïðñòóôõöøùúûüýþÿÀÁÂÃÄÅÆÇÈÉÊËÌÍÎÏÐÑÒÓÔÕÖØÙÚÛÜÝÞ").length==0)=O,(S "abcdfeghijklmnopqrstuvwxyzABCDEFGHIJKLMNOPQRSTUVWXYZ0123456789_"++S "ßàáâãäåæçèéêëìíîïðñòóôõöøùúûüýþÿÀÁÂÃÄÅÆÇÈÉÊËÌÍÎÏÐÑÒÓÔÕÖØÙÚÛÜÝÞ").length<=AO]) aF rfl λQ Q=>pG rfl ⟨by decide+kernel,by decide+kernel,trivial⟩ Z9]
noncomputable def aW.cd(y:aW):Cd:=⟨y.n 1,y.n 2,y.n 3,y.n 4,y.z 0⟩
def tM(fd:Nat)(fl:!Fl)(nm:U)(R:!bu)(c:Option Cd):X:={ec:=.call (.ref 884) [rf fd,.str nm] [],ai:=820,pre:=(-fd,uk fl)::tbR c,aj:=[kW fl],ab:=λy=>.ok<|rf<|y.n 0,post:=λy=>uk fl::(match c with|none=>[cv<|Y y.cd]|some c=>[cv<|Y c,lg c]),ao:=λy=>(-y.n 0)::(match c with|none=>[-y.n 1]|some c=>[]),al:=λy=>.seq Lt (y.l 0)::(match c with|none=>[lg y.cd]|some c=>[]),af:=λy=>[kW fl,y.r 0],pure:=λy=>A3 (y.l 0=y.u.g.ae.map cV) (y.r 0=y.u.g.ae.flatMap dE)<|y.u.g.ae.map (·.1)=R}
def qR(f:Fl)(j d:Nat):Gs:=⟨⟨f.nm,f.tx,f.tx,1,0,j,d⟩,.str<|T [32],[],0,[],[]⟩
noncomputable def vR(fd:Nat)(fl:!Fl)(N:Nat)(x:aQ)(c:Cd)(h:Nat):Ev:=⟨⟨x.y.n 0,x.y.n 1,x.y.n 2,x.y.n 3,x.t 1+h⟩,c.K,N+1,N+2,N+3,x.t 1+4,c.k1,c.k2,c.k3,c.z,N+4,0,fd,fl⟩
noncomputable def cR(x:aQ):Cd:=⟨x.t 1+8,x.t 1+5,x.t 1+6,x.t 1+7,((x.t 2+6:Nat):Int)⟩
noncomputable def yR(n:Nat)(c:Cd)(y:aW):aW:={y with n:=λi=>(match i with|0=>n|1=>c.K|2=>c.k1|3=>c.k2|_=>c.k3),z:=λQ=>c.z}
def arF(fd:Nat)(fl:!Fl)(f:Fl)(R:!bu)(a b m:!Nat)(s:Nat)(cd:aQ->Cd)(h it:Nat)(ix:!Nat)(ks:!Bool)(fin:Nat->aQ->aQ->Nt):Bool->Nat->Nt:=λQ N=>
 .v a (hM As "dict.__getitem__" [rf fd,.str f.nm] (-fd) (uk fl)<|.ok<|rf f.a) [0] [] λQ=>.ob [[],[],[],[],[0]] (-f.a) f.so
 (.v b (arE f.tx f.nm<|pos f.tx f.tx) [] [] λn=>
 .use m (qn (vR fd fl N n (cd n) h) N (n.t 1+it) (qR f (n.y.n 4)<|n.y.n 5) 0 200 (gC (vR fd fl N n (cd n) h) f.nm O As) [] R) (Y [fP (vR fd fl N n (cd n) h) N]) ix ks [[1],[],[],[0]] [] λx=>fin N n x)
def akI(C:f∈fl)(hd:cU (nh fl) f.nm=Y (rf f.a))(b:R.length<2^20)(h:∀V:Ev,V.fl=fl->V.fd=fd->td w V 200 f.nm O (qR f 0 0) R) c:(tM fd fl f.nm R c).aq w []<|Y l:=by
 let m:∀{B:!Rd},(-f.a,f.so)∈(kW fl::B).flatten:=AT aE<|Av (f:=λf:Fl=>(-f.a,f.so)) C
 let k:=λV F it j d e i=>h V e i l F it (qR f j d) 0 [] As rfl (by
  show 0+_<_;rw[Bh,]
  rw[b])
 cases c with
 |none=>rw[X.aB (F:=3000) (nt:=(arF fd fl f R (dg 13 0x1111340334400) [0,3,0,0] (dg 105 0x17f16f16f16f016f16f16f16f016f16f16f00003399908000008080080008539990800080800800085330002222055660ffddcdd0ddddcdd0ddddcdd0ddd0cccc) 0 cR 9 11 [7,8,10,6,20,19,3,4,5,0,9,2,22] [J,O,J,O,O,O,O,O,O,J,J,O,O] λN n x=>.f [6] [0,1,6,19] [J,O,J,J] [[.b 1],[.b 2]]<|yR (N+4) (cR n) x.y)) aF rfl λQ Q=>pU rfl (e7<|eZ w _ _ _ _ hd) λQ Q=>pO rfl m<|pU rfl (ae0 w _ _) λQ Q=>⟨trivial,k _ _ _ _ _ rfl rfl,λQ H=>⟨trivial,H⟩⟩]
 |some c=>rw[X.aB (F:=3000) (nt:=(arF fd fl f R (dg 13 0x1111450445500) [0,4,0,0] (dg 102 0x14f13f13f13f013f13f13f13f013f13f13f000044aaa0900000909009000964aaa09000909009000964400020667710feedee0eeeedee0eeeedee0eee0dddd) 0 (λQ=>c) 5 7 [8,9,11,7,17,2,4,5,6,0,10,3,19] [J,O,J,O,O,J,O,O,O,J,J,O,O] λN n x=>.g [7] [0,1,2,7] [[.b 1],[.b 2]]<|yR (N+4) c x.y)) aF rfl λQ Q=>pU rfl (e7<|eZ w _ _ _ _ hd) λQ Q=>pO rfl m<|pU rfl (ae0 w _ _) λQ Q=>⟨trivial,k _ _ _ _ _ rfl rfl,λQ H=>⟨trivial,H⟩⟩]
def wy(nm:U)(ln:Int):X:={ec:=.call (.ref 863) [.str nm,.int ln] [],ai:=450,ab:=λQ=>.ok<|.str<|aO nm ln}
def ae1:aR w (wy nm ln) 400 λQ Q=>.fin (dg 19 0x77013f000100771111100) [] [] [] y0 [((S "\""++nm++S "\", line "++S (CW ln)).length==0)=O,((S ": ").length==0)=O,(S "\""++nm++S "\", line "++S (CW ln)++S ": ").length<=AO,((S "\""++nm++S "\", line ").length==0)=O,((S<|CW ln).length==0)=O,(S "\""++nm++S "\", line "++S (CW ln)).length<=AO,ln.natAbs.log2<1920,(S<|CW ln).length<=AO,((S "\""++nm).length==0)=O,((S "\", line ").length==0)=O,(S "\""++nm++S "\", line ").length<=AO,((S "\"").length==0)=O,(nm.length==0)=O,(S "\""++nm).length<=AO]:=aF
def ae2:aR w (wy (T []) ln) 400 λQ Q=>.fin (dg 19 0x77013f0001007b1111100) [] [] [] y0 [((S "\""++S "\", line "++S (CW ln)).length==0)=O,((S ": ").length==0)=O,(S "\""++S "\", line "++S (CW ln)++S ": ").length<=AO,((S "\""++S "\", line ").length==0)=O,((S<|CW ln).length==0)=O,(S "\""++S "\", line "++S (CW ln)).length<=AO,ln.natAbs.log2<1920,(S<|CW ln).length<=AO,((S "\"").length==0)=O,((S "\", line ").length==0)=O,(S "\""++S "\", line ").length<=AO,((S "\"").length==0)=O,((T []).length==0)=J]:=aF
def nV(a b:U):(a++b).length=a.length+b.length:=by show(a.cps++b.cps).size=a.cps.size+b.cps.size;rw[Ga,]
def akJ:∀n<1000,((S<|CW ((n:Nat):Int)).length==0)=O/\(S<|CW ((n:Nat):Int)).length<=20/\((n:Nat):Int).natAbs.log2<1920:=by decide+kernel
def aiD(w:AW)(nm:U)(n:Nat)(B:n<1000)(hl:nm.length<=1000):(wy nm n).Holds w:=by
 let(d,i,x):=akJ n B;let l:∀{n:Nat},n<=2000->n<=AO:=λh=>Ax h (by decide)
 let I:(S "\"").length=1:=rfl;let L:(S "\", line ").length=8:=rfl;let M:(S ": ").length=2:=rfl;let nz:∀{a b:U},(b.length==0)=O->((a++b).length==0)=O:=λh=>by rw[nV,];rw[ZX λe=>by rw[(Nat.add_eq_zero_iff.mp e).2]at h;rw[nomatch h]]
 let q:∀b:U,b.length<=1001->(b++S "\", line ").length<=AO/\(b++S "\", line "++S (CW ((n:Nat):Int))).length<=AO/\(b++S "\", line "++S (CW ((n:Nat):Int))++S ": ").length<=AO:=λb H=>by simp only[nV,L,M];rw[(l<|aml H,l<|amm i H,l<|amn i H)]
 let E:((S "\", line ").length==0)=O:=rfl;let A:((S ": ").length==0)=O:=rfl;let k:((S "\"").length==0)=O:=rfl;cases j:nm.length==0 with
 |true=>
  obtain rfl:nm=T []:=by let⟨⟨c⟩⟩:=nm;obtain rfl:c=[]:=CX<|BX j;rfl
  let(Q,m,r):=q (S "\"") (by rw[I,];decide);rw[X.ap ae2 rfl λV V=>pG rfl ⟨nz d,A,r,nz E,d,m,x,l<|Ax i (by decide),k,E,Q,k,j,trivial⟩ trivial]
 |false=>
  let H:(S "\""++nm).length<=1001:=by rw[nV,I];rw[amo hl]
  let(Q,m,r):=q (S "\""++nm) H;rw[X.ap ae1 rfl λV V=>pG rfl ⟨nz d,A,r,nz E,d,m,x,l<|Ax i (by decide),nz j,E,Q,k,j,l<|Ax H (by decide),trivial⟩ trivial]
noncomputable def X.inB(K:X)(B:Rd):X:={K with aj:=B::K.aj,af:=λy=>B::K.af y}
def fg{K:X}(H:(K.wth a so).aq w fr l)(m:(a,so)∈B):(K.inB B).aq w fr l:=by
 let(p,q,rfl):=BS m;rw[X.perm (p++q) H rfl rfl (AA _) (.inr rfl) (bP λr=>?_) λy d b c=>?_]
 .show(((K.pre++[(a,so)])++K.aj.flatten)++(p++q)).count r=(K.pre++((p++(a,so)::q)++K.aj.flatten)).count r;simp only[AQ,B4,CJ];rw[aD [BO r K.pre,ite (Eq (instBEqOfDecidableEq.beq {fst:=a,snd:=so} r) J) 1 0,BO r K.aj.flatten,BO r p,BO r q] 0x111165807004087065010400020]
 .let G:(K.post y).length=K.pre.length:=by let b:(K.post y++[so]).length=(K.pre++[(a,so)]).length:=b;rw[Ay,Ay]at b;rw[Eg b]
  rw[(y,rfl,G,c,bP λr=>?_,d)];show(((aH K.pre).zip (K.post y)++(K.ao y).zip (K.al y))++((p++(a,so)::q)++(K.af y).flatten)).count r=((((aH<|K.pre++[(a,so)]).zip (K.post y++[so])++(K.ao y).zip (K.al y))++(K.af y).flatten)++(p++q)).count r;delta aH;rw[AE,GQ (by rw[Ap,G])];show _=((((D6 (·.1) K.pre).zip (K.post y)++[(a,so)]++_)++_)++_).count r;simp only[AQ,B4,CJ];rw[amp]
def di{C:Ct}(H:C.Holds w)(k:∀b,¬C.fp b)(Pre:∀h,bh h a so->C.Pre h):(C.kt.wth a so).Holds w:=by
 let nl:=λy=>jy y C.k 0
 let e:∀y,(C.post y).length=C.pre.length->(C.kt.wth a so).led y++((C.kt.wth a so).af y).flatten=((aH C.pre).zip (C.post y)++[(a,so)])++(m9 y C.k 0).zip (C.al y):=λy lp=>by show((aH<|C.pre++[(a,so)]).zip (C.post y++[so])++(m9 y C.k 0).zip (C.al y))++[]=_;rw[Az,];delta aH;rw[AE,GQ (by rw[Ap,lp])];rfl
 rw[X.of_ct H rfl rfl (AA _) (λb j=>j.elim (λm=>.inl ?_) λm=>(k b m).elim) (λh i nd=>⟨λq d=>i q<|Ao _<|Ao _ d,?_,Pre h<|i _<|Ao _<|Aq _ aE⟩) λs r A y i nd l P=>⟨y,P.ab,?_,?_,?_,?_,λa n=>.inr<|P.fresh a n,(λQ h=>nomatch h),trivial⟩]
 .show b∈aH (C.pre++[(a,so)]);delta aH;rw[AE,];rw[Ao _ m]
 .let nd:(aH<|(C.pre++[(a,so)])++[]).Nodup:=nd;rw[Az]at nd;delta aH at nd;rw[AE]at nd;rw[(Bu.mp nd).1]
 .show(C.post y++[so]).length=(C.pre++[(a,so)]).length;rw[Ay,Ay,P.lp];rfl
 .show(C.al y).length=(m9 y C.k 0).length;rw[nl,];rw[P.ln]
 .rw[e y P.lp,];rw[λq d=>(AB.mp d).elim (λd=>(AB.mp d).elim (P.post q) λd=>?_)<|P.al q]
  obtain rfl:=Au.mp d;let(o,g,r):=i (a,so)<|Ao _<|Aq _ aE;rw[(o,l.keep _ o g λm=>m.elim (λm=>?_)<|k a,r)];let nd:(aH<|(C.pre++[(a,so)])++[]).Nodup:=nd;rw[Az]at nd;delta aH at nd;rw[AE]at nd;rw[(Bu.mp nd).2.2 a m a aE rfl]
 .let nd:(aH<|(C.pre++[(a,so)])++[]).Nodup:=nd;rw[Az]at nd
  let E:aH ((C.kt.wth a so).led y++((C.kt.wth a so).af y).flatten)=aH (C.pre++[(a,so)])++m9 y C.k 0:=by
   show aH ((C.kt.wth a so).led y++[])=_;rw[Az,];rw[d8 (C.kt.wth a so) ?_ ?_]
   .show(C.post y++[so]).length=(C.pre++[(a,so)]).length;rw[Ay,Ay,P.lp];rfl
   .show(C.al y).length=(m9 y C.k 0).length;rw[nl,];rw[P.ln]
  rw[E,];rw[Bu.mpr ⟨nd,P.nd,λb j c x q=>?_⟩];subst q;let(q,d,rfl):=AM.mp j;let(o,g,_):=i q<|Ao _ d;rw[ZZ (AP g)<|AX.mpr<|P.fresh _ x]
section
open PySem.Builtin
def itC(v d:AL)(l:DL):Ct:=
 ⟨.bi "dict_items.__iter__" [.ref v] [],As,400,[(v,.fld (.type "dict_items") [.ref d])],1,λy=>.ok<|.ref<|nu y 0,λQ=>[.fld (.type "dict_items") [.ref d]],λy=>[.fld (.type "dict_itemiterator") [.none,.bool O,.ref d,.int 0,.int l.length,.int<|y.n 1,.none,.none]],hG,λh=>bh h d<|aM l,λy h Q=>∃o,h.get? d=Y o/\DP l (y.n 1) o⟩
def itN(v d:AL)(l:DL):X:=ui (itC v d l) d l
theorem akK w v d l:(itN v d l).Holds w:=l6 (by
  intro A c s ec B r St k _ _ x;let(_,rfl):=aS ec;let(u,e):=bZ (k _ aE);let(es,n,j,m):=eY x;rw[AZ (id:="dict_items.__iter__") F.entry_dict_items_iter ?_];rw[Bx (by decide+kernel:C8 "dict_items.__iter__"=J),];delta Builtin.«dict_items.__iter__»;rw[Al (Aw ?_)];rw[Al ?_];delta JU;rw[Al (Bf e rfl (i:=0) rfl<|Aw ?_)];rw[Al ?_];delta Jb;rw[Al (B1 j rfl<|Al<|Cw j rfl ?_)];let H:Ju "dict_itemiterator"=J:=rfl;simp only[H,if_true];let b:=Bo St.big;rw[Db (Aw ?_) (show 8<=AO+2 by decide)]
  rw[fI (so:=.fld (.type "dict_itemiterator") [.none,.bool O,.ref d,.int 0,.int l.length,.int n,.none,.none]) (y:=yA [s.heap.objs.size-902,n]) b (Z8 (λa=>EE.ok<|.ref a) b.symm) k rfl rfl rfl rfl (dA m▸rfl) rfl ⟨_,j,es,rfl,m⟩]) rfl (λQ h=>h) (λQ h=>h) λQ Q Q h=>h
def iaC(a b:AL)(ys:!SV):Ct:=⟨.bi "list.__iadd__" [.ref a,.ref b] [],As,400,[(a,.seq Lt [])],0,λQ=>.ok<|.ref a,λQ=>[.seq Lt ys],λQ=>[],hG,λh=>bh h b<|.seq Lt ys,λQ Q Q=>True⟩
def zr(a b:AL)(ys:!SV):X:=(iaC a b ys).kt.wth b<|.seq Lt ys
def ae3 w a b ys (hl:ys.length<2^20):(zr a b ys).Holds w:=di (by
  intro A c s ec L k St l _ _ m;let(_,rfl):=aS ec;let(I,n,H,r):=cp (l _ aE);let(i,N,d,e):=cp m;let e0:=Ir (DG.mp r);subst e0;let B:i.size=ys.length:=by rw[<-e,Ap];rfl
  rw[bk (by decide+kernel) Gr (Iw a #[] n b i N (by simp) (Bd _) (by
   have:AO=2^24:=rfl;rw[B,];show 0+_<=_
   rw[ame hl])) ⟨H,d,?_⟩]
  let j:=Bn (h:=s.heap) (a:=a) (f:=DY λx=>x++i);let C:=Bg (h:=s.heap) (a:=a) (DY λx=>x++i) H rfl
  rw[jr (λx o E G=>(j.2 x<|c2 rfl x G).trans E) (AY j.1.symm) (λQ=>rfl) (ud (so:=.seq Lt ys) ⟨_,C,by
   show SO.seq Lt ((#[]++i).toList.map aC)=_
   rw[DX,e]⟩) rfl rfl rfl Z9]) (λQ h=>h) λQ h=>h
structure Ge where
 k:U
 lp:Nat
 ps:!U
def lx(γ:!Ge):DL:=γ.map λe=>(e.k,rf e.lp)
def ml(γ:!Ge):Rd:=γ.map λe=>(-e.lp,.seq Lt<|aG e.ps)
noncomputable def cF(γ:!Ge):List<|U×!U:=γ.map λe=>(e.k,e.ps)
noncomputable def c7:!(U×!U)->!Pn->!Pn
 |[],l=>l
 |e::r,l=>c7 r<|k9 l e.1 e.2
def arG(F:Nat):Env:=⟨bd [25,0],-F,3,[],S "TopologicalSorter.__init__.<locals>.",Y 778,.ref 777,Y<| -F,0⟩
def pj(F it:Nat):BC:=hU [25,0,4,0] (.ref<| -it)<|arG F
def wz(g:So)(gd:Nat):List<|SV×SV:=[(sS "self",rf g.so),(sS "graph",rf gd)]
def wA(g:So)(gd:Nat):Option (U×Nat)->!(SV×SV)
 |none=>wz g gd
 |some (k,lp)=>wz g gd++[(sS "node",.str k),(sS "predecessors",rf lp)]
def tiT(g:So)(gd F it:Nat)(o:Option<|U×Nat)(tu lp:Nat)(k:U)(ps:!U)(R:Rd)(d:DL)(aa:!Nd):X:={ec:=.am<|pj F it,ai:=704,pre:=(-F,.ns Fr<|wA g gd o)::(-tu,.seq Tt [.str k,rf lp])::(-lp,.seq Lt<|aG ps)::P3 g .none 0 0 (aM d),aj:=[R],ab:=λQ=>.au .next,post:=λy=>[.ns Fr<|wA g gd<|Y (k,lp),.seq Tt [.str k,rf lp],.seq Lt<|aG ps,ca g,cu g .none 0 0,aM<|y.d 0],af:=λy=>[bF y.u.na y.u.nd y.u.nb],pure:=λy=>y.d 0=aT (mN y)/\dM (mN y)=k9 (dM aa) k ps}
end
def arH(g:So)(gd F it:Nat)(o:Option<|U×Nat)(tu lp:Nat)(k:U)(ps:!U)(R:Rd)(d:DL)(aa:!Nd)(_:Bool)(N:Nat):Nt:=
 (.u (dg 61 0x311000005044000000400004111119772770777727707777277077702222) (zr (N+4+902) (-lp)<|aG ps) [10,2] [O,J] [] λx=>
 (.v [11,10,0,10,10] (adK g 0 0 R d aa k ps) [3,4,5] [[0]] λn=>
 (.f [] [0,1,2,3,4,5] [O,J,J,J,J,J] [[.b 0]]<|n.y)))
def arI(w:AW)(g:So)(gd F it:Nat)(o:Option<|U×Nat)(tu lp:Nat)(k:U)(ps:!U)(aa:!Nd)(j:ps.length<=2)(N:(aX<|dM aa).Nodup)(B:PB 90<|dM aa):(tiT g gd F it o tu lp k ps (aa.flatMap bj) (aT aa) aa).aw (qi<|.ref<| -tu) w As:=
 X.av (F:=900) (nt:=(arH g gd F it o tu lp k ps (GH bj aa) (aT aa) aa)) (by
  rcases ps with _|⟨r,_|⟨d,_|⟨e,ps⟩⟩⟩
  iterate 3
   .induction o<;>rw[aF]
  .rw[ZZ j (by simp)]) rfl λQ Q=>pU rfl (ae3 w _ _ _ (by delta aG;rw[Ap,];rw[amf j])) λQ Q=>pU rfl (X.ap (F:=1500) (nt:=(ajZ g 0 0 k (GH bj aa) (aT aa) aa ps ps.length)) (by
    rcases ps with _|⟨r,_|⟨d,_|⟨e,ps⟩⟩⟩
    iterate 3
     .rw[aF]
    .rw[ZZ j (by simp)]) rfl λQ Q=>pU rfl (ab9 w g .none 0 0 aa k rfl rfl<|Ax (Ax (AY (Ap _).symm) B.1) (by decide)) λx h=>by
    let b:=B.ens k;let n:=eK (k:=k) N;rw[<-h.2]at b n;let c:=aey (v':={x.y.u.nd with np:=x.y.u.nd.np+ps.length}) (f:=λq=>(q.1+ps.length,q.2)) n rfl;rw[pO rfl (r6 aE) (pU rfl (aew w _ _ _ _) λQ Q=>aa9 ps _ _ _ _ _ 92 (aez x.y.u.nd {x.y.u.nd with np:=x.y.u.nd.np+ps.length} rfl rfl).symm ?_ ?_ (amd j) ?_)]
    .rw[c,bc];rw[n]
    .rw[c,];rw[b.upd _ λq=>CE _]
    .rw[c,h.1,h.2]
     rfl) λQ h=>pF rfl h
def ae4:∀{ps:!U}{l:!Pn},(aX l).Nodup->(aX<|k5 k ps l).Nodup:=by
 cases _ with
 |nil=>intro _ h;rw[h]
 |cons p ps i=>intro l h;rw[i (by rw[bc,];rw[eK h])]
theorem PB.suc:∀{ps:!U}{m:Nat}{l:!Pn},PB m l->PB (m+2*ps.length) (k5 k ps l)
 |[],m,l,h=>h
 |p::ps,m,l,h=>by
  let z:=PB.suc (k:=k) (ps:=ps)<|(h.ens p).upd p (f:=λq=>(q.1,q.2++[k])) λq=>AY Ay
  rw[AI,show m+2*(ps.length+1)=m+1+1+2*ps.length by rw[aD [m,ps.length] 0x111152121111114000111502124020]];rw[z]
def PB.mono(h:PB m l)(e:m<=n):PB n l:=⟨Ax h.1 e,λx H=>Ax (h.2 x H) e⟩
def PB.add(h:PB m l)(j:ps.length<=2):PB (m+6)<|k9 l k ps:=(PB.suc<|(h.ens k).upd k (f:=λq=>(q.1+ps.length,q.2)) λQ=>CE _).mono<|amg j
def v5(g:So)(gd F it ep:Nat)(γ:!Ge):X:={ec:=.am<|pj F it,ai:=705,pre:=(-F,.ns Fr<|wz g gd)::P3 g .none 0 0 (aM []),aj:=[ta it gd (lx γ) 0 ep .none .none,ml γ],ab:=λQ=>.au .next,post:=λy=>[.ns Fr<|wz g gd++y.u.fs 0,ca g,cu g .none 0 0,aM<|y.d 0],af:=λy=>[[(-gd,aM<|lx γ)],ml γ,y.r 0],pure:=λy=>A3 (y.d 0=aT y.u.na) (y.r 0=y.u.na.flatMap bj)<|dM y.u.na=c7 (cF γ) []}
def auD{α:Type}{t x F s d n:α}{I P Q N:!α}:(t::(I++([F,s,d,n]++((P++x::Q)++N)))).Perm<|([F,t,x,s,d,n]++(N++[]))++(I++(P++Q)):=Tr.pmE [[t],[F],[s],[d],[n],[x],I,P,Q,N] 0x52408005603140401c0200c0002d47024003140400c0040040
def auE{α:Type}{t x F s d n:α}{I P Q N:!α}:((([F,t,x,s,d,n]++[])++(N++[]))++(I++(P++Q))).Perm<|(I++([F,s,d,n]++((P++x::Q)++N)))++[t]:=Tr.pmE [[F],[t],[x],[s],[d],[n],N,I,P,Q] 0x685900a000e6014020012002d4048028004e60140400c0200000
def auF{α:Type}{a F s d n:α}{P N:!α}:(a::([F,s,d,n]++(P++N))).Perm<|(([F,s,d,n]++[])++([a]++(P++(N++[]))))++[]:=Tr.pmE [[a],[F],[s],[d],[n],P,N] 0x850038040098a02006000008380c50100300040
def auG{α:Type}{F s d n a b:α}{P:!α}:([F,s,d,n]++([a,b]++(P++[]))).Perm<|[a,b]++([F,s,d,n]++(P++[])):=Tr.pmE [[F],[s],[d],[n],[a],[b],P] 0x28014801804001cc000500398002900300800
section
variable{gd F it ep:Nat}
def akL(n:(v5 g gd F it ep γ).aA w [] As A c s)(H:c=pj F it)(h2:∀e∈γ,e.ps.length<=2):∀(r:!Ge)(p:Nat)(o:Option<|U×Nat)(ok E:SV)(aa:!Nd)(i:AJ),γ.drop p=r->aK (v5 g gd F it ep γ) As s i (ta it gd (lx γ) p ep ok E++(((-F,.ns Fr (wA g gd o))::P3 g .none 0 0 (aM<|aT aa))++(ml γ++aa.flatMap bj)))->(aX<|dM aa).Nodup->∀m,PB m (dM aa)->m+6*r.length<=90->c7 (cF r) (dM aa)=c7 (cF γ) []->Be (MM w) A c ((v5 g gd F it ep γ).ax As s) i:=by
 cases _ with
 |nil=>
  intro p o ok E aa i j M G m B hm e
  let(fr,hf):=((by
    cases o with
    |none=>rw[([],(Az _).symm)]
    |some o=>rw[(_,rfl)]):∃r,wA g gd o=wz g gd++r)
  rw[hf]at M;rw[agI n rfl M (t:=_) (H.trans rfl) rfl ?_ λb M=>aK.fin n M (Jq9:=[]) (y:={y0 with d:=λ_=>aT aa,r:=λ_=>aa.flatMap bj,u:={y0.u with fs:=λ_=>fr,na:=aa}}) auF rfl rfl rfl ⟨rfl,rfl,e⟩]
  delta lx;rw[Ap,];rw[Hk.mp j]
 |cons x r ih=>
  intro p o ok E aa i j M G m B hm e;let hx:γ[p]?=Y x:=by rw[<-Fv,j];rfl
  let I:=Br hx;let(P,Q,pq):=BS (show(-x.lp,SO.seq Lt<|aG x.ps)∈ml γ from Av (f:=λe:Ge=>(-e.lp,SO.seq Lt<|aG e.ps)) I);let L:=H.trans rfl
  rw[agH n M L (by rw[H,];rfl) (k:=x.k) (v:=rf x.lp) (by
   delta lx;rw[AG,hx]
   rfl) (R2:=λb=>∃N,aK (v5 g gd F it ep γ) As s b (ta it gd (lx γ) (p+1) ep (.str x.k) (rf x.lp)++(((-F,.ns Fr<|wA g gd<|Y (x.k,x.lp))::P3 g .none 0 0 (aM<|aT N))++(ml γ++N.flatMap bj)))/\dM N=k9 (dM aa) x.k x.ps) (λtu b l=>?_) λb ⟨N,l,V⟩=>ih (p+1) _ _ _ N b (by rw[<-BU,j];rfl) l (by rw[V,];rw[ae4 (by rw[bc,];rw[eK G])]) (m+6) (by rw[V,];rw[B.add<|h2 x I]) (amh hm) (by rw[V,];rw[e])]
  rw[pq]at l;let M3:=l.perm auD;rw[(arI w g gd F it o tu x.lp x.k x.ps aa (h2 x I) G<|B.mono<|ami (by assumption)).use (aK.need n M3 (by rw[H,];rfl) n.hd (λ_ h=>nomatch h) (Dj (B6 _) n.ai)<|.inl rfl) λq s3 g3=>?_]
  obtain⟨y,er,pu,-,-,C⟩:=aK.run n M3 g3;rw[(.inl<|ch er,mN y,?_,pu.2)];let C:=C.perm auE;rw[<-pq,nO,pu.1]at C;rw[C.less]
def akM(H:∀e∈γ,e.ps.length<=2)(hl:γ.length<=10):(v5 g gd F it ep γ).Holds w:=λA c s n=>by rw[akL n (nN n.ec) H γ 0 As .none .none [] s rfl ((aK.of n).perm ?_) AS 0 ⟨AA _,λQ h=>nomatch h⟩ (amj hl) rfl];rw[auG]
end
def itB(v:AL)(gd:Nat)(l:DL):X:={ec:=.bi "dict_items.__iter__" [.ref v] [],ai:=400,pre:=[(v,.fld (.type "dict_items") [rf gd])],aj:=[[(-gd,aM l)]],ab:=λy=>.ok<|rf<|y.n 0,post:=λQ=>[.fld (.type "dict_items") [rf gd]],af:=λy=>[ta (y.n 0) gd l 0 (y.n 1) .none .none]}
def akN w v gd l:(itB v gd l).Holds w:=
 X.perm [] (akK w v (-gd) l) rfl rfl (AA _) (.inl rfl) (.of_eq<|Az _) λy Q Q Q=>⟨y,rfl,rfl,rfl,(LI _).trans<|.of_eq (Az _).symm,trivial⟩
def tsN(gd:Nat)(γs:!Ge):X:={ec:=.call (.ref 842) [rf gd] [],ai:=712,aj:=[[(-gd,aM<|lx γs)],ml γs],ab:=λy=>.ok<|rf<|y.n 0,ao:=λy=>[-y.n 0,-y.n 1,-y.n 2],al:=λy=>[ca ⟨y.n 0,y.n 1,y.n 2⟩,cu ⟨y.n 0,y.n 1,y.n 2⟩ .none 0 0,aM<|y.d 0],af:=λy=>[[(-gd,aM<|lx γs)],ml γs,y.r 0],pure:=λy=>A3 (y.d 0=aT y.u.na) (y.r 0=y.u.na.flatMap bj)<|dM y.u.na=c7 (cF γs) []}
def arJ(gd:Nat)(γs:!Ge)(_:Bool)(N:Nat):Nt:=
 (.ob [dg 121 0x3311102000202002000231110200020200200023111020002020020002311102000202002000233333000000020200000000000000000000000000000,[],[],[],[],[0]] (-gd) (aM<|lx γs) (.u [5,5,5] (itB (N+4+902) gd<|lx γs) [4] [O] [[0]] λx=>
 (.ob [[]] (-x.y.n 0) (zi gd (lx γs).length 0 (x.y.n 1) .none .none) (.u [] (v5 ⟨N+1,N,N+3⟩ gd (N+2) (x.y.n 0) (x.y.n 1) γs) [2,1,0,3] [O,O,O,O] [[0],[1]] λb=>
 (.g [] [1,0,3] [[.b 0],[.b 1],[.b 2]]<|{b.y with n:=λi=>match i with|0=>N+1|1=>N|_=>N+3})))))
section
def auH{α:Type}{i l m:α}{E P Q:!α}:(([i]++([l]++[]))++(m::(E++(P++Q)))).Perm<|[]++((m::i::E)++((P++l::Q)++[])):=Tr.pmE [[i],[l],[m],E,P,Q] 0x9c60300051008000407300a02002300800
def auI{α:Type}{i l m:α}{E P Q:!α}:([]++((m::i::E)++((P++l::Q)++[]))).Perm<|(([i]++[])++([l]++[]))++(m::(E++(P++Q))):=Tr.pmE [[m],[i],[l],E,P,Q] 0xe6014020048008c00004e40180028c0200020
def auJ{α:Type}{i l m:α}{E P Q aQ:!α}:(([i]++((l::aQ)++[]))++(m::(E++(P++Q)))).Perm<|[]++((m::i::E)++((P++l::Q)++(aQ++[]))):=Tr.pmE [[i],[l],[m],aQ,E,P,Q] 0x9408180e00184020001020e0300800946000800
def auK{α:Type}{x i l m:α}{E P Q aQ:!α}:(([x]++(E++((P++l::Q)++(aQ++[]))))++[m,i]).Perm<|(([i]++[x])++((l::aQ)++[]))++(m::(E++(P++Q))):=Tr.pmE [[x],[l],[m],[i],E,P,Q,aQ] 0x1070180400523000450000520029020603800600800
variable[hI:jf]
def bC(F:Nat):Env:=⟨bd [25,8],-F,3,[],S "TopologicalSorter._find_cycle.<locals>.",Y 832,.ref 831,Y<| -F,0⟩
def kg(F:Nat):BC:=jA [25,8,5,1,1]<|bC F
def akO(F:Nat):BC:=jA [25,8,5,1]<|bC F
def arK(F it:Nat):BC:=hU [25,8,5] (.ref<| -it)<|bC F
structure Fc where
 so:Nat
 nd:Nat
 sl:Nat
 il:Nat
 ss:Nat
 d:Nat
def zs(f:Fc):List<|SV×SV:=[(sS "self",rf f.so),(sS "n2i",rf f.nd),(sS "stack",rf f.sl),(sS "itstack",rf f.il),(sS "seen",rf f.ss),(sS "node2stacki",rf f.d)]
def mn(f:Fc)(k:U):List<|SV×SV:=zs f++[(sS "node",.str k)]
structure En where
 nd:Nd
 mw:Nat
 it:Nat
 j:Nat
def qT(it:Nat):SO:=.fld (.type "method-wrapper") [.bi "list_iterator.__next__",rf it]
def vh(l j:Nat):SO:=.fld (.type "list_iterator") [rf l,.int j]
noncomputable def dY(st:!En):!SV:=st.reverse.map λe=>.str e.nd.k
def fw(st:!En):!SV:=st.reverse.map λe=>rf e.mw
noncomputable def bD:!En->DL
 |[]=>[]
 |e::r=>bD r++[(e.nd.k,.int r.length)]
def dx(e:En):Rd:=[(-e.mw,qT e.it),(-e.it,vh e.nd.sa e.j)]
def avW(e:AF)(env:Env):BC:=r8 [25,8,5,1,1,0] e env
def auL(e:AF)(env:Env):BC:=match bf [25,8,5,1,1,0] PW.main.body with
 |some (.Try _ (.ExceptHandler _ n b pos::_) _ _ _)=>.handlers e [.ExceptHandler As n b pos] env
 |_=>.body [] env
def tN(XR:Rd):Prop:=∀a,jf.p=Y a->dK λc x=>(-a,SO.fld c x)∈XR/\x[2]?=Y .none
def aiE(y:aW):SO:=.fld (.type "StopIteration") [.ref<| -y.n 1,.none,k0,.none,.bool O,.none]
def nxN(e:En)(r:!En)(aa:!Nd)(z:U):X:={ec:=.bi "list_iterator.__next__" [rf e.it] [],hd:=dz,ai:=400,aj:=[(e::r).flatMap dx,aa.flatMap bj],ab:=λQ=>.ok<|.str z,af:=λQ=>[({e with j:=e.j+1}::r).flatMap dx,aa.flatMap bj]}
def leN(e:En)(r:!En)(aa:!Nd)(XR:Rd):X:={ec:=.bi "list_iterator.__next__" [rf e.it] [],hd:=dz,ai:=400,aj:=[(e::r).flatMap dx,aa.flatMap bj,XR],ab:=λy=>.err<|.ref<|nu y 0,ao:=λy=>[nu y 0],al:=λy=>[aiE y],af:=λQ=>[r.flatMap dx,aa.flatMap bj,XR]}
section
variable{w:AW}{e:En}{r:!En}{aa:!Nd}{XR:Rd}
def agP w it l c xs j x (H:xs[j]?=Y x):(aup it l c xs j x).Holds w:=oR (hd:=dz) (by decide+kernel) Df cT w it l c xs j x H
end
end
section
variable[hI:jf]
def wX(f:Fc)(F:Nat)(k e:U)(s0:List<|Option SV)(vs M:!SV)(dl:DL)(B b N XR:Rd)(fl:KW):X:={ec:=.am<|kg F,hd:=dz,ai:=460,fr:=[bC F],pre:=[(-F,aI (mn f k) s0),(-f.sl,.seq Lt vs),(-f.il,.seq Lt M),(-f.d,aM dl)],aj:=[B,N,XR],ab:=λQ=>.au fl,post:=λy=>[aI (mn f e) y.u.x.sl,.seq Lt vs,.seq Lt M,aM dl],af:=λQ=>[b,N,XR]}
def wT(f:Fc)(F:Nat)(k:U)(s0:List<|Option SV)(vs:!SV):X:={ec:=.am<|kg F,hd:=dz,ai:=460,fr:=[bC F],pre:=[(-F,aI (mn f k) s0),(-f.sl,.seq Lt vs)],ab:=λQ=>.au .next,post:=λy=>[aI (mn f k) y.u.x.sl,.seq Lt vs]}
def wU(f:Fc)(F:Nat)(M:!SV)(e:En)(r:!En)(aa:!Nd)(XR:Rd):X:={ec:=.am<|kg F,hd:=dz,ai:=460,fr:=[bC F],pre:=[(-f.il,.seq Lt M)],aj:=[(e::r).flatMap dx,aa.flatMap bj,XR],ab:=λQ=>.au .next,post:=λQ=>[.seq Lt M],af:=λQ=>[r.flatMap dx,aa.flatMap bj,XR]}
def arL(y:aW):!SV:=[.ref<| -y.n 1,.none,k0,.none,.bool O,.none]
def wE(f:Fc)(F:Nat)(k:U)(s0:List<|Option SV)(M:!SV)(e:En)(r:!En)(aa:!Nd)(XR:Rd):X:=((wU f F M e r aa XR).wf F (mn f k) (λQ=>mn f k) s0).nz (.type "StopIteration") arL
def wH(f:Fc)(F:Nat)(k:U)(x:Xd)(vs V M m:!SV)(dl d:DL):X:={ec:=.am<|auL (.ref<| -x.e)<|bC F,hd:=Y<|.ref<| -x.e,ai:=450,pre:=[(-x.e,.fld (.type "StopIteration") x.vs),(-x.T,.fld Tb x.ts),(-F,aI (mn f k) x.sl),(-f.sl,.seq Lt vs),(-f.il,.seq Lt M),(-f.d,aM dl)],ab:=λQ=>.au .next,post:=λy=>[.fld (.type "StopIteration")<|y.l 0,.fld Tb<|y.l 1,aI (mn f k) y.u.x.sl,.seq Lt V,.seq Lt m,aM d]}
def wC(a:Nat)(xs:!SV)(n:Nat):X:=hM dz "len" [.ref<| -a] (-a) (.seq Lt xs)<|.ok<|.int (n:Int)
def zt(a:Nat)(xs:!SV)(v:SV):X:=hM dz "list.__getitem__" [.ref<| -a,.int<|-1] (-a) (.seq Lt xs)<|.ok v
def ppK(hd:Option AF)(a:Nat)(xs ys:!SV)(v:SV):X:=hN hd "list.pop" [.ref<| -a] (-a) (.seq Lt xs) (.seq Lt ys)<|.ok v
def ddK(hd:Option AF)(a:Nat)(q:U)(dl d:DL):X:=hN hd "dict.__delitem__" [.ref<| -a,.str q] (-a) (aM dl) (aM d)<|.ok .none
def arM(f:Fc)(F:Nat)(k:U)(s0:List<|Option SV)(vs M:!SV)(dl:DL)(B N XR:Rd)(_:Bool)(N:Nat):Nt:=
 (.v [0,1,2,2] (wC f.sl vs 0) [1] [] λb=>
 (.g [] [0,1,2,3] [[.b 0],[.b 1],[.b 2]]<|{y0 with u:={y0.u with x:={sl:=s0}}}))
def arN(f:Fc)(F:Nat)(k z:U)(s0:List<|Option SV)(vs M:!SV)(dl:DL)(e:En)(r:!En)(aa:!Nd)(XR:Rd)(n:Nat)(_:Bool)(N:Nat):Nt:=.cx λc=>
 (.v [0,1,2,2] (wC f.sl vs<|n+1) [1] [] λb=>
 (.v [1,0,3,3,3,3] (zt f.il M<|rf e.mw) [2] [] λd=>
 (.ob [[],[],[]] (-e.mw) (qT e.it) (.v [] (nxN e r aa z) [] [[0],[1]] λh=>
 (.f [1,1] [0,1,2,3] [O,J,J,J] [[.b 0],[.b 1],[.b 2]]<|{y0 with u:={y0.u with x:={sl:=nU c (-F) 7 s0}}})))))
def arO(f:Fc)(F:Nat)(k:U)(s0:List<|Option SV)(vs:!SV)(n:Nat)(_:Bool)(N:Nat):Nt:=
 (.v [1,2,2] (wC f.sl vs<|n+1) [1] [] λb=>
 (.g [] [0,1] []<|{y0 with u:={y0.u with x:={sl:=s0}}}))
def arP(f:Fc)(F:Nat)(k:U)(s0:List<|Option SV)(M:!SV)(e:En)(r:!En)(aa:!Nd)(XR:Rd)(_:Bool)(N:Nat):Nt:=
 (.v [1,0,2,2,2,2] (zt f.il M<|rf e.mw) [1] [] λx=>
 (.ob [[],[],[]] (-e.mw) (qT e.it) (.v [] (leN e r aa XR) [] [[0],[1],[2]] λn=>
 (.g [] [0,1,2] [[.b 0],[.b 1],[.b 2]]<|n.y.ay {e:=n.y.n 0,sl:=s0}))))
def arQ(F:Nat)(x:Xd)(_:Bool)(N:Nat):Nt:=
 (.g [0,0,1] [0] []<|y0)
def arR(f:Fc)(F:Nat)(k q:U)(x:Xd)(vs V M m:!SV)(dl d:DL)(b:Nat)(_:Bool)(N:Nat):Nt:=.cx λc=>
 (.v (dg 10 0x4444433221) (ppK (Y<|.ref<| -x.e) f.sl vs V<|.str q) [3] [] λe=>
 (.v [6,6,6] (ddK (Y<|.ref<| -x.e) f.d q dl d) [5] [] λn=>
 (.v [3,5,5,5,5,5] (ppK (Y<|.ref<| -x.e) f.il M m<|rf b) [4] [] λh=>
 (.f [0] [0,1,2,3,4,5] [J,O,J,J,J,J] [] {y0 with u:={y0.u with x:={sl:=x.sl}},l:=λi=>(match i with
  |0=>x.vs
  |_=>(aQ.fl {c with y:={y0 with u:={x:=x}}} 0).u.x.ts.set 3 .none)}))))
end
section
def auM{α:Type}{F s i d:α}{E N aQ:!α}:([F,s,i,d]++(E++(N++(aQ++[])))).Perm<|([F,s]++[])++([i,d]++(E++(N++aQ))):=Tr.pmE [[F],[s],[i],[d],E,N,aQ] 0x10701805200011880000500380c02900300800
def auN{α:Type}{F s i d:α}{E N aQ:!α}:((([F,s]++[])++[])++([i,d]++(E++(N++aQ)))).Perm<|([F,i]++(E++(N++(aQ++[]))))++[s,d]:=Tr.pmE [[F],[s],[i],[d],E,N,aQ] 0x28c01400e03008200008380c0290000846200000
def auO{α:Type}{F s i d e T:α}{E N aQ:!α}:((([F,i]++[e,T])++(E++(N++(aQ++[]))))++[s,d]).Perm<|([e,T,F,s,i,d]++[])++(E++(N++aQ)):=Tr.pmE [[F],[i],[e],[T],[s],[d],E,N,aQ] 0x1490200138c06008050100001cc00a809020052006200000
def auP{α:Type}{F s i d e T:α}{E N aQ:!α}:((([e,T,F,s,i,d]++[])++[])++(E++(N++aQ))).Perm<|([F,s,i,d]++(E++(N++(aQ++[]))))++[e,T]:=Tr.pmE [[e],[T],[F],[s],[i],[d],E,N,aQ] 0x1880150120400e6014040000a48100084e60140400c0200000
noncomputable def bt:!En->Option (U×!En)
 |[]=>As
 |e::r=>match e.nd.sc[e.j]? with
  |some x=>Y (x,{e with j:=e.j+1}::r)
  |none=>bt r
def rj(st:!En):!En:=match bt st with
 |some p=>p.2
 |none=>[]
def wD(k:U)(st:!En):U:=match bt st with
 |some p=>p.1
 |none=>k
def wF(st:!En):EE:=.au (match bt st with
 |some _=>.next
 |none=>.brk)
def fQ e r:dY (e::r)=dY r++[.str e.nd.k]:=by delta dY;rw[ET,AE];rfl
def eL e r:fw (e::r)=fw r++[rf e.mw]:=by delta fw;rw[ET,AE];rfl
def jB st:(dY st).length=st.length:=by delta dY;rw[Ap,Er]
def ace st:(fw st).length=st.length:=by delta fw;rw[Ap,Er]
def abd:∀st:!En,(bD st).length=st.length:=by
 cases _ with
 |nil=>rw[rfl]
 |cons e r i=>show(bD r++[_]).length=_;rw[Ay,i];rfl
def df{aa:!Nd}(h:v∈aa)(m:q∈bj v):q∈aa.flatMap bj:=DJ.mpr ⟨v,h,m⟩
def aaA:∀{st:!En},q∈bD st->q.1∈st.map (·.nd.k):=by
 cases _ with
 |nil=>intro h;rw[nomatch h]
 |cons e r i=>
  intro h;rcases AB.mp h with h|h
  .rw[.tail _<|i h]
  .rw[Au.mp h,];rw[aE]
theorem abe:∀{l:DL},(∀q∈l,q.1≠k)->nM (l++[(k,v)]) k=l
 |[],_=>Z0<|ZY k
 |(y,u)::l,h=>by show(if y==k then l++[(k,v)]else(y,u)::nM (l++[(k,v)]) k)=_;rw[Z7 λe=>h _ aE<|BX e,abe λq H=>h q<|.tail _ H]
theorem acf:∀{l:DL},(cU (l++[(k,v)]) k).isSome=J
 |[]=>by show(if k==k then Y v else As).isSome=J;rw[Z0<|ZY k,];rfl
 |(y,u)::l=>by
  show(if y==k then Y u else cU (l++[(k,v)]) k).isSome=J;split
  .rfl
  .rw[acf]
variable[hI:jf]
def oc(f:Fc)(F:Nat)(st:!En)(k:U)(s0:List<|Option SV)(aa:!Nd)(XR:Rd):X:={ec:=.am<|kg F,hd:=dz,ai:=460,fr:=[bC F],pre:=[(-F,aI (mn f k) s0),(-f.sl,.seq Lt<|dY st),(-f.il,.seq Lt<|fw st),(-f.d,aM<|bD st)],aj:=[st.flatMap dx,aa.flatMap bj,XR],ab:=λQ=>wF st,post:=λy=>[aI (mn f<|wD k st) y.u.x.sl,.seq Lt<|dY<|rj st,.seq Lt<|fw<|rj st,aM<|bD<|rj st],af:=λQ=>[(rj st).flatMap dx,aa.flatMap bj,XR]}
section
variable{f:Fc}
def pl st (hl:st.length<1000):(wC f.sl (dY st) st.length).Holds w:=by let z:=hJ w (-f.sl) (dY st) dz (by rw[jB,];rw[alV hl]);rw[jB]at z;rw[bp z]
def ae5:(zt f.il (fw<|e::r)<|rf e.mw).Holds w:=bp (abZ w _ _ _ _ (by
 rw[eL,]
 rw[Hl]))
def arS(hz:e.nd.sc[e.j]?=As)(m:e.nd∈aa)(x:tN XR)(s0:List<|Option SV):(wE f F k s0 (fw<|e::r) e r aa XR).aw ain w<|Y l:=
 X.av (F:=900) (nt:=(arP f F k s0 (fw<|Bc e r) e r aa XR)) (by
  let⟨p⟩:=hI
  induction p<;>rw[aF]) rfl λV V=>pU rfl ae5 λV V=>pO rfl aE (pU rfl (by
    let(P,Q,b):=BS (df m iW);let n:(aG e.nd.sc)[e.j]?=As:=by delta aG;rw[AG,hz];rfl
    refine_lift let C:AL×SO:=(-e.mw,qT e.it);?_;rw[X.permJ (C::(r.flatMap dx++(P++Q))) (rZ (R:=(-e.nd.sa,.seq Lt<|aG e.nd.sc)::XR) (agz w (-e.it) (-e.nd.sa) Lt _ e.j n) (λV hz=>hz) λhz d nd=>⟨d _ ce,λa H=>?_,λa H q=>?_⟩) rfl rfl (AA _) (.inl rfl) ?_ λy V V V=>⟨y,[C,(-e.it,kZ "list_iterator" .none e.j)],rfl,rfl,rfl,?_,trivial⟩]
    .let(c,i,h,j):=x a H;rw[(c,i,d _<|.tail _<|.tail _ h,j)]
    .let(c,i,h,j):=x a H;rw[(AC.mp nd).1 (AM.mpr ⟨_,.tail _ h,q⟩)]
    .show Jc _ ([]++(_++(aa.flatMap bj++_)));rw[b,];rw[auJ]
    .show Jc (([_]++(_++(aa.flatMap bj++_)))++_) _;rw[b,]
     rw[auK]) λV V=>pF rfl ⟨⟨rfl,rfl⟩,trivial⟩)
def aiF(hX:tN XR):∀(st:!En),(∀e∈st,e.nd∈aa)->(st.map (·.nd.k)).Nodup->st.length<1000->∀s0,(oc f F st k s0 aa XR).aq w [bC F] (Y l):=by
 cases _ with
 |nil=>intro _ _ _ s0;rw[X.aB (C:=oc f F [] k s0 aa XR) (aF:aR w (wX f F k k s0 (dY []) (fw []) (bD []) [] [] (aa.flatMap bj) XR .brk) 900<|arM f F k s0 (dY []) (fw []) (bD []) [] (aa.flatMap bj) XR) rfl λ_ _=>pU rfl (bp<|hJ w _ _ _ (by decide)) λ_ _=>pF rfl Z9]
 |cons e r ih=>
  intro G L m s0;cases b:e.nd.sc[e.j]? with
  |none=>rw[(by
    let eb:bt (e::r)=bt r:=by show(match e.nd.sc[e.j]? with|some x=>Y (x,{e with j:=e.j+1}::r)|none=>bt r)=_;rw[b,]
    rw[X.am (d:=kg F) rfl λA s nd=>?_]
    let I:=nd.ai;let N:=(aK.of nd).perm auM
    rw[ac1 (c:=kg F) rfl rfl
     (R1:=λi=>∃ji,aK (oc f F (e::r) k s0 aa XR) (Y l) s i<|([(-F,aI (mn f k) ji),(-f.il,.seq Lt<|fw<|e::r)]++((e::r).flatMap dx++(aa.flatMap bj++(XR++[]))))++[(-f.sl,.seq Lt<|dY<|e::r),(-f.d,aM<|bD<|e::r)])
     (R2:=λv V=>dK λji i=>aK (oc f F (e::r) k s0 aa XR) (Y l) s i (([(-F,aI (mn f k) ji),(-f.il,.seq Lt<|fw<|e::r)]++((e::r).flatMap dx++(aa.flatMap bj++(XR++[]))))++[(-f.sl,.seq Lt<|dY<|e::r),(-f.d,aM<|bD<|e::r)])/\(wE f F k ji (fw<|e::r) e r aa XR).ax (Y l) i (.error v) V)
     (R3:=λE=>∃(y z:aW),aK (oc f F (e::r) k s0 aa XR) (Y l) s E<|(((wH f F k y.u.x (dY<|e::r) (dY r) (fw<|e::r) (fw r) (bD<|e::r)<|bD r).led z++((wH f F k y.u.x (dY<|e::r) (dY r) (fw<|e::r) (fw r) (bD<|e::r)<|bD r).af z).flatten))++(r.flatMap dx++(aa.flatMap bj++XR))) ?_ (?_) (?_) λE ⟨y,n,M⟩=>?_]
    .let H:(wT f F k s0<|dY<|e::r).aw aim w<|Y l:=X.av (F:=900) (nt:=(arO f F k s0 (dY<|Bc e r) r.length)) aF rfl λ_ _=>pU rfl (pl (e::r) m) λ_ _=>pF rfl Z9
     rw[aK.gn H nd (aK.need nd N rfl nd.hd nd.fs I<|.inl rfl) N λr s' y er _ M=>?_]
     rw[(ch er,y.u.x.sl,M.perm auN)]
    .rintro i ⟨ji,M⟩;rw[(arS b (G e aE) hX ji).use (aK.need nd M rfl nd.hd nd.fs I<|.inl rfl) λr s' g1=>?_]
     let(_,_,y,P):=id g1;let er:=P.ab;obtain rfl:=oY er;rw[(_,rfl,ji,i,M,g1)]
    .rintro v V ⟨ji,i,M,g2⟩
     rw[BN (agF (R:=wU f F (fw<|e::r) e r aa XR) nd (show 0<=1 by decide) (nd.fs l rfl) (λ_ _=>⟨rfl,rfl,rfl,rfl,rfl,id⟩) rfl (by
       show(bd [25,8]).kind≠.module
       decide+kernel) M (show 451<=460 by decide) g2 (λ_=>r.flatMap dx++(aa.flatMap bj++XR)) (λy=>wH f F k y.u.x (dY<|e::r) (dY r) (fw<|e::r) (fw r) (bD<|e::r)<|bD r) (λy=>X.ap (F:=900) (nt:=(arQ F y.u.x)) aF rfl λ_ _=>pF rfl Z9) (λy _=>((by
       let hk:e.nd.k∉r.map (·.nd.k):=(AC.mp L).1;let D:=ajJ w (Y<|.ref<| -y.u.x.e) (-f.d) (bD<|e::r) e.nd.k acf (by rw[abd,];rw[at5 m]);rw[show nM (bD<|e::r) e.nd.k=bD r from abe λq hq h=>hk (h▸aaA hq)]at D
       rw[X.ap (F:=900) (nt:=(arR f F k e.nd.k y.u.x (dY<|Bc e r) (dY r) (fw<|Bc e r) (fw r) (bD<|Bc e r) (bD r) e.mw)) aF rfl λ_ _=>pX rfl λ_=>pU rfl (gQ<|aef w _ _ _ _ _ (fQ e r) (by rw[jB,];rw[rA m])) λ_ _=>pU rfl (gQ D) λ_ _=>pU rfl (gQ<|aef w _ _ _ _ _ (eL e r) (by rw[ace,];rw[rA m])) λ_ _=>pF rfl Z9]):(wH f F k y.u.x (dY<|e::r) (dY r) (fw<|e::r) (fw r) (bD<|e::r)<|bD r).Holds w).at _ _) (λ_=>rfl) (λ_=>rfl) (λ_=>rfl) (λ_=>rfl) (λ_ _=>rfl) λy _ _ _=>auO) (λ_ s3 z=>BN z (λ_ E z=>BN z (λf s5 z=>?_) λ_ _ h=>h) λ_ _ h=>h) λ_ _ h=>h]
     let(rfl,y,z,_,_,M):=z;rw[(rfl,y,z,M)]
    .let M:=M.perm auP;rw[BK ((ih (λe he=>G e<|.tail _ he) (AC.mp L).2 (IU m)) n.u.x.sl A _ E<|aK.need nd M rfl nd.hd nd.fs I<|.inl rfl) λrr s5 g5=>?_]
     let(B,er,_,_,_,M5):=aK.run nd M g5;rw[aK.fin nd M5 (y:=B) (Jq9:=[(-y.u.x.e,.fld (.type "StopIteration")<|n.l 0),(-y.u.x.T,.fld Tb<|n.l 1)]) (.of_eq ?_) ?_ rfl rfl Z9]
     .let e1:(oc f F (e::r) k s0 aa XR).led B=(oc f F r k n.u.x.sl aa XR).led B:=by delta X.led oc rj wD;rw[eb,];rfl
      let e2:(oc f F (e::r) k s0 aa XR).af B=(oc f F r k n.u.x.sl aa XR).af B:=by delta oc rj;rw[eb,]
      rw[e1,e2]
     .rw[er,];delta oc wF
      rw[eb,])]
  |some z=>rw[(by
    let eb:bt (e::r)=Y (z,{e with j:=e.j+1}::r):=by unfold bt;rw[b,]
    let ee:oc f F (e::r) k s0 aa XR=wX f F k z s0 (dY<|e::r) (fw<|e::r) (bD<|e::r) ((e::r).flatMap dx) (({e with j:=e.j+1}::r).flatMap dx) (aa.flatMap bj) XR .next:=by delta oc rj wD wF;rw[eb,];dsimp only;rw[fQ,eL,fQ,eL];rfl
    rw[ee,]
    rw[X.aB (F:=900) (nt:=(arN f F k z s0 (dY<|Bc e r) (fw<|Bc e r) (bD<|Bc e r) e r aa XR r.length)) aF rfl λ_ _=>pX rfl λ_=>pU rfl (pl (e::r) m) λ_ _=>pU rfl ae5 λ_ _=>pO rfl aE (pU rfl (by
      let(P,Q,pq):=BS (df (G e aE) iW);let hx:(aG e.nd.sc)[e.j]?=Y (.str z):=by delta aG;rw[AG,b];rfl
      rw[X.perm ((-e.mw,qT e.it)::(r.flatMap dx++(P++Q))) (rZ (R:=[(-e.nd.sa,.seq Lt<|aG e.nd.sc)]) (agP w (-e.it) (-e.nd.sa) Lt _ e.j _ hx) (λ_ b=>b) λb hs _=>hs _ ce) rfl rfl (AA _) (.inl rfl) ?_ λy _ _ _=>⟨y,rfl,rfl,rfl,?_,trivial⟩]
      .show Jc _ ([]++(_++(aa.flatMap bj++[])));rw[pq,];rw[auH]
      .show Jc ([]++(_++(aa.flatMap bj++[]))) _;rw[pq,]
       rw[auI]) λ_ _=>pF rfl Z9)])]
end
end
section
open PySem.Builtin
noncomputable def auQ(es:Array<|Int×AF)(ep:Nat)(d:SetTable):Obj:={cls:=.type "set",dict:=As,data:=.set es ep d,slots:=#[]}
structure Ze where
 es:Array<|Int×AF
 ep:Nat
 tb:SetTable
def Ze.o(z:Ze):Obj:=auQ z.es z.ep z.tb
def Ze.R(z:Ze)(a:Nat):Rd:=[(-a,.am z.o)]
def si(w:AW)(a:Nat)(ks:!U)(R:Rd):Prop:=∃z:Ze,R=z.R a/\gO w ks z.o
variable[hI:jf]
def liB(v:Nd)(E:Rd)(aa:!Nd):X:={ec:=.bi "iter" [rf v.sa] [],hd:=dz,ai:=450,aj:=[E,aa.flatMap bj],ab:=λy=>.ok<|rf<|y.n 0,af:=λy=>[(-y.n 0,vh v.sa 0)::E,aa.flatMap bj]}
def gaB(it b:Nat)(E:Rd):X:={ec:=.bi "object.__getattribute__" [rf it,sS "__next__"] [],hd:=dz,ai:=450,aj:=[(-it,vh b 0)::E],ab:=λy=>.ok<|rf<|y.n 0,af:=λy=>[(-y.n 0,qT it)::(-it,vh b 0)::E]}
def zu(a:Nat)(z:Ze)(k:U)(b:Bool):X:={ec:=.bi "set.__contains__" [.ref<| -a,.str k] [],hd:=dz,ai:=400,aj:=[z.R a],ab:=λQ=>.ok<|.bool b,af:=λQ=>[z.R a]}
def saN(w:AW)(a:Nat)(z:Ze)(ks:!U)(k:U):X:={ec:=.bi "set.add" [.ref<| -a,.str k] [],hd:=dz,ai:=400,aj:=[z.R a],ab:=λQ=>.ok .none,af:=λy=>[y.r 0],pure:=λy=>si w a (k::ks)<|y.r 0}
def dcJ(a:Nat)(k:U)(dl:DL)(c:Bool):X:=hM dz "dict.__contains__" [.ref<| -a,.str k] (-a) (aM dl)<|.ok<|.bool c
def dgJ(a:Nat)(k:U)(dl:DL)(v:SV):X:=hM dz "dict.__getitem__" [.ref<| -a,.str k] (-a) (aM dl)<|.ok v
def dgB(a:Nat)(k:U)(dl:DL)(ej:Nat)(v:SV):X:={ec:=.bi "dict.__getitem__" [.ref<| -a,.str k] [],hd:=dz,ai:=400,aj:=[[(-a,dct dl ej)]],ab:=λQ=>.ok v,af:=λQ=>[[(-a,dct dl ej)]]}
def dsJ(a:Nat)(k:U)(dl d:DL)(v:SV):X:=hN dz "dict.__setitem__" [.ref<| -a,.str k,v] (-a) (aM dl) (aM d)<|.ok .none
def apJ(a:Nat)(xs:!SV)(v:SV):X:=hN dz "list.append" [.ref<| -a,v] (-a) (.seq Lt xs) (.seq Lt<|xs++[v])<|.ok .none
noncomputable def xU:Option Int->SV
 |none=>.none
 |some i=>.int i
def xV(lo H:Option Int):SO:=.fld (.type "slice") [xU lo,xU H,.none]
def lsK(l sl:AL)(xs:!SV)(lo H:Option Int)(d:!SV):X:={ec:=.bi "list.__getitem__" [.ref l,.ref sl] [],hd:=dz,ai:=400,pre:=[(l,.seq Lt xs),(sl,xV lo H)],ab:=λy=>.ok<|.ref<|nu y 0,post:=λQ=>[.seq Lt xs,xV lo H],ao:=λy=>[nu y 0],al:=λQ=>[.seq Lt d]}
def laK(a b:AL)(xs ys:!SV):X:={ec:=.bi "list.__add__" [.ref a,.ref b] [],hd:=dz,ai:=400,pre:=[(a,.seq Lt xs),(b,.seq Lt ys)],ab:=λy=>.ok<|.ref<|nu y 0,post:=λQ=>[.seq Lt xs,.seq Lt ys],ao:=λy=>[nu y 0],al:=λQ=>[.seq Lt<|xs++ys]}
def wG(f:Fc)(F:Nat)(k e:U)(s0:List<|Option SV)(vs M:!SV)(dl:DL)(st b:!En)(aa:!Nd)(XR:Rd)(fl:KW):X:={ec:=.am<|kg F,hd:=dz,ai:=460,fr:=[bC F],pre:=[(-F,aI (mn f k) s0),(-f.sl,.seq Lt vs),(-f.il,.seq Lt M),(-f.d,aM dl)],aj:=[st.flatMap dx,aa.flatMap bj,XR],ab:=λQ=>.au fl,post:=λy=>[aI (mn f e) y.u.x.sl,.seq Lt<|dY b,.seq Lt<|fw b,aM<|bD b],af:=λQ=>[b.flatMap dx,aa.flatMap bj,XR]}
def vtR(r:Option<|!U)(y:aW):EE:=match r with
 |some _=>.ok<|rf<|y.n 0
 |none=>.au .next
noncomputable def zv(r:Option<|!U)(y:aW):!AL:=match r with
 |some _=>[-y.n 0]
 |none=>[]
def xW(r:Option<|!U)(_:aW):!SO:=match r with
 |some q=>[.seq Lt<|aG q]
 |none=>[]
def rm(w:AW)(f:Fc)(F:Nat)(st:!En)(k:U)(s0:List<|Option SV)(S:Rd)(r:Option<|!U)(b:!U)(aa:!Nd)(XR:Rd)(ej:Nat):X:={ec:=.am<|akO F,hd:=dz,ai:=470,fr:=[bC F],pre:=[(-F,aI (mn f k) s0),(-f.sl,.seq Lt<|dY st),(-f.il,.seq Lt<|fw st),(-f.d,aM<|bD st)],aj:=[st.flatMap dx,aa.flatMap bj,XR,S,[(-f.nd,dct (aT aa) ej)]],ab:=vtR r,post:=λy=>[aI (y.u.fs 0) y.u.x.sl,.seq Lt<|y.l 0,.seq Lt<|y.l 1,aM<|y.d 0],ao:=zv r,al:=xW r,af:=λy=>[y.r 1,aa.flatMap bj,XR,y.r 0,[(-f.nd,dct (aT aa) ej)]],pure:=λy=>r=As->A6 (∃e,y.u.fs 0=mn f e) (y.l 0=[]) (y.l 1=[]) (y.d 0=[]) (y.r 1=[]) (si w f.ss b<|y.r 0)}
def yV(f:Fc)(k:U)(vs M:!SV)(dl:DL)(S E:Rd)(n:Nat)(sl:List<|Option SV):aW:={y0 with
 l:=λi=>(match i with
  |0=>vs
  |_=>M)
 d:=λQ=>dl
 r:=λi=>(match i with
  |0=>S
  |_=>E)
 n:=λQ=>n
 u:={y0.u with fs:=λQ=>mn f k,x:={sl:=sl}}}
noncomputable abbrev sj:!Bool:=[J,J,J,J]
noncomputable abbrev zw:List<|!Bi:=[[.b 0],[.b 1],[.b 2],[.b 3],[.b 4]]
section
variable(w:AW)(f:Fc)(F:Nat)(k k':U)(s0:!(Option SV))(st st':!En)(z:Ze)(r:Option !U)(ks ks':!U)(aa:!Nd)(XR:Rd)(ej:Nat)
def vS(b:Bool)(nx:aQ->Nt):Nt:=.ob [[0,1,1],[],[]] (-f.ss) (.am z.o)<|.v [] (zu f.ss z k b) [] [[3]] nx
def vC(b:Bool)(nx:aQ->Nt):Nt:=.v [1,1,4,4,4] (dcJ f.d k (bD st) b) [3] [] nx
noncomputable def vI(r:Option<|!U):!Nat:=match r with
 |some _=>[0,1,2,3,4]
 |none=>[0,1,2,3]
def vB(r:Option<|!U):!Bool:=match r with
 |some _=>J::sj
 |none=>sj
def vA(D:X)(st':!En)(S:Rd):Nt:=.use [] D (Y [bC F]) [0,1,2,3] sj [[0],[1],[2]] [] λx=>.use [] (rm w f F st' k' x.y.u.x.sl S r ks' aa XR ej) (Y [bC F]) [0,1,2,3] sj [[0],[1],[2],[3],[4]] [] λx=>.f [] (vI r) (vB r) zw x.y
def vZ(D:X)(S:Rd):Nt:=.use [] D (Y [bC F]) [0,1,2,3] sj [[0],[1],[2]] [] λx=>.f [] [0,1,2,3] sj zw<|yV f k [] [] [] S [] 0 x.y.u.x.sl
def auR(i:Nat)(d:!SV):Nt:=vS f k z J λQ=>vC f k st J λQ=>.v [1,1,1,4,4,4,4] (dgJ f.d k (bD st)<|.int i) [3] [] λb=>.u [2,2,2,2] (lsK (-f.sl) (-b.t 1) (dY st) (Y i) As d) [1,4] [J,O] [] λx=>
 .u [1,6,7,6,6] (laK (nu x.y 0) (-x.t 1) d [.str k]) [5,6] [J,O] [] λj=>.g [] [0,1,2,3,7] zw<|yV f k (dY st) (fw st) (bD st) (z.R f.ss) (st.flatMap dx) (j.y.n 0) s0
def agQ i d q:aR w {rm w f F st k s0 (z.R f.ss) (Y q) ks' aa XR ej with al:=λQ=>[.seq Lt<|d++[.str k]]} 900 λQ Q=>auR f k s0 st z i d:=aF
def agR:aR w (rm w f F st k s0 (z.R f.ss) As ks' aa XR ej) 900 λQ Q=>vS f k z J λQ=>vC f k st O λQ=>vZ f F k (wG f F k k s0 (dY st) (fw st) (bD st) st [] aa XR .brk) (z.R f.ss):=aF
def vP(v:Nd)(n:Nat)(d:DL)(nx:Nat->Nat->Rd->Nt):Nt:=vS f k z O λQ=>.ob [[1],[],[],[],[1]] (-f.ss) (.am z.o) (.v [] (saN w f.ss z ks k) [] [[3]] λb=>.ob [[1,3,3,3,3,0,0,1,1],[],[],[]] (-f.nd) (dct (aT aa) ej) (.v [] (dgB f.nd k (aT aa) ej<|rf v.ia) [] [[4]] λQ=>
 .ob [[],[0,0,0,0],[0,0,0,0,0,0,0,0,0,0,0,0],[0,0,0,0,0,0],[0]] (-v.ia) (cq v) (.v [0] (liB v (st.flatMap dx) aa) [] [[0],[1]] λx=>.ob [[],[]] (-x.y.n 0) (vh v.sa 0) (.v [] (gaB (x.y.n 0) v.sa<|st.flatMap dx) [] [[0]] λj=>
 .v [0,3] (apJ f.il (fw st)<|rf<|j.y.n 0) [2] [] λQ=>.v [0,0,1] (wC f.sl (dY st) n) [1] [] λQ=>.v [1,1,4,4,4] (dsJ f.d k (bD st) d<|.int n) [3] [] λQ=>.v [1,2,2,2,2,1,2] (apJ f.sl (dY st)<|.str k) [1] [] λQ=>nx (j.y.n 0) (x.y.n 0)<|b.y.r 0))))
def btP(v:Nd)(d:DL)(k':U)(st':!En)(fl:KW)(b it:Nat):X:=wG f F k k' s0 (dY st++[.str k]) (fw st++[rf b]) d (⟨v,b,it,0⟩::st) st' aa XR fl
def agS(v:Nd)(n:Nat)(d:DL)(st':Nat->Nat->!En):aR w (rm w f F st k s0 (z.R f.ss) r ks' aa XR ej) 900 λQ Q=>vP w f k st z ks aa ej v n d λb it S=>vA w f F k' r ks' aa XR ej (btP f F k s0 st aa XR v d k' (st' b it) .next b it) (st' b it) S:=by induction r<;>rw[aF]
def agT v n d:aR w (rm w f F st k s0 (z.R f.ss) As ks' aa XR ej) 900 λQ Q=>vP w f k st z ks aa ej v n d λb it S=>vZ f F k (btP f F k s0 st aa XR v d k [] .brk b it) S:=aF
end
end
section
open PySem.Builtin
def aiG(h:aC v=xU o):LJ v o:=by
 let(t,rfl):=bA h;clear h;cases o with
 |none=>rw[.none]
 |some i=>rw[.int i t]
def lsC(hd:Option AF)(l sl:AL)(xs:!SV)(lo H:Option Int)(d:!SV):Ct:=⟨.bi "list.__getitem__" [.ref l,.ref sl] [],hd,400,[(l,.seq Lt xs),(sl,xV lo H)],1,λy=>.ok<|.ref<|nu y 0,λQ=>[.seq Lt xs,xV lo H],λQ=>[.seq Lt d],hG,λQ=>True,λQ Q Q=>True⟩
def ae6(hd:Option AF)(w:AW)(l sl:AL)(xs:!SV)(lo H:Option Int)(j:!SV)(hl:xs.length<2^20)(hz:∀I:Array AF,I.toList.map aC=xs->(slicePick I lo H As).toList.map aC=j):(lsC hd l sl xs lo H j).Holds w:=by
 intro A c s ec L hd St k nd af M;let(_,rfl):=aS ec;let(I,n,C,x):=cp<|k _ aE;let(u,h):=bZ<|k _ ce;let E:LJ ((xU H).val<|u 1) H:=aiG<|gJ _ _;let G:LJ .none As:=.none;let b:s.TypeIs (.ref sl) "slice":=⟨_,h,rfl⟩;let B:=St.big
 let r:I.size<=AO:=by
  let e:I.size=xs.length:=by rw[<-x,Ap];rfl
  have:AO=2^24:=rfl;rw[to hl e]
 rw[AZ (id:="list.__getitem__") Fk ?_];rw[Bx (by decide+kernel:C8 "list.__getitem__"=J),];show A0 _ _ (Ee (.ref sl)>>=_) _ _ s;rw[Al ?_];rw[Al<|wpAny_specialOf b slice_no_index ?_];rw[Aw ?_];rw[Al<|IV b ?_];rw[Z7 (by decide),];rw[listSliceParts_eq,];rw[Al<|Al<|Bf h rfl (i:=2) rfl<|Al<|Hm G ?_];rw[Z7 (show¬((rawPart As==Co 0)=J)from A9),];rw[Al<|Bf h rfl (i:=0) rfl<|Al<|Hm (aiG<|gJ _ _) ?_];rw[Al<|Bf h rfl (i:=1) rfl<|Al<|Hm E<|Aw ?_];rw[Al (m:=EO<|.ref l) ?_];rw[Al<|DQ C rfl<|Aw ?_];rw[Al<|wpAny_of_eq (sliceIndices_raw lo H As I.size (by decide)) ?_];rw[Al<|Db (Aw ?_)<|Ax (slicePick_size_le I lo H As) r];let d:=Bo B;rw[fI (so:=.seq Lt j) (y:=yA [s.heap.objs.size-902]) d (Z8 (λa=>EE.ok<|.ref a) d.symm) k rfl rfl rfl rfl (Z8 (SO.seq Lt)<|hz I x) rfl Z9]
def mr{z:Ze}{h:CF}(H:HS h<|z.R a++R):h.get? (-a)=Y z.o:=by let(o,g,e):=H _ aE;rw[show o=z.o from e]at g;rw[g]
variable[hI:jf]
def ae7(w:AW)(a:Nat)(z:Ze)(ks:!U)(k:U)(b:Bool)(hz:gO w ks z.o)(H:decide (k∈ks)=b)(hl:ks.length<=100):(zu a z k b).Holds w:=
 rZ (R:=z.R a) ((by
   subst H;intro A c s ec C d St _ _ _ j;let(t,rfl):=aS ec;show Be _ _ (.builtin "set.__contains__" ⟨[.ref<| -a,.str k<|t 1],[]⟩) _ _;let(o,i,n,l,x):=j;let x:=x.setOf i (AV (Ax l hl) (by decide));rw[AZ (id:="set.__contains__") entry_set_contains ?_];delta Builtin.«frozenset.__contains__» FP;simp only[Jd,K0];delta Gj Je setContains;rw[Al (Aw ?_)];try dsimp only
   rw[Al (Aw ?_)];try dsimp only
   rw[Al (wpAny_tryCatch ?_)];rw[BP ?_];rw[Al ((strKind PW w).pyHash (k:=k) (show(Value.str k<|t 1).isStrOf k=J from by simp[Ey]) ?_)];rw[Al (wpAny_setFind_of (s:={s with toks:=s.toks+1}) (k:=k) (show(Value.str k<|t 1).isStrOf k=J from by simp[Ey]) rfl x λr m=>?_)];rw[Aw ?_];rw[m,]
   rw[Aw ⟨⟨λQ Q e Q=>e,AA _,rfl,rfl,rfl⟩,jt rfl trivial⟩]):(aur dz w (-a) ks k b).Holds w) (λQ h=>h) λh B Q=>⟨_,mr (R:=[]) B,hz⟩
theorem akP(w:AW)(a:Nat)(z:Ze)(ks:!U)(k:U)(hz:gO w ks z.o)(hk:k∉ks)(hl:ks.length<=100):(saN w a z ks k).Holds w:=by
 rw[X.of_ct ((by
   intro A c s ec hA hdp St _ _ _ hp;let(t,rfl):=aS ec;show Be _ _ (.builtin "set.add" ⟨[.ref<| -a,.str k<|t 1],[]⟩) _ _;let(o,ho,n,j,x):=hp;let l:n+1<scanBound:=AV (Fo (Ax j hl) 1) (by decide);let x:=x.setOf ho (AV (Ax j hl) (by decide));rw[AZ (id:="set.add") F.entry_set_add ?_];delta Builtin.«set.add» FP;simp only[Jd,K0];delta Gj LH;rw[Al (Aw ?_)];try dsimp only
   rw[Al (Aw ?_)];try dsimp only
   rw[Al ?_];rw[BP ?_];rw[Al ((strKind PW w).pyHash (k:=k) (show(Value.str k<|t 1).isStrOf k=J from by simp[Ey]) ?_)];rw[G0 (s:={s with toks:=s.toks+1}) (k:=k) (show(Value.str k<|t 1).isStrOf k=J from by simp[Ey]) rfl x l λh' H B=>?_]
   let(I,g',z):=B.objOf;let e:=ZU hk;rw[e]at z;rw[Aw ⟨⟨λb o e q=>(H.2 b λe=>q<|.inr e).trans e,AY H.1.symm,rfl,rfl,rfl⟩,jt rfl ⟨I,g',n+1,BY j,?_⟩⟩];let ef:(λi=>decide (i∈ks)||decide (i=k))=λi=>decide<|i∈k::ks:=by funext i;rw[Jv,];simp only[D7,ZV,Ar];rw[(λh=>h.symm,λh=>h.symm)]
   rw[ef]at z
   rw[z]):(aus dz w (-a) ks k).Holds w) rfl rfl (AA _) (λb C=>C.elim (λm=>nomatch m) λe=>.inr (by rw[show b=-a from e,];rw[aE])) (λh G _=>⟨(λ_ h=>nomatch h),AS,_,mr G,hz⟩) λs r s' y G nd kp P=>?_]
 let(I,g,L):=P.ext
 let(E,rfl):=((by
   let(n,_,hex,es,ep,t,M,_):=L;let(c,d,da,sl):=I;let(N,Q,V):=hex;dsimp only at N Q V M;clear g;subst N Q V M
   rw[(⟨es,ep,t⟩,rfl)]):∃z:Ze,I=z.o)
 rw[({y0 with r:=λ_=>E.R a},P.ab,rfl,rfl,λq hq=>?_,AC.mpr ⟨BF,AS⟩,(λ_ h=>nomatch h),λb C=>?_,E,rfl,L)]
 .cases Au.mp (show q∈[(-a,SO.am E.o)]from hq);rw[(_,g,rfl)]
 .clear g;cases Au.mp (show b∈[-a]from C);rw[.inl<|.inr aE]
def akQ(w:AW)(l sl:AL)(xs:!SV)(i:Nat)(hl:xs.length<2^20):(lsK l sl xs (Y i) As<|xs.drop i).Holds w:=
 dX (ae6 dz w l sl xs _ _ (xs.drop i) hl λI e=>by rw[slicePick_from',FD,Ia,e]) (λQ h=>h) λQ=>Z9
def akR(w:AW)(a b:AL)(xs ys:!SV)(hl:xs.length+ys.length<=AO):(laK a b xs ys).Holds w:=dX (r5 dz w a b xs ys hl) (λQ h=>h) λQ=>Z9
end
section
open PySem.Builtin
noncomputable def kh:!En->U->Option Nat
 |[],_=>As
 |e::r,k=>if e.nd.k==k then Y r.length else kh r k
theorem mu{k:U}:∀{st:!En},(st.map (·.nd.k)).Nodup->cU (bD st) k=(kh st k).map λi=>.int (i:Int)
 |[],_=>rfl
 |e::r,c=>by
  let(H,b):=AC.mp (show(e.nd.k::r.map (·.nd.k)).Nodup from c);let I:=mu (k:=k) b
  let app:∀{l:DL}{p:U×SV},cU (l++[p]) k=match cU l k with|some v=>Y v|none=>if p.1==k then Y p.2 else As:=by
   intro l p;cases l with
   |nil=>rfl
   |cons q l I=>
    show(if q.1==k then Y q.2 else cU (l++[p]) k)=match(if q.1==k then Y q.2 else cU l k)with|some v=>Y v|none=>_
    split
    .rfl
    .rw[I]
  show cU (bD r++[(e.nd.k,.int r.length)]) k=(if e.nd.k==k then Y r.length else kh r k).map _;rw[app,I];cases j:kh r k with
  |none=>show(if e.nd.k==k then _ else As)=_;split<;>rfl
  |some i=>
   let C:(e.nd.k==k)=O:=by
    rw[ZX λq=>H ?_]
    subst q
    have:∀{r:!En}{i:Nat},kh r e.nd.k=Y i->e.nd.k∈r.map (·.nd.k):=by
     intro r;cases r with
     |nil=>intro i h;cases h
     |cons a r I=>
      intro i h;unfold kh at h;split at h
      .rename_i q;rw[<-BX q];rw[aE]
      .rw[.tail _<|I h]
    rw[this j]
   rw[C,Z7 A9];rfl
structure Pe where
 k:U
 sc:!U
 j:Nat
noncomputable def En.pe(e:En):Pe:=⟨e.nd.k,e.nd.sc,e.j⟩
noncomputable def pp:!Pe->Option (U×!Pe)
 |[]=>As
 |e::r=>match e.sc[e.j]? with
  |some x=>Y (x,{e with j:=e.j+1}::r)
  |none=>pp r
noncomputable def jg:!Pe->U->Option Nat
 |[],_=>As
 |e::r,k=>if e.k==k then Y r.length else jg r k
def agU(k:U):∀st:!En,kh st k=jg (st.map En.pe) k:=by
 cases _ with
 |nil=>rw[rfl]
 |cons e r i=>
  show(if e.nd.k==k then Y r.length else kh r k)=if e.nd.k==k then Y (r.map En.pe).length else jg (r.map En.pe) k
  rw[Ap,i]
theorem sk:∀st:!En,pp (st.map En.pe)=(bt st).map λp=>(p.1,p.2.map En.pe)
 |[]=>rfl
 |e::r=>by
  show(match e.nd.sc[e.j]? with|some x=>Y (x,_)|none=>pp<|r.map En.pe)=CS _ (match e.nd.sc[e.j]? with|some x=>Y (x,_)|none=>bt r);cases e.nd.sc[e.j]? with
  |some x=>rfl
  |none=>rw[sk r]
noncomputable abbrev En.id3(e:En):Nd×Nat×Nat:=(e.nd,e.mw,e.it)
def ae8:∀{st:!En}{z:U}{b:!En},bt st=Y (z,b)->(b.map En.id3).Sublist (st.map En.id3):=by
 cases _ with
 |nil=>intro _ _ h;cases h
 |cons e r i=>
  intro z b h;let h:(match e.nd.sc[e.j]? with|some x=>Y (x,{e with j:=e.j+1}::r)|none=>bt r)=Y (z,b):=h;cases A:e.nd.sc[e.j]? with
  |some x=>rw[A]at h;cases h;rw[Le _]
  |none=>rw[A]at h;rw[(i h).cons _]
inductive VS(aa:!Nd):!Pe->!U->U->Option (!U)->!U->Prop where
 |ret {st ks k i}:k∈ks->jg st k=Y i->VS aa st ks k (Y ((st.reverse.map (·.k)).drop i++[k])) ks
 |skip {st ks k k' st' r ks'}:k∈ks->jg st k=As->pp st=Y (k',st')->VS aa st' ks k' r ks'->VS aa st ks k r ks'
 |skipE {st ks k}:k∈ks->jg st k=As->pp st=As->VS aa st ks k As ks
 |push {st ks k k' st' r ks' nd}:k∉ks->nd∈aa->nd.k=k->ks.length<90->pp (⟨k,nd.sc,0⟩::st)=Y (k',st')->VS aa st' (k::ks) k' r ks'->VS aa st ks k r ks'
 |pushE {st ks k nd}:k∉ks->nd∈aa->nd.k=k->ks.length<90->pp (⟨k,nd.sc,0⟩::st)=As->VS aa st ks k As (k::ks)
structure VI(aa:!Nd)(st:!En)(ks:!U):Prop where
 nd:(st.map (·.nd.k)).Nodup
 mem:∀e∈st,e.nd∈aa/\e.nd.k∈ks
 len:st.length<=ks.length
 ks:ks.length<=90
def VI.sub{aa:!Nd}{st b:!En}{ks:!U}(V:VI aa st ks)(h:(b.map En.id3).Sublist<|st.map En.id3):VI aa b ks:=by
 let e:∀st:!En,st.map (·.nd.k)=(st.map En.id3).map (·.1.k):=λst=>by rw[BW,];rfl
 rw[(?_,λx H=>?_,?_,V.ks)]
 .let z:=V.nd;rw[e]at z ⊢;rw[z.sublist<|h.map _]
 .let(y,B,q):=AM.mp<|h.subset<|Av (f:=En.id3) H;let q:y.nd=x.nd:=Z8 (·.1) q;rw[<-q];rw[V.mem y B]
 .let z:=h.length_le;rw[Ap,Ap]at z;rw[Ax z V.len]
def mv{aa:!Nd}{nd:Nd}(c:(aa.map (·.k)).Nodup)(m:nd∈aa):cU (aT aa) nd.k=Y (rf nd.ia):=by
 cases aa with
 |nil=>cases m
 |cons a t i=>
  let(H,h):=AC.mp (show(a.k::t.map (·.k)).Nodup from c);show(if a.k==nd.k then Y (rf a.ia)else cU (aT t) nd.k)=_;rcases Ar.mp m with rfl|m
  .rw[Z0<|ZY _,]
  .rw[Z7 λe=>H (by rw[BX e,];rw[Av m]),];rw[i h m]
section
variable{k k':U}{st st':!En}{aa:!Nd}{ks ks':!U}
def ki(V:VI aa st ks):(dY st).length<2^20:=by rw[jB,];rw[AV (Ax V.len V.ks) (by decide)]
def akS(st:!En):dY st=aG ((st.map En.pe).reverse.map (·.k)):=by delta dY aG;rw[<-Jf,BW,BW];rfl
def kj{st:!En}{b:!Pe}(e:st.map En.pe=b)(k:U):kh st k=jg b k:=by rw[agU,e]
def aal{st:!En}{d c:!Pe}{k':U}(e:st.map En.pe=d)(h:pp d=Y (k',c)):∃st',bt st=Y (k',st')/\st'.map En.pe=c:=by
 let z:=sk st;rw[e,h]at z;cases H:bt st with
 |none=>rw[H]at z;rw[nomatch z]
 |some q=>rw[H]at z;let(a,b):=q;let(rfl,rfl):=DV<|B3 z;rw[(_,rfl,rfl)]
def aam{st:!En}{b:!Pe}(e:st.map En.pe=b)(h:pp b=As):bt st=As:=by
 let z:=sk st;rw[e,h]at z;cases H:bt st with
 |none=>rfl
 |some q=>rw[H]at z;rw[nomatch z]
def VI.push{v:Nd}(V:VI aa st ks)(b:v.k∉ks)(i:v∈aa)(hl:ks.length<90)(M it j:Nat):VI aa (⟨v,M,it,j⟩::st)<|v.k::ks:=
 ⟨AC.mpr ⟨λm=>by
  let(e,h,q):=AM.mp m
  rw[b ((show e.nd.k=v.k from q)▸(V.mem e h).2)],V.nd⟩,λe h=>by
  rcases Ar.mp h with rfl|h
  .rw[(i,aE)]
  .rw[((V.mem e h).1,.tail _ (V.mem e h).2)],BY V.len,hl⟩
end
variable[hI:jf]
section
variable{w:AW}{f:Fc}{F:Nat}{l:!Env}{k k':U}{s0:!(Option SV)}{vs ms:!SV}{dl:DL}{st st':!En}{aa:!Nd}{XR:Rd}{z:Ze}{ks ks':!U}{r:Option !U}{ej:Nat}
def abf(b:vs=dY st)(E:ms=fw st)(c:dl=bD st)(h:bt st=Y (k',st'))(x:tN XR)(V:VI aa st ks):(wG f F k k' s0 vs ms dl st st' aa XR .next).aq w [bC F]<|Y l:=by subst b E c;let z:=aiF (w:=w) (f:=f) (F:=F) (l:=l) (k:=k) x st (λe H=>(V.mem e H).1) V.nd (AV (Ax V.len V.ks) (by decide)) s0;unfold oc rj wD wF at z;rw[h]at z;rw[z]
def abg(b:vs=dY st)(E:ms=fw st)(c:dl=bD st)(h:bt st=As)(x:tN XR)(V:VI aa st ks):(wG f F k k s0 vs ms dl st [] aa XR .brk).aq w [bC F]<|Y l:=by subst b E c;let z:=aiF (w:=w) (f:=f) (F:=F) (l:=l) (k:=k) x st (λe H=>(V.mem e H).1) V.nd (AV (Ax V.len V.ks) (by decide)) s0;unfold oc rj wD wF at z;rw[h]at z;rw[z]
def akT{a:Nat}{ej:Nat}{v:SV}(h:cU dl k=Y v):(dgB a k dl ej v).Holds w:=rZ (R:=[(-a,dct dl ej)]) (jw w dz _ _ k v h) (λQ h=>h) λh H Q=>by let(o,g,z):=H _ aE;rw[(o,g,(fq.mp z).so)]
def qo{C:X}{b:Bool}{nx:aQ->Nt}(hz:gO w ks z.o)(H:decide (k∈ks)=b)(hl:ks.length<=90){B j c d:Rd}(h:∀x,(nx x).Pure w (Y l) C [B,j,c,z.R f.ss,d]):(vS f k z b nx).Pure w (Y l) C [B,j,c,z.R f.ss,d]:=
 pO rfl (AT q9 aE) (pU rfl (ae7 w f.ss z ks k b hz H<|Ax hl (by decide)) λx Q=>h x)
def sq{C:X}{b:Bool}{nx:aQ->Nt}{B j c d e:Rd}(V:VI aa st ks)(H:(kh st k).isSome=b)(h:∀x,(nx x).Pure w (Y l) C [B,j,c,d,e]):(vC f k st b nx).Pure w (Y l) C [B,j,c,d,e]:=
 pU rfl (bp<|abX w dz _ _ k b (by rw[mu V.nd,<-H];cases kh st k<;>rfl)<|qQ _) λx Q=>h x
def aiH{C D:X}{S B j c:Rd}(H:D.aq w [bC F]<|Y l)(b:C.pure=(rm w f F st k s0 S r ks' aa XR ej).pure)(I:∀s0,(rm w f F st' k' s0 S r ks' aa XR ej).aq w [bC F] (Y l)):(vA w f F k' r ks' aa XR ej D st' S).Pure w (Y l) C [B,j,c,S,[(-f.nd,dct (aT aa) ej)]]:=
 ⟨trivial,H,λx Q=>⟨trivial,I _,λx h=>pF rfl (by rw[b,];rw[h])⟩⟩
def aiI{C D:X}{S B j c:Rd}(H:D.aq w [bC F]<|Y l)(h:si w f.ss ks' S)(b:C.pure=(rm w f F st k s0 S As ks' aa XR ej).pure):(vZ f F k D S).Pure w (Y l) C [B,j,c,S,[(-f.nd,dct (aT aa) ej)]]:=
 ⟨trivial,H,λx Q=>pF rfl (by rw[b,];rw[λQ=>⟨⟨k,rfl⟩,rfl,rfl,rfl,rfl,h⟩])⟩
def aiJ{C:X}{v:Nd}{nx:Nat->Nat->Rd->Nt}(V:VI aa st ks)(hz:gO w ks z.o)(b:v.k∉ks)(i:v∈aa)(c:(aa.map (·.k)).Nodup)(h:∀M it S,si w f.ss (v.k::ks) S->(nx M it S).Pure w (Y l) C [(⟨v,M,it,0⟩::st).flatMap dx,aa.flatMap bj,XR,S,[(-f.nd,dct (aT aa) ej)]]):(vP w f v.k st z ks aa ej v st.length (bD st++[(v.k,.int st.length)]) nx).Pure w (Y l) C [st.flatMap dx,aa.flatMap bj,XR,z.R f.ss,[(-f.nd,dct (aT aa) ej)]]:=by
 let n:v.k∉st.map (·.nd.k):=λm=>by let(e,j,q):=AM.mp m;rw[b (q▸(V.mem e j).2)]
 let H:=oM w dz (-f.d) (bD st) v.k (.int st.length) (by rw[abd,];rw[Ax V.len<|Ax V.ks (by decide)])
 rw[(iF (by
   rw[<-j5]
   have:∀{l:DL},(∀q∈l,q.1≠v.k)->cU l v.k=As:=by
    intro l;cases l with
    |nil=>rw[λQ=>rfl]
    |cons q l I=>intro n;show(if q.1==v.k then Y q.2 else cU l v.k)=As;rw[Z7 λe=>n q aE<|BX e,];rw[I λq d=>n q (.tail _ d)]
   rw[this λq d e=>n (e▸aaA d)]))]at H
 rw[qo hz (ZU b) V.ks λQ=>pO rfl (AT q9 aE)<|pU rfl (akP w f.ss z ks v.k hz b<|Ax V.ks (by decide)) λB x=>?_]
 show Nt.Pure _ _ _ _ [_,_,_,_,_];rw[pO rfl (AT vX aE)<|pU rfl (akT<|mv c i) λQ Q=>?_]
 show Nt.Pure _ _ _ _ [_,_,_,_,_];rw[pO rfl (AT ce<|df i aE)<|pU rfl (X.ap (F:=900) (nt:=λQ N=>.ob [[0],[],[]] (-v.sa) (.seq Lt<|aG v.sc)<|.g [0,1] [] [[.l 0,.b 0],[.b 1]]<|yA [N]) aF rfl λQ Q=>pO rfl (AT ce<|df i iW)<|pF rfl Z9) λA Q=>?_]
 show Nt.Pure _ _ _ _ [_,_,_,_,_];rw[pO rfl aE<|pU rfl (X.ap (F:=900) (nt:=λQ N=>.ob [[0],[],[],[0]] (-(A.y.n 0)) (vh v.sa 0)<|.g [] [] [[.l 0,.b 0]]<|yA [N]) aF rfl λQ Q=>pO rfl aE<|pF rfl Z9) λE Q=>?_]
 show Nt.Pure _ _ _ _ [_,_,_,_,_]
 rw[pU rfl (jz w dz _ _ _ (by
   rw[ace,]
   rw[AV (Ax V.len V.ks) (by decide)])) λQ Q=>pU rfl (pl st<|AV (Ax V.len V.ks) (by decide)) λQ Q=>pU rfl (gQ H) λQ Q=>pU rfl (jz w dz _ _ _<|ki V) λQ Q=>h _ _ _ x]
def aiK{b:!Pe}(G:tN XR)(j:(aa.map (·.k)).Nodup)(D:VS aa b ks k r ks'):∀(st:!En)(s0:List<|Option SV)(z:Ze),st.map En.pe=b->VI aa st ks->gO w ks z.o->(rm w f F st k s0 (z.R f.ss) r ks' aa XR ej).aq w [bC F] (Y l):=by
 cases D with
 |@ret b ks k i H n=>
  intro st s0 z e V A;let hp:=(kj e k).trans n;let en:xW (Y<|(b.reverse.map (·.k)).drop i++[k])=λ_=>[SO.seq Lt<|(dY st).drop i++[.str k]]:=funext λ_=>by show[SO.seq Lt<|aG _]=_;rw[l7,akS,e];delta aG;rw[Ia,];rfl
  let q:=X.aB (C:={rm w f F st k s0 (z.R f.ss) (Y<|(b.reverse.map (·.k)).drop i++[k]) ks aa XR ej with al:=λ_=>[SO.seq Lt<|(dY st).drop i++[.str k]]}) (l:=l) (agQ w f F k s0 st z ks aa XR ej i ((dY st).drop i) _) rfl λ_ _=>qo A (ZT H) V.ks λ_=>sq V (by rw[hp,];rfl) λ_=>pU rfl (bp<|jw w dz _ _ k (.int i) (by rw[mu V.nd,hp];rfl)) λ_ _=>pU rfl (akQ w _ _ _ i<|ki V) λ_ _=>pU rfl (akR w _ _ _ _ (by
   have:=ki V;have:AO=2^24:=rfl;rw[List.length_drop,]
   rw[at6 (by assumption)])) λ_ _=>pF rfl λh=>nomatch h
  rw[<-en]at q;rw[q]
 |@skip b ks k k' x r ks' H n c hv L=>intro st s0 z e V A;let(st',h1,B):=aal e c;rw[X.aB (F:=900) (nt:=λ_ _=>vS f k z J λ_=>vC f k st O λ_=>vA w f F k' r ks' aa XR ej (wG f F k k' s0 (dY st) (fw st) (bD st) st st' aa XR .next) st'<|z.R f.ss) (by cases r<;>rw[aF]) rfl λ_ _=>qo A (ZT H) V.ks λ_=>sq V (by rw[kj e,n];rfl) λ_=>aiH (k:=k) (s0:=s0) (st:=st) (abf rfl rfl rfl h1 G V) rfl λs0=>L st' s0 z B (V.sub<|ae8 h1) A]
 |@skipE b ks k H n c=>intro st s0 z e V A;rw[X.aB (agR w f F k s0 st z ks aa XR ej) rfl λ_ _=>qo A (ZT H) V.ks λ_=>sq V (by rw[kj e,n];rfl) λ_=>aiI (F:=F) (s0:=s0) (st:=st) (aa:=aa) (XR:=XR) (abg rfl rfl rfl (aam e c) G V) ⟨z,rfl,A⟩ rfl]
 |@push b ks k k' x r ks' v H E d M c hv L=>
  intro st s0 z e V A;subst d;let e1:∀m it,(((⟨v,m,it,0⟩:En)::st).map En.pe)=⟨v.k,v.sc,0⟩::b:=λm it=>Z8 (_::·) e
  rw[X.aB (agS w f F v.k k' s0 st z r ks ks' aa XR ej v st.length (bD st++[(v.k,.int st.length)]) λm it=>rj<|⟨v,m,it,0⟩::st) rfl λ_ _=>?_]
  show Nt.Pure _ _ _ _ [_,_,_,_,_];rw[aiJ V A H E j λm it S N=>?_]
  let(st',B,h3):=(λm it=>aal (e1 m it) c) m it;let(z',rfl,Q):=N;let I:=V.push H E M m it 0;let es:rj (⟨v,m,it,0⟩::st)=st':=by delta rj;rw[B,]
  rw[es,];rw[aiH (k:=v.k) (s0:=s0) (st:=st) (abf (fQ ⟨v,m,it,0⟩ st).symm (eL ⟨v,m,it,0⟩ st).symm rfl B G I) rfl λs0=>L st' s0 z' h3 (I.sub<|ae8 B) Q]
 |@pushE b ks k v H E d M c=>
  intro st s0 z e V A;subst d;rw[X.aB (agT w f F v.k s0 st z ks (v.k::ks) aa XR ej v st.length<|bD st++[(v.k,.int st.length)]) rfl λ_ _=>?_]
  show Nt.Pure _ _ _ _ [_,_,_,_,_];rw[aiJ V A H E j λm it S N=>?_]
  let I:=V.push H E M m it 0;rw[aiI (F:=F) (s0:=s0) (st:=st) (aa:=aa) (XR:=XR) (abg (fQ ⟨v,m,it,0⟩ st).symm (eL ⟨v,m,it,0⟩ st).symm rfl (aam ((λm it=>Z8 (_::·) e) m it) c) G I) N rfl]
end
end
section
open PySem.Builtin
inductive FS(aa:!Nd):!U->!U->Option (!U)->Prop where
 |nil {ks}:FS aa [] ks As
 |skip {k r ks ab}:k∈ks->ks.length<=90->FS aa r ks ab->FS aa (k::r) ks ab
 |ret {k r ks q ks'}:k∉ks->ks.length<=90->VS aa [] ks k (Y q) ks'->FS aa (k::r) ks (Y q)
 |next{k r ks ks' ab}:k∉ks->ks.length<=90->VS aa [] ks k As ks'->FS aa r ks' ab->FS aa (k::r) ks ab
def fcO(f:Fc):Option U->!(SV×SV)
 |none=>zs f
 |some k=>mn f k
def zx:Option U->Nat
 |none=>6
 |some _=>7
def xX(nd i n ep:Nat):SO:=cJ kU (rf nd) i n ep
variable[hI:jf]
def knN(it d:Nat)(dl:DL)(ep i:Nat)(k:U):X:={ec:=.bi "dict_keyiterator.__next__" [.ref<| -it] [],hd:=dz,ai:=400,pre:=[(-it,xX d i dl.length ep)],aj:=[[(-d,dct dl ep)]],ab:=λQ=>.ok<|.str k,post:=λQ=>[xX d (i+1) dl.length ep],af:=λQ=>[[(-d,dct dl ep)]]}
def keN(it d:Nat)(dl:DL)(ep:Nat)(XR:Rd):X:={ec:=.bi "dict_keyiterator.__next__" [.ref<| -it] [],hd:=dz,ai:=400,pre:=[(-it,xX d dl.length dl.length ep)],aj:=[[(-d,dct dl ep)],XR],ab:=λy=>.err<|.ref<|nu y 0,post:=λQ=>[cJ kU .none dl.length dl.length ep],ao:=λy=>[nu y 0],al:=λy=>[aiE y],af:=λQ=>[[(-d,dct dl ep)],XR]}
def wI(f:Fc)(F it:Nat)(fs:List<|SV×SV)(s0:List<|Option SV)(vs M:!SV)(dl:DL)(S:Rd)(i:Nat)(r:Option<|!U)(aa:!Nd)(XR:Rd)(ej:Nat):X:={ec:=.am<|arK F it,hd:=dz,ai:=480,fr:=[bC F],pre:=[(-F,aI fs s0),(-it,xX f.nd i (aT aa).length ej),(-f.sl,.seq Lt vs),(-f.il,.seq Lt M),(-f.d,aM dl)],aj:=[aa.flatMap bj,XR,S,[(-f.nd,dct (aT aa) ej)]],ab:=vtR r,post:=λy=>[aI (y.u.fs 0) y.u.x.sl,.fld (.type kU)<|y.l 2,.seq Lt<|y.l 0,.seq Lt<|y.l 1,aM<|y.d 0],ao:=zv r,al:=xW r,af:=λy=>[aa.flatMap bj,XR,y.r 0,[(-f.nd,dct (aT aa) ej)]]}
noncomputable abbrev zy:List<|!Bi:=[[.b 0],[.b 1],[.b 2],[.b 3]]
noncomputable def fkI(r:Option<|!U):!Nat:=match r with
 |some _=>[0,1,2,3,4,5]
 |none=>[0,1,2,3,4]
def fkK(r:Option<|!U):!Bool:=match r with
 |some _=>J::J::sj
 |none=>J::sj
section
variable(w:AW)(f:Fc)(F it:Nat)(k:U)(o:Option U)(s0:!(Option SV))(z:Ze)(i:Nat)(r:Option !U)(ks':!U)(aa:!Nd)(XR:Rd)(ej:Nat)
def xY(b:Bool)(nx:Nt):Nt:=.v [0,2,2] (knN it f.nd (aT aa) ej i k) [1] [[3]] λQ=>.ob [[1,1,1,1],[],[]] (-f.ss) (.am z.o)<|.v [] (zu f.ss z k b) [] [[2]] λQ=>nx
def fkG(D:X)(b:Bool):Nt:=.use [] D (Y [bC F]) [0,1,2,3,4] (b::sj) [[0],[1],[2],[3]] [] λx=>.f [] (fkI r) (fkK r) zy x.y
def fyR(nd i n ep:Nat)(y:aW):aW:={y with
 l:=λj=>(match j with
  |2=>[rf nd,.int i,.int n,.int ep]
  |j=>y.l j)}
end
section
def pr(H:(aT aa)[i]?=Y (k,v))(hz:gO w ks z.o)(c:decide (k∈ks)=b)(hl:ks.length<=90)(h:nx.Pure w (Y l) C [aa.flatMap bj,XR,z.R f.ss,[(-f.nd,dct (aT aa) ej)]]):(xY f it k z i aa ej b nx).Pure w (Y l) C [aa.flatMap bj,XR,z.R f.ss,[(-f.nd,dct (aT aa) ej)]]:=
 pU rfl (rZ (R:=[(-f.nd,dct (aT aa) ej)]) (ab0 dz w (-it) (-f.nd) (aT aa) ej i k v H) (λQ h=>h) λh d Q=>by
   let(o,g,z):=d _ ce
   rw[(o,g,fq.mp z)]) λQ Q=>pO rfl (AT iW aE)<|pU rfl (ae7 w f.ss z ks k b hz c<|Ax hl (by decide)) λQ Q=>h
def arT(N:tN XR)(G:(aa.map (·.k)).Nodup):∀{d ks:!U}{r:Option<|!U},FS aa d ks r->∀(i:Nat)(o:Option U)(s0:List<|Option SV)(z:Ze),(aa.map (·.k)).drop i=d->gO w ks z.o->i+d.length=aa.length->(wI f F it (fcO f o) s0 [] [] [] (z.R f.ss) i r aa XR ej).aq w [bC F] (Y l):=by
 intro d ks r D;refine_lift let Q:=aa.map (·.k);?_
 let n:∀{i:Nat}{k:U}{r:!U},Q.drop i=k::r->∃v,(aT aa)[i]?=Y (k,v)/\Q.drop (i+1)=r:=λ{i k r} h=>by
  let H:Q[i]?=Y k:=by rw[<-Fv,h];rfl
  rw[AG]at H;let(v,I,rfl):=Bj.mp H;rw[(rf v.ia,?_,?_)]
  .delta aT;rw[AG,I];rfl
  .rw[<-BU,h];rfl
 let vi:∀{ks:!U},ks.length<=90->VI aa [] ks:=λh=>⟨AS,(λ_ h=>nomatch h),Bd _,h⟩
 cases D with
 |@nil ks=>
  intro i o s0 z _ A m;let e:i=(aT aa).length:=by delta aT;rw[Ap,];rw[m]
  subst e
  rw[X.aB (F:=900) (nt:=λ_ _=>.v [0,2,2] (keN it f.nd (aT aa) ej XR) [1] [[3],[1]] λx=>.f [6] [0,1,2,3,4] (J::sj) zy {y0 with
     l:=λj=>(match j with
      |2=>[.none,.int (aT aa).length,.int (aT aa).length,.int ej]
      |_=>[])
     r:=λ_=>(z.R f.ss)
     u:={y0.u with fs:=λ_=>fcO f o,x:={sl:=s0}}}) (by
   let⟨p⟩:=hI
   induction p<;>induction o<;>rw[aF]) rfl λ_ _=>pU rfl (by
     rw[X.perm [] (rZ (R:=(-f.nd,dct (aT aa) ej)::XR) (aek w (-it) (-f.nd) (aT aa) ej) (λ_ h=>h) λh hs nd=>⟨?_,λa V=>?_,λa V q=>?_⟩) rfl rfl (AA _) (.inl rfl) (.of_eq<|Az _) λy _ _ _=>⟨y,rfl,rfl,rfl,.of_eq (Az _).symm,trivial⟩]
     .let(o,g,z):=hs _ ce;rw[(o,g,fq.mp z)]
     .let(c,xs,H,C):=N a V;rw[(c,xs,hs _<|.tail _<|.tail _ H,C)]
     .let(c,xs,H,C):=N a V
      rw[(AC.mp nd).1 (AM.mpr ⟨_,.tail _ H,q⟩)]) λ_ _=>pF rfl Z9]
 |@skip k r ks b L m hr ih=>intro i o s0 z M A B;let(v,H,C):=n M;rw[X.aB (F:=900) (nt:=λ_ _=>.cx λc=>xY f it k z i aa ej J<|fkG F b (wI f F it (mn f k) (nU c (-F) (zx o) s0) [] [] [] (z.R f.ss) (i+1) b aa XR ej) O) (by induction o<;>induction b<;>rw[aF]) rfl λ_ _=>pX rfl λ_=>pr H A (ZT L) m ⟨trivial,ih (i+1) (Y k) _ z C A (by rw[<-B,AI];rw[tp]),λx h=>pF rfl trivial⟩]
 |@ret k r ks q E L m I=>intro i o s0 z M A B;let(v,H,C):=n M;rw[X.aB (F:=900) (nt:=λ_ _=>.cx λc=>xY f it k z i aa ej O<|.use [] (rm w f F [] k (nU c (-F) (zx o) s0) (z.R f.ss) (Y q) E aa XR ej) (Y [bC F]) [0,2,3,4] [O,J,J,J] [[],[0],[1],[2],[3]] [] λx=>.f [] [0,1,2,3,4,5] (J::J::sj) zy<|fyR f.nd (i+1) (aT aa).length ej x.y) (by induction o<;>rw[aF]) rfl λ_ _=>pX rfl λ_=>pr H A (ZU L) m ⟨trivial,aiK N G I [] _ z rfl (vi m) A,λx h=>pF rfl trivial⟩]
 |@next k r ks E b L m I hr ih=>
  intro i o s0 z M A B;let(v,H,C):=n M
  rw[X.aB (F:=900) (nt:=λ_ _=>.cx λc=>xY f it k z i aa ej O<|.use [] (rm w f F [] k (nU c (-F) (zx o) s0) (z.R f.ss) As E aa XR ej) (Y [bC F]) [0,2,3,4] [O,J,J,J] [[],[0],[1],[2],[3]] [] λx=>fkG F b (wI f F it (x.y.u.fs 0) x.y.u.x.sl (x.y.l 0) (x.y.l 1) (x.y.d 0) (x.y.r 0) (i+1) b aa XR ej) J) (by induction o<;>induction b<;>rw[aF]) rfl λ_ _=>pX rfl λ_=>pr H A (ZU L) m ⟨trivial,aiK N G I [] _ z rfl (vi m) A,λx h=>by
   let((k',e1),e2,e3,e4,e5,z',e6,hz'):=h rfl;rw[(trivial,?_,λx h=>pF rfl trivial)];rw[e1,e2,e3,e4,e6]
   rw[ih (i+1) (Y k') _ z' C hz' (by rw[<-B,AI];rw[tp])]⟩]
end
end
section
open PySem.Builtin
def X.fade{w:AW}{K:X}{fr:!Env}{l:Option<|!Env}(af:aW->!Rd)(d:∀y,aH (af y).flatten=aH (K.af y).flatten)(i:∀y h,HS h (K.af y).flatten->HS h (af y).flatten)(H:K.aq w fr l):({K with af:=af}:X).aq w fr l:=λA c s n=>by
 rw[BK (H A c s ⟨n.ec,n.hd,n.fs,n.ai,n.un,n.St,n.hs,n.nd,n.af,n.ff⟩) λr j ⟨k,F,y,P⟩=>⟨k,F,y,P.ab,P.lp,P.ln,λq b=>?_,?_,P.new,λa V=>P.own a (by rw[<-d];rw[V]),P.pure⟩]
 .rcases AB.mp b with m|m
  .rw[P.hs q<|Ao _ m]
  .rw[i y _ (λq b=>P.hs q<|Aq _ b) q m]
 .let e:aH (K.led y++(af y).flatten)=aH (K.led y++(K.af y).flatten):=by
   have:=d y;unfold aH at this ⊢
   rewrite [AE,AE,this]
   rfl
  show(aH<|K.led y++(af y).flatten).Nodup;rw[e,];rw[P.nd]
noncomputable def wJ(w:AW):Bool:=match w.params.followText "set-order" with
 |true=>O
 |false=>J
variable[hI:jf]
def seN(w:AW):X:={ec:=.bi "type.__call__" [.ty "set"] [],hd:=dz,ai:=450,ab:=λy=>.ok<|rf<|y.n 0,af:=λy=>[y.r 0],pure:=λy=>si w (y.n 0) []<|y.r 0}
def diN(d:Nat)(dl:DL):X:=ui ((xA (-d) dl).at dz) (-d) dl
def fsM(f:Fc)(F it:Nat)(S:Rd)(r:Option<|!U)(aa:!Nd)(XR:Rd)(ej:Nat):X:={wI f F it (zs f) [] [] [] [] S 0 r aa XR ej with af:=λy=>[aa.flatMap bj,XR,y.r 0,[(-f.nd,aM<|aT aa)]]}
def fcV(r:Option<|!U)(y:aW):EE:=match r with
 |some _=>.ok<|rf<|y.n 0
 |none=>.ok .none
def wK(g:So)(r:SV)(a b:Int)(aa:!Nd)(XR:Rd)(ab:Option<|!U):X:={ec:=.call (.ref 832) [rf g.so] [],hd:=dz,ai:=490,pre:=[(-g.so,ca g),(-g.sd,cu g r a b)],aj:=[[(-g.nd,aM<|aT aa)],aa.flatMap bj,XR],ab:=fcV ab,post:=λQ=>[ca g,cu g r a b],ao:=zv ab,al:=xW ab,af:=λQ=>[[(-g.nd,aM<|aT aa)],aa.flatMap bj,XR]}
def akU{w:AW}{f:Fc}{F it:Nat}{l:!Env}{aa:!Nd}{XR:Rd}{ej:Nat}{z:Ze}{r:Option<|!U}(x:tN XR)(c:(aa.map (·.k)).Nodup)(D:FS aa (aa.map (·.k)) [] r)(hz:gO w [] z.o):(fsM f F it (z.R f.ss) r aa XR ej).aq w [bC F]<|Y l:=
 X.fade _ (λQ=>by
  delta aH;rw[Fe,Fe];rfl) (λy h b q H=>by
  let H:q∈aa.flatMap bj++(XR++(y.r 0++[(-f.nd,aM<|aT aa)])):=by simpa using H
  let go:∀q,q∈aa.flatMap bj++(XR++(y.r 0++[(-f.nd,dct (aT aa) ej)]))->∃o,h.get? q.1=Y o/\q.2.is o:=λq H=>b q (by simpa[wI]using H)
  rcases AB.mp H with m|m
  .rw[go q (Ao _ m)]
  rcases AB.mp m with m|m
  .rw[go q (Aq _<|Ao _ m)]
  rcases AB.mp m with m|m
  .rw[go q (Aq _<|Aq _<|Ao _ m)]
  .cases Au.mp m;let(o,g,z):=go (-f.nd,dct (aT aa) ej) (Aq _<|Aq _<|Aq _ aE)
   rw[(o,g,fF (fq.mp z).so)]) (arT (f:=f) (F:=F) (it:=it) (ej:=ej) x c D 0 As [] z rfl hz (by rw[Ap,Bh]))
def aiL(w:AW) g r a b {aa:!Nd}{XR:Rd}{ab:Option<|!U}{l:!Env}(H:tN XR)(c:(aa.map (·.k)).Nodup)(D:FS aa (aa.map (·.k)) [] ab):(wK g r a b aa XR ab).aq w []<|Y l:=
 X.aB (F:=900) (nt:=λQ N=>.v [0,0,3,3,3,1,0,0,0,0,1,0,0,0,1,1,0,2,3,3,3,3,3,3,0,0] (seN w) [] [] λx=>.ob [[3,3,3,3,3],[],[]] (-g.nd) (aM<|aT aa) (.v [] (diN g.nd<|aT aa) [] [[0]] λn=>
    .use [7] (fsM ⟨g.so,g.nd,N+1,N+2,x.y.n 0,x.t 1⟩ N (n.y.n 0) (x.y.r 0) ab aa XR<|n.y.n 1) (Y [bC N]) [2,6,3,4,5] [O,J,O,O,O] [[1],[2],[3],[0]] [] λd=>.f [] (match ab with|some _=>[0,1,7]|none=>[0,1]) (match ab with|some _=>[J,J,J]|none=>[J,J]) [[.b 0],[.b 1],[.b 2]] d.y)) (by induction ab<;>rw[aF]) rfl λQ Q=>pU rfl (by
      let p:aR w (seN w) 900 λQ N=>.g [0,0,1,1,1,1,0,1,1] [] [[.l 0]] {yA [N]with r:=λQ=>(⟨#[],0,.fresh 0 0<|wJ w⟩:Ze).R N}:=aF
      rw[X.ap p rfl λQ Q=>pF rfl ⟨⟨#[],0,.fresh 0 0<|wJ w⟩,rfl,0,AA _,?_⟩]
      let z:=JS (knd:=strKind PW w) (wJ w)
      rw[z]) λx i=>pO rfl (AT aE aE) (pU rfl (l6 (aeg dz w (-g.nd) (aT aa)<|qQ g.nd) rfl (λQ h=>h) (λQ h=>h) λQ Q Q h=>h) λn Q=>⟨trivial,by
  let(z,e,A):=i;rw[e,]
  rw[akU H c D A],λd Q=>pF rfl trivial⟩)
end
def xZ:Cm:=⟨mf [25,3,1],"TopologicalSorter.prepare.<locals>.",796⟩
def x5(c:BC)(p:Cp)(nd ej j:Nat)(aa:!Nd)(o oe:Option SV)(ys d:!SV):X:={ec:=.am c,ai:=450,pre:=[(-p.L,ni "i" o),(-p.it,cJ uh (rf nd) j (aT aa).length ej),(-p.ac,.seq Lt ys)],aj:=[aa.flatMap bj,[(-nd,dct (aT aa) ej)]],ab:=λQ=>.au .next,post:=λy=>[ni "i" oe,.fld (.type uh)<|y.l 1,.seq Lt d],af:=λQ=>[aa.flatMap bj,[(-nd,dct (aT aa) ej)]]}
def vnN(it d:Nat)(dl:DL)(ep i:Nat)(x:SV):X:=(za "dict_valueiterator.__next__" "dict_valueiterator" (-it) (-d) dl ep i x).ktB [(-d,dct dl ep)]
def veN(it d:Nat)(dl:DL)(ep:Nat):X:=(zb "dict_valueiterator.__next__" "dict_valueiterator" (-it) (-d) dl ep).ktB [(-d,dct dl ep)]
def ae9{d:Nat}{dl:DL}{ep:Nat}{h:CF}{q:AL×SO}(H:HS h<|[q]++[(-d,dct dl ep)]):∃o,h.get? (-d)=Y o/\DP dl ep o:=by let(o,g,z):=H _ ce;rw[(o,g,fq.mp z)]
def afa{w:AW}{it d:Nat}{dl:DL}{ep i:Nat}{k:U}{v:SV}(r:dl[i]?=Y (k,v)):(vnN it d dl ep i v).Holds w:=rZ (by
  intro A c s ec L x St j nd _ B;let(t,rfl):=aS ec;let(u,H):=bZ (j _ aE);let H:s.heap.get? (-it)=Y {cls:=.type uh,dict:=As,data:=.fields #[.ref<| -d,.int i<|u 1,.int dl.length<|u 2,.int ep<|u 3],slots:=#[]}:=H;let(_,b,es,rfl,m):=B;let(e,C,G):=oS m r;let l:s.TypeIs (.ref<| -it) "dict_valueiterator":=⟨_,H,rfl⟩;rw[fH (id:="dict_valueiterator.__next__") (by decide+kernel) EU λQ E I M=>?_]
  rw[Al (Aw ?_)];rw[Al (Al<|Al<|CZ l<|Aw ?_)];rw[Al (DR H rfl ?_)];show A0 _ _ (if(BZ (-d)==B8)=J then _ else _) _ _ s;rw[Z7 (show¬((BZ (-d)==B8)=J)from A9),];rw[Al (Aw<|Al<|B1 b rfl ?_)];rw[Z7 (by rw[dA m,];simp),];rw[Al (Aw<|Al<|Cw b rfl ?_)];rw[Z7 (by simp),];rw[Aw ?_];simp only[show¬((i:Int)<0)from DE.mpr<|BH _,if_false,Ca,C];rw[Al (Al<|CZ l<|Aw ?_)];rw[Al (E0 l ?_)];let n:=Bg (h:=s.heap) (a:=(-it)) (eC 1<|Co<|(i:Int)+1) H rfl;show A0 _ _ (D3 (.ref<| -it) 1 (Co<|(i:Int)+1)>>=_) _ _ s;rw[Al (CP H rfl (by simp)<|Al<|BP ?_)];rw[Al (E0 (s:={s with heap:=s.heap.update (-it)<|eC 1<|Co<|(i:Int)+1}) ⟨_,n,rfl⟩ ?_)];rw[Al (E0 (s:={s with heap:=s.heap.update (-it)<|eC 1<|Co<|(i:Int)+1}) ⟨_,n,rfl⟩ ?_)];show A0 _ _ (pure e.val>>=_) _ _ _;rw[Al (Aw<|Aw<|Aw ?_)];rw[I _ _ ?_]
  rw[lT (so':=cJ uh (.ref<| -d) (i+1) dl.length ep) (c2 rfl) ⟨_,n,rfl⟩ (λV=>Z8 EE.ok (DV G).2) rfl rfl rfl rfl Z9]) (λV h=>h) λh j V=>ae9 j
noncomputable def cK:!Nd->!U
 |[]=>[]
 |v::r=>match v.np==0 with
  |true=>v.k::cK r
  |false=>cK r
noncomputable def tf(aa:!Nd)(o:Option SV):Option SV:=match aa with
 |[]=>o
 |v::r=>tf r<|Y<|rf v.ia
noncomputable abbrev zz:!Bool:=[J,J,J]
section
variable{nd ej j:Nat}
def zA(p:Cp)(nd ej j:Nat)(aa:!Nd)(ns:!Nat)(bs:!Bool)(o oe:Option SV)(ys d:!SV)(qs:!Prop):Nt:=.use ns (x5 (xZ.lp p) p nd ej j aa o oe ys d) As [0,1,2] bs [[0],[1]] qs λx=>.f [] [0,1,2] zz [[.b 0],[.b 1]] x.y
noncomputable def pvO:List<|!Nat:=[[1,1,1],[0,0,0,0],[0,0,0,0,0,0,0,0,0,0,0,0],[0,0,0,0,0,0],[0]]
def pvN(p:Cp)(nd ej j:Nat)(aa:!Nd)(v:Nd)(ns:List<|!Nat)(nx:Nt):Nt:=.v [0,2,2] (vnN p.it nd (aT aa) ej j<|rf v.ia) [1] [[1]] λQ=>.ob (pvO++ns) (-v.ia) (cq v) nx
def arU:∀(k:!Nd)(j:Nat)(o:Option SV)(ys:!SV),aa.drop j=k->j+k.length=aa.length->ys.length+k.length<2^20->(x5 (xZ.lp p) p nd ej j aa o (tf k o) ys<|ys++aG (cK k)).Holds w:=by
 cases _ with
 |nil=>
  intro j o ys c d _;let e:j=(aT aa).length:=by delta aT;rw[Ap,];rw[d]
  subst e;rw[show ys++aG (cK [])=ys from Az _,];rw[X.ap (F:=900) (nt:=λV V=>.v [0,2,2] (veN p.it nd (aT aa) ej) [1] [[1]] λV=>.f [4] [0,1,2] zz [[.b 0],[.b 1]] {y0 with l:=λV=>[.none,.int (aT aa).length,.int (aT aa).length,.int ej]}) (by induction o<;>rw[aF]) rfl λV V=>pU rfl (rZ (air<|@ajM ⟨As⟩ w (-p.it) (-nd) (aT aa) ej) (λV h=>h) λh x V=>ae9 x) λV V=>pF rfl Z9]
 |cons v k i=>
  intro j o ys c d z
  let(H,A,n):=((by
    let H:aa[j]?=Y v:=by rw[<-Fv,c];rfl
    rw[(?_,Br H,by rw[<-BU,c];rfl)];delta aT;rw[AG,H]
    rfl):A3 ((aT aa)[j]?=Y (v.k,rf v.ia)) (v∈aa)<|aa.drop (j+1)=k)
  let b:j+1+k.length=aa.length:=by rw[<-d,AI];rw[tp]
  rw[AI]at z;let m:(-v.ia,cq v)∈([aa.flatMap bj,[(-nd,dct (aT aa) ej)]]:!Rd).flatten:=AT aE<|df A aE;unfold cK;cases r:(v.np==0)with
  |false=>rw[X.ap (F:=900) (nt:=λV V=>pvN p nd ej j aa v []<|zA p nd ej (j+1) aa [14,0] [O,J,J] (Y<|rf v.ia) (tf (Bc v k) o) ys (instHAppendOfAppend.hAppend ys<|aG<|cK k) [(v.np==0)=O]) (by induction o<;>rw[aF]) rfl λV V=>pU rfl (afa H) λV V=>pO rfl m<|pV rfl ⟨r,trivial⟩ (i (j+1) _ ys n b<|nA z) λV V=>pF rfl Z9]
  |true=>
   let e:ys++aG (v.k::cK k)=(ys++[.str v.k])++aG (cK k):=by rw[AD,];rfl
   rw[e,];rw[X.ap ((by induction o<;>rw[aF]):aR w (x5 (xZ.lp p) p nd ej j aa o (tf (Bc v k) o) ys<|instHAppendOfAppend.hAppend (instHAppendOfAppend.hAppend ys<|Bc (SV.str v.k) Ck)<|aG<|cK k) 900 λV V=>pvN p nd ej j aa v ([14,1,1]::pvO.tail)<|.use [3] (hN As "list.append" [.ref<| -p.ac,.str v.k] (-p.ac) (.seq Lt ys) (.seq Lt<|ys++[.str v.k])<|.ok .none) As [2] [J] [] [(v.np==0)=J] λV=>zA p nd ej (j+1) aa [] [O,J,J] (Y<|rf v.ia) (tf (Bc v k) o) (ys++[.str v.k]) (instHAppendOfAppend.hAppend (instHAppendOfAppend.hAppend ys<|Bc (SV.str v.k) Ck)<|aG<|cK k) []) rfl λV V=>pU rfl (afa H) λV V=>pO rfl m<|pV rfl ⟨r,trivial⟩ (aP w _ _ _<|lE z) λV V=>pU rfl (i (j+1) _ _ n b (by rw[Ay,Ci];rw[lF z])) λV V=>pF rfl Z9]
end
def qp(F:Nat):Env:=⟨bd [25,3],-F,3,[],S "TopologicalSorter.prepare.<locals>.",Y 797,.ref 796,Y<| -F,0⟩
def acg F:(qp F).scope.kind≠.module:=by show(bd [25,3]).kind≠.module;decide+kernel
def pvM(p:Cp)(nd ej:Nat)(aa:!Nd)(b:SV):X:={x5 (xZ.st p) p nd ej 0 aa As (Y b) [] (aG<|cK aa)with af:=λQ=>[aa.flatMap bj,[(-nd,aM<|aT aa)]]}
def dvN(nd:Nat)(dl:DL):X:=(dvC (-nd) dl).ktB [(-nd,aM dl)]
def dvJ(v:AL)(nd:Nat)(dl:DL):X:=ui (dvI v (-nd) dl) (-nd) dl
def prB(g:So)(aa:!Nd)(F:Nat):X:={ec:=.am<|iM [25,3]<|qp F,ai:=500,pre:=[(-g.so,ca g),(-g.sd,cu g .none 0 0)],aj:=[[(-g.nd,aM<|aT aa)],aa.flatMap bj],ab:=λQ=>.au .next,post:=λy=>[ca g,cu g (rf<|y.n 0) 0 0],ao:=λy=>[-y.n 0],al:=λy=>[.seq Lt<|aG<|cK aa],af:=λQ=>[[(-g.nd,aM<|aT aa)],aa.flatMap bj]}
def wL(g:So)(aa:!Nd):X:={prB g aa 0 with ec:=.call (.ref 797) [rf g.so] [],ai:=503,ab:=λQ=>.ok .none}
def fcP(g:So)(r:SV)(aa:!Nd)(F:Nat)(ab:Option<|!U):X:=(@wK ⟨As⟩ g r 0 0 aa [] ab).wf F [(sS "self",rf g.so)] λQ=>[(sS "self",rf g.so)]
def zB(g:So)(aa:!Nd)(c:SV)(F:Nat)(a b:!Nat)(ns:List<|!Nat)(ab:Option<|!U)(d:!Nat)(fk:!Bool)(nx:aQ->aQ->Nt):Nt:=.ob (a::ns) (-g.nd) (aM<|aT aa) (.v [] (dvN g.nd<|aT aa) [] [[0]] λx=>.v [4,4,4] (dvJ (nu x.y 0) g.nd<|aT aa) [3] [[0]] λn=>.u [5] (pvM ⟨n.t 1+1,F,n.y.n 0,n.t 1⟩ g.nd (n.y.n 1) aa c) [6,4,5] [O,J,O] [[1],[0]] λQ=>
 .use b (fcP g (rf<|n.t 1) aa F ab) (Y [qp F]) d fk [[0],[1],[]] [] λe=>nx n e)
noncomputable def prS:List<|!Nat:=[[],[],[],[]]
def prF(g:So)(y:aW):List<|SV×SV:=[(sS "self",rf g.so),(sS "cycle",rf<|y.n 1)]
def prE(y:aW):!SV:=[rf<|y.n 2,.none,.none,.none,.bool O,.none]
def prZ(g:So)(aa:!Nd)(F:Nat):X:=(prB g aa F).wf F [(sS "self",rf g.so)]<|prF g
section
theorem akV w d dl:(dvN d dl).Holds w:=rZ (R:=[(-d,aM dl)]) (by
  intro A c s ec k b St _ _ _ j;let(_,rfl):=aS ec;let(es,n,i,l):=eY j;rw[AZ (id:="dict.values") F.entry_dict_values ?_];rw[Al ?_];rw[Al (Eb ⟨_,i,rfl⟩ ?_)];rw[Aw ?_];delta EX;let iW:((-d)==Iq)=O:=ZX (qQ d);rw[Z7 (by rw[iW,];rw[A9]),];rw[Al (Aw ?_)];rw[Al (Db<|Aw ?_)];let H:=Bo St.big
  rw[fI (so:=.fld (.type "dict_values") [.ref<| -d]) (y:=zc (s.heap.objs.size-902) n) H (Z8 (λa=>EE.ok<|.ref a) H.symm) (λQ h=>nomatch h) rfl rfl rfl rfl rfl rfl Z9]) (λQ h=>h) λh e Q=>e _ aE
theorem akW w v d dl:(dvJ v d dl).Holds w:=l6 (by
  intro A c s ec r l St j _ _ m;let(_,rfl):=aS ec;let(u,b):=bZ (j _ aE);let(es,n,e,k):=eY m;rw[AZ (id:="dict_values.__iter__") F.entry_dict_values_iter ?_];rw[Al (Aw ?_)];rw[Al ?_];rw[Al (Bf b rfl (i:=0) rfl<|Aw ?_)];rw[Al ?_];rw[Al (B1 e rfl<|Al<|Cw e rfl ?_)];rw[Db (Aw ?_) (show 4<=AO+2 by decide)];let H:=Bo St.big
  rw[fI (so:=cJ uh (.ref<| -d) 0 dl.length n) (y:=zc (s.heap.objs.size-902) n) H (Z8 (λa=>EE.ok<|.ref a) H.symm) j rfl rfl rfl rfl (by rw[<-dA k];rfl) rfl ⟨_,e,es,rfl,k⟩]) rfl (λQ h=>h) (λQ h=>h) λQ Q Q h=>h
def akX{p:Cp}{nd ej:Nat}{b:SV}(hl:aa.length<2^20)(i:tf aa As=Y b):(pvM p nd ej aa b).Holds w:=X.fade _ (λQ=>by
  unfold aH;rw[Fe,Fe];rfl) (λy h H q c=>by
  rcases AB.mp c with m|m
  .rw[H q (show q∈aa.flatMap bj++[(-nd,dct (aT aa) ej)]from Ao _ m)]
  .cases Au.mp m;let(o,g,z):=H (-nd,dct (aT aa) ej) (show _∈aa.flatMap bj++[(-nd,dct (aT aa) ej)]from Aq _ aE)
   rw[(o,g,fF (fq.mp z).so)]) (i▸(X.ap (F:=900) (nt:=λγ Q=>zA p nd ej 0 aa (match γ with|true=>[0]|false=>[0,2,2,2,0,2]) zz As (tf aa As) Ck (aG<|cK aa) []) lW rfl λγ Q=>match γ with
     |true|false=>pU rfl (arU aa 0 As [] rfl (Bh _) (by rw[BJ,Bh];rw[hl])) λQ Q=>pF rfl Z9))
def akY{r:SV}{ab:Option<|!U}(c:(aa.map (·.k)).Nodup)(D:FS aa (aa.map (·.k)) [] ab):(fcP g r aa F ab).aq w [qp F]<|Y l:=
 iJ (K:=@wK ⟨As⟩ g r 0 0 aa [] ab) (λy M=>by induction ab<;>rw[(rfl,rfl,rfl,rfl,rfl,id)]) rfl (acg F) (@aiL ⟨As⟩ w g r 0 0 aa [] ab _ (λa h=>nomatch h) c D)
def afb{C:X}{a b:!Nat}{ns:List<|!Nat}{ab:Option<|!U}{e:!Nat}{fk:!Bool}{nx:aQ->aQ->Nt}{d:SV}(hl:aa.length<2^20)(i:tf aa As=Y d)(c:(aa.map (·.k)).Nodup)(D:FS aa (aa.map (·.k)) [] ab)(h:∀n x,(nx n x).Pure w (Y l) C [[(-g.nd,aM (aT aa))],aa.flatMap bj,[]]):(zB g aa d F a b ns ab e fk nx).Pure w (Y l) C [[(-g.nd,aM (aT aa))],aa.flatMap bj]:=
 pO rfl aE (pU rfl (akV w _ _) λQ Q=>pU rfl (akW w _ _ _) λQ Q=>pU rfl (akX hl i) λQ Q=>⟨trivial,akY c D,λx Q=>h _ x⟩)
def adc w g aa l {d:SV}(hl:aa.length<2^20)(i:tf aa As=Y d)(c:(aa.map (·.k)).Nodup){q:!U}(D:FS aa (aa.map (·.k)) []<|Y q)(k:q≠[])(V:q.length<2^20):((wL g aa).rz (.ref 760)<|Y .none).aq w []<|Y l:=by
 let H:∀F,((prZ g aa F).rz (.ref 760)<|Y .none).aq w []<|Y l:=λF=>aa7 (xs:=prE) (λQ Q=>⟨rfl,rfl,rfl,rfl,rfl,id⟩) rfl (acg F) rfl rfl (X.av (F:=1500) (nt:=λQ Q=>zB g aa d F [1,2,0,0,0,0,2,0,0,0,2,2,0,3,1,2,0,0,0,0,2,0,0,0,2,2,0,3] [7,7,7,1,2,0,0,0,2,0,0,2,0,2,0,0,0,2,0,3,3,3,1,2,0,0,0,2,0,0,0,2,0,0,0,0,2,3,0] prS (Y q) [0,1,2] [J,J,O] λn b=>
   .v [1,1,1,8,8] (hM As "len" [.ref<| -b.y.n 0] (-b.y.n 0) (.seq Lt<|aG q)<|.ok<|.int (((q.length-1)+1:Nat):Int)) [7] [] λj=>
   .stk (.f [0,1,0,0,0,0,0,0,0,0,0,0,0,0,0,0,0,0,0,0,0,0,0,0,0,0,0,0,0,0,10,0,10,0,0,0,10,0,10,0,0,10,10,10,10,10,0,10,10,0,10] [0,1,2,9,5] [O,J,J,O,J] [[.b 0],[.b 1]] {yA [n.t 1,b.y.n 0,j.t 1+2]with u:={y0.u with x:={e:=j.t 1+1,sl:=nU b (-F) 1 b.y.u.x.sl}}})) aF rfl λQ Q=>afb hl i c D λn b=>pU rfl (bp (by
  let z:=hJ w (-b.y.n 0) (aG q) As (by unfold aG;rw[Ap,];rw[at7 V]);let e:(aG q).length=q.length-1+1:=by unfold aG;rw[Ap,];have:=List.length_pos_iff.mpr k;rw[at8 this]
  rw[e]at z
  rw[z])) λQ Q=>pS rfl<|pF rfl ⟨⟨⟨rfl,rfl⟩,rfl⟩,trivial⟩)
 rw[X.aB (F:=1500) (nt:=λQ N=>.use [0,0,3,3] ((prZ g aa N).rz (.ref 760)<|Y .none) (Y []) [2,0,1] [O,J,J] [[0],[1]] [] λx=>.g [] [0,1,3,4,5] [[.b 0],[.b 1]] x.y) aF rfl λQ N=>⟨trivial,H N,λx h=>pF rfl h⟩]
end
noncomputable def bQ(aa:!Nd)(k:U)(q:Int):!Nd:=aa.map λv=>if v.k==k then{v with np:=q}else v
def wM(aa:!Nd)(d:Nd)(q:Int):X:={ec:=.bi "object.__setattr__" [rf d.ia,sS "npredecessors",.int q] [],ai:=400,aj:=[aa.flatMap bj],ab:=λQ=>.ok .none,af:=λQ=>[(bQ aa d.k q).flatMap bj]}
def zC(a:Nat)(k:U)(dl:DL)(v:SV):X:={ec:=.bi "dict.__getitem__" [.ref<| -a,.str k] [],ai:=400,aj:=[[(-a,aM dl)]],ab:=λQ=>.ok v,af:=λQ=>[[(-a,aM dl)]]}
def clK(a:Nat)(xs:!SV):X:=hN As "list.clear" [.ref<| -a] (-a) (.seq Lt xs) (.seq Lt [])<|.ok .none
noncomputable def gm:!Nd->!Nd->!Nd
 |[],n=>n
 |d::r,n=>gm r<|bQ n d.k<|-1
noncomputable def v6(ds:!Nd):!SV:=ds.map λd=>.str d.k
def grN(g:So)(rl:Nat)(a b:Int)(dl:DL)(aa ds:!Nd):X:={ec:=.call (.ref 804) [rf g.so] [],ai:=470,pre:=[(-g.so,ca g),(-g.sd,cu g (rf rl) a b),(-rl,.seq Lt<|v6 ds)],aj:=[[(-g.nd,aM dl)],aa.flatMap bj],ab:=λy=>.ok<|rf<|y.n 0,post:=λQ=>[ca g,cu g (rf rl) (a+ds.length) b,.seq Lt []],ao:=λy=>[-y.n 0],al:=λQ=>[.seq Tt<|v6 ds],af:=λQ=>[[(-g.nd,aM dl)],(gm ds aa).flatMap bj]}
noncomputable def grM:!Nat:=[7,7,0,7,7,6,7,7]
noncomputable def zD(g:So)(rl:Nat)(dl:DL)(b:!Nd)(t:Nat):!Nat->!Nd->!Nd->Nt
 |pf,[],_=>.v (pf++grM++[9,4,1,0,0,0,0,1,0,0,0,1,1,0,2,3,3,3,3,3]) (clK rl<|v6 b) [2] [] λQ=>.f (dg 42 0x422201000101001000106066040020110001000014) [0,1,2,5] [J,O,J,O] [[.b 0],[.b 1]]<|yA [t]
 |pf,d::r,m=>.ob [pf++grM++[4,4,0,4,4],[],[],[]] (-g.nd) (aM dl)<|.v [] (zC g.nd d.k dl<|rf d.ia) [] [[0]] λQ=>.ob [[],[0,0,0]] (-d.ia) (cq d)<|.v [0] (wM m d<|-1) [] [[1]] λQ=>zD g rl dl b t [0] r<|bQ m d.k<|-1
def arV(g:So)(rl:Nat)(dl:DL)(aa ds:!Nd)(N:Nat):Nt:=.u (dg 38 0x3002011000100001400201100010000144400) (zr (N+1+902) (-rl)<|v6 ds) [4,2] [O,J] [] λx=>zD g rl dl ds (x.t 1) (dg 31 0x706664442011000100001444606665) ds aa
@[elab_as_elim] theorem len5{motive:!α->Prop}(l:!α)(h:l.length<=5)(a:motive [])(b:∀x,motive [x])(c:∀x y,motive [x,y])(d:∀x y z,motive [x,y,z])(e:∀x y z u,motive [x,y,z,u])(f:∀x y z u v,motive [x,y,z,u,v]):motive l:=by
 rcases l with _|⟨x,_|⟨y,_|⟨z,_|⟨u,_|⟨v,_|⟨t,r⟩⟩⟩⟩⟩⟩
 .rw[a]
 .rw[b x]
 .rw[c x y]
 .rw[d x y z]
 .rw[e x y z u]
 .rw[f x y z u v]
 .rw[ZZ h<|Ce<|BI 6 r.length]
def agV w g rl a b dl aa ds (h:ds.length<=5):aR w (grN g rl a b dl aa ds) 1500 λQ N=>arV g rl dl aa ds N:=by rw[len5 ds h aF (λQ=>aF) (λQ Q=>aF) (λQ Q Q=>aF) (λQ Q Q Q=>aF) λQ Q Q Q Q=>aF]
section
def bL aa k q:(bQ aa k q).map (·.k)=aa.map (·.k):=by
 delta bQ;rw[BW,];rw[DH λv Q=>?_]
 show(if v.k==k then{v with np:=q}else v:Nd).k=v.k;split<;>rfl
def afc(h:e∈aa)(n:e.k≠k):e∈bQ aa k q:=
 AM.mpr ⟨e,h,Z7 λz=>n<|BX z⟩
def abh{l1 l2:!Nd}(c:((l1++d::l2).map (·.k)).Nodup):bQ (l1++d::l2) d.k q=l1++{d with np:=q}::l2:=by
 rw[AE]at c;let(_,h,i):=Bu.mp c
 let C:∀{l:!Nd},(∀v∈l,v.k≠d.k)->(l.map λv=>if v.k==d.k then{v with np:=q}else v)=l:=λ{l} H=>by
  conv=>rhs;rw[<-Hf l]
  rw[DH λv x=>Z7 λe=>H v x<|BX e]
 delta bQ;rw[AE,Cv,C λv x=>i _ (Av x) _ aE,C λv x e=>(AC.mp h).1 (show d.k∈l2.map (·.k)from e▸Av x),Z0<|ZY _]
def pt w q (h:d∈aa)(c:(aa.map (·.k)).Nodup):(wM aa d q).Holds w:=by let(l1,l2,rfl):=BS h;delta wM;rw[abh c,<-nO,<-nO];rw[aew w l1 d l2 q]
def afd{a:Nat}{k:U}{dl:DL}{v:SV}(h:cU dl k=Y v):(zC a k dl v).Holds w:=rZ (R:=[(-a,aM dl)]) (jw w As _ _ k v h) (λQ h=>h) λh H Q=>H _ aE
def mx ds:(v6 ds).length=ds.length:=Ap ..
def agX{C:X}{g:So}{rl t:Nat}{dl:DL}{b:!Nd}(j:∀y,C.pure y)(c:b.length<=5):∀(ds:!Nd)(pf:!Nat)(m:!Nd),(∀d∈ds,d∈m/\cU dl d.k=Y (rf d.ia))->(ds.map (·.k)).Nodup->(m.map (·.k)).Nodup->(zD g rl dl b t pf ds m).Pure w As C [[(-g.nd,aM dl)],m.flatMap bj]:=by
 cases _ with
 |nil=>intro pf m _ _ _;rw[pU rfl (gQ<|ajL w _ _ (by rw[mx,];rw[rB c])) λx x=>pF rfl<|j _]
 |cons d r I=>
  intro pf m H l i
  rw[pO rfl aE (pU rfl (afd (H d aE).2) λx x=>by
  refine_lift let k:=AC.mp l;?_
  rw[pO rfl (AT ce<|df (H d aE).1 aE)<|pU rfl (pt w _ (H d aE).1 i) λx x=>I [0] _ (λe h=>⟨afc (H e<|.tail _ h).1 λq=>k.1 (show d.k∈r.map (·.k)from q▸Av h),(H e<|.tail _ h).2⟩) k.2 (by rw[bL,];rw[i])])]
end
noncomputable def acI(ks:!U):SV:=match ks with
 |[]=>.int 0
 |_::l=>.int ((l.length+1:Nat):Int)
noncomputable def acB(ks:!U):SV:=match ks with
 |[]=>.bool O
 |_::_=>.bool J
def zE(g:So)(rl:Nat)(a:Int)(ks:!U):X:={ec:=.call (.ref 811) [rf g.so] [],ai:=420,pre:=[(-g.so,ca g),(-g.sd,cu g (rf rl) a a),(-rl,.seq Lt<|aG ks)],ab:=λQ=>.ok<|acB ks,post:=λQ=>[ca g,cu g (rf rl) a a,.seq Lt<|aG ks]}
def aiM w g rl a ks (hl:ks.length<1000):(zE g rl a ks).Holds w:=by
 let p:aR w (zE g rl a ks) 900 λQ Q=>.use (dg 68 0x33002011000100001400032011000100001420110001000014201100010000144400) (hM As "len" [.ref<| -rl] (-rl) (.seq Lt<|aG ks)<|.ok<|acI ks) As [2] [J] [] [decide (a<a)=O] λQ=>.g [0] [0,1,2] [] y0:=by clear hl;induction ks<;>rw[aF]
 let z:=hJ w (-rl) (aG ks) As (by delta aG;rw[Ap,];rw[alV hl])
 let e:acI ks=.int (aG ks).length:=by
  clear hl p z;cases ks using A8 with
  |nil=>rfl
  |cons k l=>delta aG;rw[Ap,];rfl
 rw[<-e]at z;rw[X.ap p rfl λQ Q=>pV rfl ⟨decide_eq_false<|Int.lt_irrefl a,trivial⟩ (bp z) λQ Q=>pF rfl Z9]
def aiN(F:Nat):Env:=⟨bd [25,7],-F,3,[],S "TopologicalSorter.done.<locals>.",Y 825,.ref 824,Y<| -F,0⟩
def akZ(F it:Nat):BC:=hU [25,7,2,4] (.ref<| -it)<|aiN F
def ak0(F it:Nat):BC:=hU [25,7,2] (.ref<| -it)<|aiN F
def dn3(g:So)(V:Nat):List<|SV×SV:=[(sS "self",rf g.so),(sS "nodes",rf V),(sS "n2i",rf g.nd)]
def zG(g:So)(V:Nat)(k:U)(ia:Nat):List<|SV×SV:=dn3 g V++[(sS "node",.str k),(sS "nodeinfo",rf ia),(sS "stat",.int<|-1)]
def zH:Option (U×Nat)->!(SV×SV)
 |none=>[]
 |some p=>[(sS "successor",.str p.1),(sS "successor_info",rf p.2)]
def dnP(g:So)(V:Nat):Option ((U×Nat)×Option (U×Nat))->!(SV×SV)
 |none=>dn3 g V
 |some (p,o)=>zG g V p.1 p.2++zH o
def tpJ(V j:Nat):SO:=.fld (.type "tuple_iterator") [rf V,.int j]
noncomputable def kl(m:!Nd)(k:U):Option Nd:=m.find? λv=>v.k==k
abbrev Dn:=!Nd×!U×Option (U×Nat)
def fR(p:Dn)(k:U):Dn:=match kl p.1 k with
 |some s=>(bQ p.1 k<|s.np-1,if s.np-1==0 then p.2.1++[k]else p.2.1,Y (k,s.ia))
 |none=>p
noncomputable def c8:!U->Dn->Dn
 |[],p=>p
 |k::r,p=>c8 r<|fR p k
def liK(it:Nat)(v:Nd)(j:Nat)(aa:!Nd)(x:SV):X:=(tD (-it) (-v.sa) Lt (aG v.sc) j x).kt.inB<|aa.flatMap bj
def leK(it:Nat)(v:Nd)(j:Nat)(aa:!Nd):X:=(uY (-it) (-v.sa) Lt (aG v.sc) j).kt.inB<|aa.flatMap bj
def x6(g:So)(rl:Nat)(a b:Int)(F it V:Nat)(v:Nd)(j:Nat)(dl:DL)(m:!Nd)(rs:!U)(o:Option<|U×Nat)(q:Dn):X:={ec:=.am<|akZ F it,ai:=470,pre:=[(-F,.ns Fr<|zG g V v.k v.ia++zH o),(-it,vh v.sa j),(-g.so,ca g),(-g.sd,cu g (rf rl) a b),(-rl,.seq Lt<|aG rs)],aj:=[[(-g.nd,aM dl)],m.flatMap bj],ab:=λQ=>.au .next,post:=λy=>[.ns Fr<|zG g V v.k v.ia++zH q.2.2,.fld (.type "list_iterator")<|y.l 0,ca g,cu g (rf rl) a b,.seq Lt<|aG q.2.1],af:=λQ=>[[(-g.nd,aM dl)],q.1.flatMap bj]}
section
variable(g:So)(rl:Nat)(a b:Int)(F it vt:Nat)(v s:Nd)(j:Nat)(dl:DL)(m:!Nd)(rs:!U)(o:Option (U×Nat))(q:Dn)
noncomputable def x7:List<|!Nat:=[[0,0,0,0],[0,0,0,0,0,0,0,0,0,0,0,0],[0,0,0,0,0,0],[0]]
def zI(nx:Nt):Nt:=.v [0,2,2] (liK it v j m<|.str s.k) [1] [[1]] λQ=>.ob [[1,1,1,1],[],[],[]] (-g.nd) (aM dl)<|.v [] (zC g.nd s.k dl<|rf s.ia) [] [[0]] λQ=>.ob ([1,1,1]::x7++[[0],[0,0,0]]) (-s.ia) (cq s)<|.v [0] (wM m s<|s.np-1) [] [[1]] λQ=>.ob ([1]::x7) (-s.ia) (cq {s with np:=s.np-1}) nx
def dwG(ns:!Nat)(rs:!U)(qs:!Prop):Nt:=.use ns (x6 g rl a b F it vt v (j+1) dl (bQ m s.k<|s.np-1) rs (Y (s.k,s.ia)) q) As [0,1,2,3,4] [O,J,J,J,J] [[0],[1]] qs λx=>.g [] [0,1,2,3,4] [[.b 0],[.b 1]] x.y
end
section
variable{v:Nd}{dl:DL}{m:!Nd}
def ak1(i:(-v.sa,SO.seq Lt (aG v.sc))∈m.flatMap bj)(h:v.sc[j]?=Y x):(liK it v j m<|.str x).Holds w:=fg (di (d7 w (-it) (-v.sa) Lt (aG v.sc) j (.str x) (by delta aG;rw[AG,h];rfl)) (λQ h=>h) λQ h=>h) i
def my(h:kl m k=Y s):s∈m/\s.k=k:=⟨FU h,BX<|Jw (p:=λv:Nd=>v.k==k) h⟩
def afe(h:k∈m.map (·.k)):∃s,kl m k=Y s:=by
 let(s,H,rfl):=AM.mp h;clear h;cases e:kl m s.k with
 |some x=>rw[(x,rfl)]
 |none=>rw[ZZ (ZY s.k)<|FQ.mp e s H]
def aiO(x:∃e∈m,e.sa=v.sa/\e.sc=v.sc):(-v.sa,SO.seq Lt (aG v.sc))∈m.flatMap bj:=by let(e,h,H,b):=x;rw[<-H,<-b];rw[df h iW]
def aff(h:s∈m)(c:(m.map (·.k)).Nodup):{s with np:=q}∈bQ m s.k q:=by let(l1,l2,rfl):=BS h;rw[abh c,];rw[Aq _ aE]
def iN m k q:aT (bQ m k q)=aT m:=by
 delta aT bQ;rw[BW,];rw[DH λv Q=>?_]
 show((if v.k==k then{v with np:=q}else v:Nd).k,rf (if v.k==k then{v with np:=q}else v:Nd).ia)=_;split<;>rfl
def arW:∀(c:!U)(j:Nat)(m:!Nd)(rs:!U)(o:Option<|U×Nat),v.sc.drop j=c->(∃e∈m,e.sa=v.sa/\e.sc=v.sc)->(m.map (·.k)).Nodup->(∀k∈c,k∈m.map (·.k))->dl=aT m->rs.length+c.length<1000->(x6 g rl a b F it V v j dl m rs o<|c8 c (m,rs,o)).Holds w:=by
 cases _ with
 |nil=>
  intro j m rs o n x d A B i;let e:v.sc[j]?=As:=by rw[<-Bp j,<-Bb,n];rfl
  rw[X.ap (F:=900) (nt:=λ_ _=>.v [0,2,2] (leK it v j m) [1] [[1]] λ_=>.g [6] [0,1,2,3,4] [[.b 0],[.b 1]] {y0 with l:=λ_=>[.none,.int j]}) (by induction o<;>rw[aF]) rfl λ_ _=>pU rfl (fg (di (fL w (-it) (-v.sa) Lt (aG v.sc) j (by delta aG;rw[AG,e];rfl)) (λ_ e=>e) λ_ e=>e)<|aiO x) λ_ _=>pF rfl Z9]
 |cons k c I=>
  intro j m rs o n x d A B i;let i:rs.length+(c.length+1)<1000:=i;let(s,M):=afe<|A k aE;let(r,rfl):=my M;let E:v.sc.drop (j+1)=c:=by rw[<-BU,n];rfl
  let I:=λG i=>I (j+1) (bQ m s.k<|s.np-1) G (Y (s.k,s.ia)) E (by
    let(e,he,h1,h2):=x;rw[(_,Av he,?_)]
    split<;>rw[(h1,h2)]) (by rw[bL,];rw[d]) (λk h=>by rw[bL,];rw[A k<|.tail _ h]) (by rw[iN,];rw[B]) i
  let es:fR (m,rs,o) s.k=(bQ m s.k<|s.np-1,if s.np-1==0 then rs++[s.k]else rs,Y (s.k,s.ia)):=by delta fR;rw[M,]
  refine_lift let L:Rd:=[(-g.nd,aM dl)];?_
  let H:∀{C:X}{nx:Nt},nx.Pure w As C [L,(bQ m s.k<|s.np-1).flatMap bj]->(zI g it v s j dl m nx).Pure w As C [L,m.flatMap bj]:=λ{C nx} h=>pU rfl (ak1 (aiO x) (by rw[<-Bp j,<-Bb,n];rfl)) λ_ _=>pO rfl aE (pU rfl (afd (by rw[B,];rw[mv d r])) λ_ _=>by
   show Nt.Pure w As C _ [L,m.flatMap bj]
   rw[pO rfl (AT ce<|df r aE)<|pU rfl (pt w _ r d) λ_ _=>pO rfl (AT ce<|df (aff r d) aE) h])
  show(x6 g rl a b F it V v j dl m rs o<|c8 c<|fR (m,rs,o) s.k).Holds w;rw[es,];clear es;cases N:(s.np-1==0)with
  |false=>rw[X.ap (F:=900) (nt:=λ_ _=>zI g it v s j dl m<|dwG g rl a b F it V v s j dl m (c8 c {fst:=bQ m s.k<|instHSub.hSub s.np 1,snd:={fst:=ite (Eq O J) (instHAppendOfAppend.hAppend rs<|Bc s.k Ck) rs,snd:=Y {fst:=s.k,snd:=s.ia}}}) [14,0] rs [(s.np-1==0)=O]) (by induction o<;>rw[aF]) rfl λ_ _=>H<|pV rfl ⟨N,trivial⟩ (I rs<|alX (by assumption)) λ_ _=>pF rfl Z9]
  |true=>rw[X.ap (F:=900) (nt:=λ_ _=>zI g it v s j dl m<|.use (dg 22 0x515555403300030000311e) (hN As "list.append" [.ref<| -rl,.str s.k] (-rl) (.seq Lt<|aG rs) (.seq Lt<|aG<|instHAppendOfAppend.hAppend rs<|Bc s.k Ck)<|.ok .none) As [4] [J] [] [(s.np-1==0)=J] λ_=>dwG g rl a b F it V v s j dl m (c8 c {fst:=bQ m s.k<|instHSub.hSub s.np 1,snd:={fst:=ite (Eq J J) (instHAppendOfAppend.hAppend rs<|Bc s.k Ck) rs,snd:=Y {fst:=s.k,snd:=s.ia}}}) [] (instHAppendOfAppend.hAppend rs<|Bc s.k Ck) []) (by induction o<;>rw[aF]) rfl λ_ _=>H (pV rfl ⟨N,trivial⟩ (by
    rw[l7,]
    rw[aP w _ _ _ (by delta aG;rw[Ap,];rw[alY (by assumption)])]) λ_ _=>pU rfl (I _ (by rw[Ay,Ci];rw[ahE (by assumption)])) λ_ _=>pF rfl Z9)]
end
abbrev Do:=!Nd×!U
def qU(p:Do)(k:U):Do:=match kl p.1 k with
 |some d=>((c8 d.sc (bQ p.1 k<|-2,p.2,As)).1,(c8 d.sc (bQ p.1 k<|-2,p.2,As)).2.1)
 |none=>p
noncomputable def ro:!U->Do->Do
 |[],p=>p
 |k::r,p=>ro r<|qU p k
noncomputable def tO:!U->Do->Prop
 |[],_=>True
 |k::r,p=>(∃d,A4 (kl p.1 k=Y d) (d.np=-1) (∀s∈d.sc,s∈p.1.map (·.k))<|p.2.length+d.sc.length<1000)/\tO r (qU p k)
noncomputable def oP:Option ((U×Nat)×Option (U×Nat))->Option (U×Nat)
 |none=>As
 |some (_,o)=>o
def tnK(it V j:Nat)(ks:!U)(k:U):X:=(arc (-it) (-V) Tt (aG ks) j<|.str k).kt.wth (-V)<|.seq Tt<|aG ks
def teK(it V j:Nat)(ks:!U):X:=(ard (-it) (-V) Tt (aG ks) j).kt.wth (-V)<|.seq Tt<|aG ks
def geV(a:Nat)(k:U)(dl:DL)(v:SV):X:={ec:=.bi "dict.get" [.ref<| -a,.str k] [],ai:=400,aj:=[[(-a,aM dl)]],ab:=λQ=>.ok v,af:=λQ=>[[(-a,aM dl)]]}
def wN(g:So)(rl:Nat)(a b:Int)(F it V j:Nat)(ks:!U)(dl:DL)(m:!Nd)(rs:!U)(p:Option<|(U×Nat)×Option (U×Nat))(G:Int)(q:Do):X:={ec:=.am<|ak0 F it,ai:=480,pre:=[(-F,.ns Fr<|dnP g V p),(-it,tpJ V j),(-V,.seq Tt<|aG ks),(-g.so,ca g),(-g.sd,cu g (rf rl) a b),(-rl,.seq Lt<|aG rs)],aj:=[[(-g.nd,aM dl)],m.flatMap bj],ab:=λQ=>.au .next,post:=λy=>[.ns Fr<|y.u.fs 0,.fld (.type "tuple_iterator")<|y.l 0,.seq Tt<|aG ks,ca g,cu g (rf rl) a G,.seq Lt<|aG q.2],af:=λQ=>[[(-g.nd,aM dl)],q.1.flatMap bj]}
def dnN(g:So)(rl:Nat)(a b:Int)(ks:!U)(dl:DL)(m:!Nd)(rs:!U)(G:Int)(q:Do):X:={ec:=.call (.ref 825) (rf g.so::ks.map .str) [],ai:=490,pre:=[(-g.so,ca g),(-g.sd,cu g (rf rl) a b),(-rl,.seq Lt<|aG rs)],aj:=[[(-g.nd,aM dl)],m.flatMap bj],ab:=λQ=>.ok .none,post:=λQ=>[ca g,cu g (rf rl) a G,.seq Lt<|aG q.2],af:=λQ=>[[(-g.nd,aM dl)],q.1.flatMap bj]}
section
variable(g:So)(rl:Nat)(a b:Int)(F it vt j:Nat)(ks:!U)(d:Nd)(dl:DL)(m:!Nd)(rs:!U)(p:Option ((U×Nat)×Option (U×Nat)))(b':Int)(q:Do)(e:Dn)
noncomputable def k6:!Bool:=[J,J,J,J,J,J]
noncomputable def i6:!Nat:=[0,1,2,3,4,5]
def arX:Nt:=.v [0,2,2] (tnK it vt j ks d.k) [1,2] [] λQ=>.ob [[1,1,1],[],[],[],[1]] (-g.nd) (aM dl) (.v [] (geV g.nd d.k dl<|rf d.ia) [] [[0]] λQ=>.ob ([1,1,1]::x7++[[1,1,1,0,0,0,1],[0,0,0]]) (-d.ia) (cq {d with np:=-1}) (.v [0] (wM m {d with np:=-1}<|-2) [] [[1]] λc=>
 .ob ([1]::x7) (-d.ia) (cq {d with np:=-2}) (.ob [[],[],[]] (-d.sa) (.seq Lt<|aG d.sc) (.u [0,7] (x6 g rl a b F (c.t 1) vt d 0 dl (bQ m d.k<|-2) rs (oP p) e) [0,6,3,4,5] [O,O,J,J,J] [[0],[1]] λQ=>
 .use (dg 33 0x555040004040040004050440004000041) (wN g rl a (b+1) F it vt (j+1) ks dl e.1 e.2.1 (Y ((d.k,d.ia),e.2.2)) b' q) As i6 [J,J,J,J,O,J] [[0],[1]] [] λx=>.f [] i6 k6 [[.b 0],[.b 1]] x.y))))
def agY w:aR w (wN g rl a b F it vt j ks dl m rs p b' q) 900 λQ Q=>arX g rl a b F it vt j ks d dl m rs p b' q e:=by rcases p with _|⟨⟨s,i⟩,_|⟨c,L⟩⟩<;>rw[aF]
def agZ w (h:ks.length<=5):aR w (dnN g rl a b ks dl m rs b' q) 1500 λQ N=>.u (dg 42 0x604445552011000100001520110001000015555500) (wN g rl a b (N+1) (N+2) N 0 ks dl m rs As b' q) [4,5,3,0,1,2] [O,O,O,J,J,J] [[0],[1]] λQ=>.g [] [0,1,2] [[.b 0],[.b 1]] y0:=by rw[len5 ks h aF (λQ=>aF) (λQ Q=>aF) (λQ Q Q=>aF) (λQ Q Q Q=>aF) λQ Q Q Q Q=>aF]
end
def ak2:∀(c:!U)(m:!Nd)(rs:!U)(o I:Option<|U×Nat),(c8 c (m,rs,o)).1=(c8 c (m,rs,I)).1/\(c8 c (m,rs,o)).2.1=(c8 c (m,rs,I)).2.1:=by
 cases _ with
 |nil=>intro _ _ _ _;rw[(rfl,rfl)]
 |cons k c i=>
  intro m rs o I;show(c8 c<|fR (m,rs,o) k).1=(c8 c<|fR (m,rs,I) k).1/\(c8 c<|fR (m,rs,o) k).2.1=(c8 c<|fR (m,rs,I) k).2.1;delta fR;cases kl m k with
  |none=>rw[i m rs o I]
  |some s=>rw[(rfl,rfl)]
def aaB:∀(c:!U)(p:Dn),(c8 c p).1.map (·.k)=p.1.map (·.k)/\aT (c8 c p).1=aT p.1:=by
 cases _ with
 |nil=>intro p;rw[(rfl,rfl)]
 |cons k c i=>
  intro p;let z:=i<|fR p k
  let e:(fR p k).1.map (·.k)=p.1.map (·.k)/\aT (fR p k).1=aT p.1:=by
   delta fR;cases kl p.1 k with
   |none=>rw[(rfl,rfl)]
   |some s=>rw[(bL _ _ _,iN _ _ _)]
  rw[(z.1.trans e.1,z.2.trans e.2)]
section
variable{dl:DL}
def ak3{a:Nat}{k:U}{dl:DL}{v:SV}(h:cU dl k=Y v):(geV a k dl v).Holds w:=rZ (R:=[(-a,aM dl)]) (oJ w _ _ _ _ (by rw[h,];rfl)<|qQ _) (λQ h=>h) λh H Q=>H _ aE
def arY:∀(r:!U)(j:Nat)(b:Int)(m:!Nd)(rs:!U)(p:Option<|(U×Nat)×Option (U×Nat)),ks.drop j=r->(m.map (·.k)).Nodup->dl=aT m->tO r (m,rs)->(wN g rl a b F it V j ks dl m rs p (b+r.length)<|ro r (m,rs)).Holds w:=by
 cases _ with
 |nil=>
  intro j b m rs p x c A ok;let e:(aG ks)[j]?=As:=by delta aG;rw[AG,<-Bp j,<-Bb,x];rfl
  rw[show b+(([]:!U).length:Int)=b from ES b,];rw[X.ap (F:=900) (nt:=λ_ _=>.v [0,2,2] (teK it V j ks) [1,2] [] λ_=>.f [7] i6 k6 [[.b 0],[.b 1]] {y0 with l:=λ_=>[.none,.int j],u:={y0.u with fs:=λ_=>dnP g V p}}) (by rcases p with _|⟨⟨s,i⟩,_|⟨s2,i2⟩⟩<;>rw[aF]) rfl λ_ _=>pU rfl (di (ajO w _ _ _ _ _ e) (λ_ h=>h) λ_ h=>h) λ_ _=>pF rfl Z9]
 |cons k r I=>
  intro j b m rs p x c A ok;let e:(aG ks)[j]?=Y (.str k):=by delta aG;rw[AG,<-Bp j,<-Bb,x];rfl
  let((d,B,L,M,N),ok):=ok;let B:kl m k=Y d:=B;let(C,rfl):=my B;let ed:d={d with np:=-1}:=by rw[<-L]
  refine_lift let G:=(bQ m d.k<|-2,rs,oP p);?_;refine_lift let E:=c8 d.sc G;?_;let es:qU (m,rs) d.k=(E.1,E.2.1):=by delta qU;rw[B,];let(z1,z2):=ak2 d.sc (bQ m d.k<|-2) rs As<|oP p;dsimp only;rw[z1,z2]
  let n:{d with np:=-1}∈m:=ed▸C;let H:{d with np:=-2}∈bQ m d.k (-2):=aff C c;let(k1,k2):=aaB d.sc G;rw[es]at ok;let eb:b+((d.k::r).length:Int)=b+1+(r.length:Int):=by rw[(Z8 (b+·)<|EK r.length 1).trans (D8 b 1 r.length).symm]
  show(wN g rl a b F it V j ks dl m rs p (b+((d.k::r).length:Int))<|ro r<|qU (m,rs) d.k).Holds w;rw[es,eb];rw[X.ap (agY g rl a b F it V j ks d dl m rs p _ _ E w) rfl λ_ _=>pU rfl (di (ajN w _ _ _ _ _ _ e) (λ_ h=>h) λ_ h=>h) λ_ _=>pO rfl aE<|pU rfl (ak3 (by rw[A,];rw[mv c C])) λ_ _=>?_]
  rw[pO rfl (AT ce<|df n aE)<|pU rfl (pt w _ n c) λx2 _=>?_]
  rw[pO rfl (AT ce<|df H aE)<|pO rfl (AT ce<|df H iW)<|pU rfl (arW d.sc 0 (bQ m d.k<|-2) rs (oP p) rfl ⟨_,H,rfl,rfl⟩ (by rw[bL,];rw[c]) (λs hs=>by rw[bL,];rw[M s hs]) (by rw[iN,];rw[A]) N) λ_ _=>pU rfl (I (j+1) (b+1) _ _ _ (by rw[<-BU,x];rfl) (by rw[k1,bL];rw[c]) (by rw[k2,iN];rw[A]) ok) λ_ _=>pF rfl Z9]
end
section
set_option backward.match.sparseCases true
open PySem.Builtin
section
def abi(e:c="list"\/c="tuple")(hl:s.heap.get? l=Y (JT c vs.toArray n))
  (h:Q vs {s with heap:=(s.heap.push<|JT "list" #[] 0).update s.heap.objs.size<|DY (·++vs.toArray)})(d:vs.length<=AO):
  A0 (AN b w) A (collect<|.ref l) Q E s:=by
 rw[Al<|JP<|AZ entry_proto_collect' ?_];show A0 _ _ (do K6 (.builtin "list.__iadd__" ⟨[<-newList [],.ref l],[]⟩)) _ _ s;rw[Al<|J1<|Aw ⟨Code.quiet_builtin _ (by decide+kernel),AZ Gr ?_⟩];refine_lift let C:=JT "list" #[] 0;?_;show A0 _ _ (FI (.ref s.heap.objs.size) (.ref l)<|.ref s.heap.objs.size) _ _ {s with heap:=s.heap.push C};let H:(s.heap.push C).get? l=Y (JT c vs.toArray n):=AU _ hl;rw[Al<|IV (T:=c) ⟨_,H,rfl⟩ ?_];let i:(EF c==EF "list"||EF c==EF "tuple")=J:=by clear hl H;rcases e with rfl|rfl<;>rfl
 rw[Z0 (by first|exact i|(rcases e with rfl|rfl<;>simp)),];rw[Al<|GI H rfl ?_];rw[Al<|GI (xs:=#[]) (n:=0) (BB _ rfl) rfl ?_];rw[Al<|J2 (xs:=#[]) (n:=0) (BB _ rfl) rfl ?_ (Bd _) (by show(#[]++vs.toArray).size<=AO+1;simp only[Ga,FZ,BJ];rw[alZ d])];rw[Aw ?_]
 show A0 (AN b w) A (do
   let o<-load s.heap.objs.size
   match o.data with
   |.seq xs _=>pure xs.toList
   |_=>KD "internal:collect") Q E {s with heap:=(s.heap.push C).update s.heap.objs.size<|DY (·++vs.toArray)}
 rw[Al<|Iv (get?_update_seq (BB _ rfl) _) ?_];show A0 _ _ (pure ((#[]:Array AF)++vs.toArray).toList) Q E _;rw[show((#[]:Array AF)++vs.toArray).toList=vs by simp,];rw[Aw h]
end
noncomputable def nW(a b:U):Bool:=decide<|a.cps.toList<=b.cps.toList
def d9(l:!U):!U:=l.mergeSort nW
def ach(p:m.Perm l)(h:m.Pairwise λa b=>a.cps.toList<=b.cps.toList):m=d9 l:=by
 let i:∀a b c:U,nW a b=J->nW b c=J->nW a c=J:=λa b c x y=>by delta nW at*;simp only[ZV]at*;rw[Ic x y]
 let d:∀a b:U,(nW a b||nW b a)=J:=λa b=>by delta nW;rw[D7,];simp only[ZV];rw[J3 ..]
 rw[(p.trans (HD l nW).symm).eq_of_pairwise (le:=λa b:U=>a.cps.toList<=b.cps.toList) (λa b Q Q x y=>?_) h<|(Gt i d l).imp λz=>of_decide_eq_true z]
 let e:=List.le_antisymm x y;let⟨⟨a⟩⟩:=a;let⟨⟨b⟩⟩:=b;let e:a=b:=e;rw[e,]
def aaC:∀{l:!U}{p:U},risingS p l=J->(∀x∈l,p.cps.toList<=x.cps.toList)/\l.Pairwise λa b=>a.cps.toList<=b.cps.toList:=by
 cases _ with
 |nil=>intro _ _;rw[((λw h=>nomatch h),.nil)]
 |cons x l i=>
  intro p h;let h:((not<|Spec.ltCps x.cps.toList p.cps.toList)&&risingS x l)=J:=h;rw[Bool.and_eq_true,ltCps_eq,Bool.not_eq_true',decide_eq_false_iff_not]at h;let(a,b):=i h.2;let c:=List.not_lt.mp h.1;rw[(λy B=>?_,.cons a b)];clear h;rcases Ar.mp B with rfl|B
  .rw[c]
  .rw[Ic c<|a y B]
theorem aci:∀{vs:!AF}{c:!U},vs.map aC=aG c->IP vs c
 |[],[],_=>.nil
 |[],_::_,h=>by cases h
 |_::_,[],h=>by cases h
 |v::vs,x::c,h=>by let(H,e):=DF h;clear h;let(t,rfl):=bA H;rw[.cons _ _<|aci e]
def ag0(h:IP vs c):vs.map aC=aG c:=by
 cases h with
 |nil=>rfl
 |cons y t _ i=>rw[Z8 (SV.str y::·) i]
def soC(c:String)(l:Nat)(b:!U):Ct:=⟨.bi "sorted" [rf l] [],As,420,[(-l,.seq (.type c)<|aG b)],1,λy=>.ok<|.ref<|nu y 0,λQ=>[.seq (.type c)<|aG b],λQ=>[.seq Lt<|aG<|d9 b],hG,λQ=>True,λQ Q Q=>True⟩
def x8(c:String)(l:Nat)(b:!U):X:={ec:=.bi "sorted" [rf l] [],ai:=420,pre:=[(-l,.seq (.type c)<|aG b)],ab:=λy=>.ok<|rf<|y.n 0,post:=λQ=>[.seq (.type c)<|aG b],af:=λy=>[[(-y.n 0,.seq Lt<|aG<|d9 b)]]}
def afg(w:AW)(hc:c="list"\/c="tuple") l d (hl:d.length<64):(x8 c l d).Holds w:=
 X.perm [] (dX ((by
   intro A cd s ec hA hd St hs nd af hp;let(_,rfl):=aS ec;let(o,L,M):=hs _ aE;clear ec;let(⟨vs⟩,n,rfl,r):=c0 M;let r:=r;let B:=St.big;let lv:vs.length=d.length:=by let z:=Z8 Eh r;unfold aG at z;rw[Ap,Ap]at z;rw[z]
   let C:=aci r;rw[AZ (id:="sorted") entry_sorted ?_];rw[Bx plain_sorted,];rw[Al (m:=checkCount "sorted" 1 1 _) (Aw ?_)];rw[Al (abi (c:=c) hc (vs:=vs) (n:=n) L ?_ (by rw[lv,];rw[Ax (Kj hl) (by decide)]))];rw[Al (J1 ?_)];refine_lift let E:=(s.heap.push<|JT "list" #[] 0).update s.heap.objs.size (DY (·++vs.toArray));?_;let H:E.objs.size=s.heap.objs.size+1:=by rw[Heap.size_update,size_push']
   refine_lift let G:=JT "list" vs.toArray 0;?_;let i:(E.push G).get? (s.heap.objs.size+1)=Y G:=by rw[<-H];rw[BB _ rfl]
   show A0 _ _ _ _ _ {s with heap:=E.push G};rw[H,];rw[Al (BP<|CT slot_list_sort ⟨_,i,rfl⟩ entry_list_sort (list_sort_treeK strKind_oneLt i C.keysOf (λV N Q e=>keyKind_strs (by rw[<-e];rw[C])) (al0 hl lv) λj a1 a2=>⟨_,rfl,?_⟩)<|args_list_sort _)];let(k,b1,b2,b3):=sorted_out_str C a1 a2
   let eS:=ach b2 (by
     clear b1 b2;cases k with
     |nil=>rw[.nil]
     |cons x k=>rw[.cons (aaC b3).1 (aaC b3).2])
   clear b2 b3;subst eS;let(e,he):=sortedAll_at s.heap vs ((arrOf j).map (·.2));let e0:=Bo (Bz B);rw[Aw ⟨⟨λb o' e' _=>J4 e',Ax (CE _)<|Kj<|AP he,rfl,rfl,rfl⟩,yA [s.heap.objs.size+1-902],Z8 (λa=>EE.ok<|.ref a) e0.symm,λq I=>?_,rfl,λq I=>?_,rfl,λb hb=>?_,AC.mpr ⟨(λh=>nomatch h),AS⟩,trivial⟩]
   .clear b1;cases Au.mp (show q∈[(-l,SO.seq (.type c) (aG d))]from I);rw[(_,J4 L,M)]
   .cases Au.mp (show q∈[(s.heap.objs.size+1-902+902,SO.seq Lt (aG (d9 d)))]from I);dsimp only;rw[e0,];rw[(_,he,?_)];show SO.seq Lt (((arrOf j).map (·.2)).toList.map aC)=_;rw[ag0 b1,]
   .clear b1;cases Au.mp (show b∈[s.heap.objs.size+1-902+902]from hb);rw[e0,]
    rw[CE _]):(soC c l d).Holds w) (λ_ h=>h) λ_=>Z9) rfl rfl (AA _) (.inl rfl) (.refl _) λy _ _ _=>⟨y,rfl,rfl,rfl,.refl _,trivial⟩
def iaT(a b:AL)(ys:!SV):Ct:=⟨.bi "list.__iadd__" [.ref a,.ref b] [],As,400,[(a,.seq Lt [])],0,λQ=>.ok<|.ref a,λQ=>[.seq Lt ys],λQ=>[],hG,λh=>bh h b<|.seq Tt ys,λQ Q Q=>True⟩
def iaV(a b:AL)(ys:!SV):X:=(iaT a b ys).kt.wth b<|.seq Tt ys
def ak4 w a b ys (hl:ys.length<2^20):(iaV a b ys).Holds w:=di (by
  intro A c s ec M r St B _ _ C;let(_,rfl):=aS ec;let(I,n,H,j):=cp (B _ aE);let(i,Q,d,k):=cp C;let e0:=Ir (DG.mp j);clear ec j;subst e0;let l:i.size=ys.length:=by rw[<-k,Ap];rfl
  let lim:i.size<=AO:=by have:AO=2^24:=rfl;rw[l,];rw[al1 hl]
  rw[AZ (id:="list.__iadd__") Gr ?_];rw[Bx (by decide+kernel:C8 "list.__iadd__"=J),];show A0 _ _ (FI (.ref a) (.ref b)<|.ref a) _ _ s;rw[Al (IV (T:="tuple") ⟨_,d,rfl⟩ ?_)];rw[Z0 (by rw[show(EF "tuple"==EF "tuple")=J from rfl,Bool.or_true]),];rw[Al (GI d rfl ?_)];rw[Al (GI H rfl ?_)];rw[Z7 (by simp),];rw[Al (J2 H rfl ?_ (Bd _) (by simp only[Ga,FZ,BJ];rw[al2 hl l]))];rw[Aw ?_];let m:=Bn (h:=s.heap) (a:=a) (f:=DY λx=>x++i);let E:=Bg (h:=s.heap) (a:=a) (DY λx=>x++i) H rfl;rw[(⟨λx o G N=>(m.2 x λe=>N<|.inl (by rw[e,];rw[aE])).trans G,AY m.1.symm,rfl,rfl,rfl⟩,y0,rfl,λq L=>?_,rfl,(λV h=>nomatch h),rfl,(λV h=>nomatch h),AS,trivial)];rw[Au.mp (show q∈[(a,SO.seq Lt ys)]from L),];rw[(_,E,?_)];show SO.seq Lt ((#[]++i).toList.map aC)=_
  rw[DX,k]) (λV h=>h) λV h=>h
end
def ft(F:Nat):Env:=⟨bd [33],-F,3,[],S "_law_rounds.<locals>.",Y 891,.ref 890,Y<| -F,0⟩
def ak5(F it:Nat):BC:=hU [33,2] (.ref<| -it)<|ft F
def og(gd rw :Nat)(rg:SV)(g:So):List<|SV×SV:=[(sS "graph",rf gd),(sS "ring",rg),(sS "rounds",rf rw),(sS "sorter",rf g.so)]
def sr:Option Nat->SV
 |none=>.none
 |some a=>rf a
def rnO:Option (Int×Nat)->!(SV×SV)
 |none=>[]
 |some p=>[(sS "step",.int p.1),(sS "group",rf p.2)]
def zJ(it:Nat)(k m:Int):X:=(y7 (-it) k m 1).kt
structure Rw where
 t:Nat
 s:Nat
noncomputable def sv:!(!U)->!Rw->Rd
 |k::G,p::ts=>[(-p.t,.seq Tt [.bool J,rf p.s]),(-p.s,.seq Lt<|aG<|d9 k)]++sv G ts
 |_,_=>[]
def x9(F it gd rw :Nat)(rg:Option Nat)(g:So)(rl:Nat)(k m a:Int)(o:Option<|Int×Nat)(s0:List<|Option SV)(dl:DL)(aa:!Nd)(ks:!U)(ae:!SV)(G:List<|!U):X:={ec:=.am<|ak5 F it,ai:=600,pre:=[(-F,aI (og gd rw (sr rg) g++rnO o) s0),(-it,j3 k m 1),(-g.so,ca g),(-g.sd,cu g (rf rl) a a),(-rl,.seq Lt<|aG ks),(-rw,.seq Lt ae)],aj:=[[(-g.nd,aM dl)],aa.flatMap bj],ab:=λQ=>.au .next,post:=λy=>[aI (og gd rw (sr rg) g++y.u.fs 0) y.u.x.sl,.fld (.type "range_iterator")<|y.l 0,ca g,.ns tA<|y.u.fs 1,.seq Lt<|y.l 1,.seq Lt<|y.l 2],af:=λy=>[[(-g.nd,aM dl)],y.r 0],pure:=λy=>∃ts:!Rw,A3 (ts.length=G.length) (y.l 2=ae++(ts.map λp=>rf p.t))<|y.r 0=sv G ts}
def rnB(k:Int):Option (Int×Nat)->!(SV×SV)
 |none=>[(sS "step",.int k)]
 |some p=>[(sS "step",.int k),(sS "group",rf p.2)]
def zK(o:Option<|Int×Nat):Nat:=match o with
 |none=>4
 |some _=>6
noncomputable def jC(ds:!Nd):!U:=ds.map λd=>d.k
def rnY(y:aW)(t s:Nat)(ks:!U):aW:={y with r:=λQ=>(-t,.seq Tt [.bool J,rf s])::(-s,.seq Lt<|aG<|d9 ks)::y.r 0}
section
variable(F it gd rw :Nat)(rg:Option Nat)(g:So)(rl:Nat)(k m a:Int)(o:Option (Int×Nat))(s0:!(Option SV))(dl:DL)(aa ds:!Nd)(ae:!SV)(gs:!!U)(q:Do)
def rnA(ks:!U)(nx:Nt):Nt:=.v [0,2,2] (zJ it k m) [1] [] λQ=>.v (dg 19 0x430000300030003111) (zE g rl a ks) [2,3,4] [] λQ=>nx
def rnT:Nt:=.cx λc=>rnA it g rl k m a (jC ds) (.v (dg 17 0x4300003000300031) (grN g rl a a dl aa ds) [2,3,4] [[0],[1]] λd=>.v (dg 18 0x100700001006666111) (x8 "tuple" (d.y.n 0)<|jC ds) [6] [] λb=>.v [6] (hN As "list.append" [.ref<| -rw,.ref<| -b.t 1] (-rw) (.seq Lt ae) (.seq Lt<|ae++[rf<|b.t 1])<|.ok .none) [5] [] λj=>
 .u (dg 25 0x710000040330000003000031) (iaV (j.t 1+1+902) (-d.y.n 0)<|v6 ds) [9,6] [O,J] [] λQ=>.v [10,9,0,9,9] (dnN g rl (a+ds.length) a (jC ds) dl (gm ds aa) [] (a+ds.length) q) [2,3,4] [[0],[1]] λQ=>
 .u [] (x9 F it gd rw rg g rl (k+1) (m-1) (a+ds.length) (Y (k,d.y.n 0)) (nU c (-F) (zK o) s0) dl q.1 q.2 (ae++[rf<|b.t 1]) gs) [0,1,2,3,4,5] [O,J,J,J,J,J] [[0],[1]] λx=>.g [] [0,1,2,3,4,5] [[.b 0],[.l 7,.b 2,.b 1]]<|rnY x.y (b.t 1) (b.y.n 0)<|jC ds)
def ag1 w (h:ds.length<=5)(H:ds≠[]):aR w (x9 F it gd rw rg g rl k m a o s0 dl aa (jC ds) ae (jC ds::gs)) 1500 λQ Q=>rnT F it gd rw rg g rl k m a o s0 dl aa ds ae gs q:=by revert H;rw[len5 ds h (λe=>ZZ rfl e) (λQ Q=>(by induction o<;>induction rg<;>rw[aF])) (λQ Q Q=>(by induction o<;>induction rg<;>rw[aF])) (λQ Q Q Q=>(by induction o<;>induction rg<;>rw[aF])) (λQ Q Q Q Q=>(by induction o<;>induction rg<;>rw[aF])) λQ Q Q Q Q Q=>(by induction o<;>induction rg<;>rw[aF])]
end
def ade:∀(ds aa:!Nd),(gm ds aa).map (·.k)=aa.map (·.k)/\aT (gm ds aa)=aT aa:=by
 cases _ with
 |nil=>intro _;rw[(rfl,rfl)]
 |cons d ds i=>intro aa;let(a,b):=i<|bQ aa d.k<|-1;rw[(a.trans<|bL _ _ _,b.trans<|iN _ _ _)]
def afh:∀(ks:!U)(p:Do),(ro ks p).1.map (·.k)=p.1.map (·.k)/\aT (ro ks p).1=aT p.1:=by
 cases _ with
 |nil=>intro _;rw[(rfl,rfl)]
 |cons k ks i=>
  intro p;let(a,b):=i<|qU p k
  let e:(qU p k).1.map (·.k)=p.1.map (·.k)/\aT (qU p k).1=aT p.1:=by
   delta qU;cases kl p.1 k with
   |none=>rw[(rfl,rfl)]
   |some d=>let(x,y):=aaB d.sc (bQ p.1 k<|-2,p.2,As);rw[(x.trans<|bL _ _ _,y.trans<|iN _ _ _)]
  rw[(a.trans e.1,b.trans e.2)]
inductive ur:!Nd->!U->!(!U)->Prop
 |stop {aa}:ur aa [] []
 |turn {aa ds gs}:ds≠[]->ds.length<=5->(∀d∈ds,d∈aa)->(jC ds).Nodup->tO (jC ds) (gm ds aa,[])->ur (ro (jC ds) (gm ds aa,[])).1 (ro (jC ds) (gm ds aa,[])).2 gs->ur aa (jC ds) (jC ds::gs)
section
variable{dl:DL}
def pv(h:0<m):(zJ it k m).Holds w:=dX (aaV w _ _ _ _ h) (λQ h=>h) λQ=>Z9
def arZ(T:ur aa ks G):∀(k a:Int)(m:Nat)(o:Option<|Int×Nat)(s0:List<|Option SV)(ae:!SV),G.length<m->ae.length+G.length<1000->(aa.map (·.k)).Nodup->dl=aT aa->(x9 F it gd rw rg g rl k m a o s0 dl aa ks ae G).Holds w:=by
 cases T with
 |@stop aa=>
  intro k a m o s0 ae j n r h;let j:=j
  rw[X.ap (F:=1500) (nt:=λ_ _=>.cx λc=>rnA it g rl k m.cast a [] (.f [] [0,1,2,3,4,5] [O,J,J,J,J,J] [[.b 0],[]] {y0 with
     l:=λi=>(match i with
      |0=>[.int<|k+1,.int<|m.cast-1,.int 1]
      |1=>[]
      |_=>ae)
     u:={y0.u with
      fs:=λi=>(match i with
       |0=>rnB k o
       |_=>[(sS "_node2info",rf g.nd),(sS "_ready_nodes",rf rl),(sS "_npassedout",.int a),(sS "_nfinished",.int a)])
      x:={sl:=nU c (-F) (zK o) s0}}})) (by induction o<;>induction rg<;>rw[aF]) rfl λ_ _=>pX rfl λc=>pU rfl (pv<|ahF (by assumption)) λ_ _=>pU rfl (aiM w g rl a [] (by decide)) λ_ _=>pF rfl ⟨[],rfl,(Az _).symm,rfl⟩]
 |@turn aa b G I H ce iW A hT L=>
  intro k a m o s0 ae j n r h;let n:=n;let ln:(jC b).length=b.length:=Ap ..;let(M,C):=ade b aa;let(k3,N):=afh (jC b) (gm b aa,[]);let e:((gm b aa).map (·.k)).Nodup:=by rw[M,];rw[r]
  let Q:((m:Nat):Int)-1=(m-1:Nat):=al3 (by assumption);rw[X.ap (ag1 F it gd rw rg g rl k m a o s0 dl aa b ae G (ro (jC b) (gm b aa,[])) w H I) rfl λ_ _=>pX rfl λc=>pU rfl (pv<|ahF (by assumption)) λ_ _=>pU rfl (aiM w g rl a _ (by rw[ln,];rw[al4 H])) λ_ _=>pU rfl (by rw[h,];rw[X.ap (agV w g rl a a _ aa b H) rfl λ_ _=>pU rfl (ae3 w _ _ _ (by rw[mx,];rw[rB H])) λ_ _=>agX (λ_=>Z9) H b _ aa (λd h=>⟨ce d h,mv r<|ce d h⟩) iW r]) λV _=>?_]
  refine_lift let E:=a+b.length;?_;rw[pU rfl (afg w (.inr rfl) _ _ (by rw[ln,];rw[al5 H])) λB _=>pU rfl (aP w _ _ _<|al6 (by assumption)) λ_ _=>pU rfl (ak4 w _ _ _ (by rw[mx,];rw[rB H])) λ_ _=>pU rfl ?_ λ_ _=>pU rfl ?_ λx hx=>pF rfl ?_]
  .let z:=(X.ap (agZ g rl E a (jC b) (aT<|gm b aa) (gm b aa) [] _ _ w (by rw[ln,];rw[H])) rfl λ_ _=>pU rfl (arY (jC b) 0 a (gm b aa) [] As rfl e rfl A) λ_ _=>pF rfl Z9);rw[ln,C,<-h]at z;rw[z]
  .let z:=L (k+1) E (m-1) (Y (k,V.y.n 0)) (nU c (-F) (zK o) s0) (ae++[rf<|B.t 1]) (al7 j) (by rw[Ay,Ci];rw[ahE n]) (by rw[k3,];rw[e]) (by rw[N,C];rw[h]);rw[<-Q]at z;rw[z]
  .let(ts,t1,t2,t3):=hx;rw[(⟨B.t 1,B.y.n 0⟩::ts,Z8 (·+1) t1,?_,?_)]
   .show x.y.l 2=_;rw[t2,AD];rfl
   .show(_::_::x.y.r 0)=_;rw[t3,];rfl
end
def avX(e:AF)(env:Env):BC:=r8 [33,1] e env
def auS(e:AF)(env:Env):BC:=match bf [33,1] PW.main.body with
 |some (.Try _ (.ExceptHandler _ n b pos::_) _ _ _)=>.handlers e [.ExceptHandler As n b pos] env
 |_=>.body [] env
def nY(F:Nat):BC:=iM [33]<|ft F
def jD F:(ft F).scope.kind≠.module:=by show(bd [33]).kind≠.module;decide+kernel
noncomputable def jE(ab:Option<|!U)(a:Nat):Option Nat:=match ab with
 |none=>As
 |some _=>Y a
def ya(ab:Option<|!U)(a:Nat):Rd:=match ab with
 |none=>[]
 |some q=>[(-a,.seq Lt<|aG q)]
def rfA(F gd:Nat)(γs:!Ge):X:={ec:=.am<|nY F,ai:=714,pre:=[(-F,aI [(sS "graph",rf gd)] [])],aj:=[[(-gd,aM<|lx γs)],ml γs],ab:=λQ=>.au .next,post:=λy=>[aI (og gd (y.n 3) .none ⟨y.n 0,y.n 1,y.n 2⟩) y.u.x.sl],ao:=λy=>[-y.n 0,-y.n 1,-y.n 2,-y.n 3],al:=λy=>[ca ⟨y.n 0,y.n 1,y.n 2⟩,cu ⟨y.n 0,y.n 1,y.n 2⟩ .none 0 0,aM<|y.d 0,.seq Lt []],af:=λy=>[[(-gd,aM<|lx γs)],ml γs,y.r 0],pure:=λy=>A3 (y.d 0=aT y.u.na) (y.r 0=y.u.na.flatMap bj)<|dM y.u.na=c7 (cF γs) []}
def rfP(F gd rw :Nat)(g:So)(aa:!Nd):X:={wL g aa with ec:=.am<|nY F,ai:=510,ab:=λQ=>.au .next}
def sx(F gd rw :Nat)(g:So)(aa:!Nd)(s0:List<|Option SV):X:=(rfP F gd rw g aa).wf F (og gd rw .none g) (λQ=>og gd rw .none g) s0
def rfQ(F gd rw :Nat)(g:So)(aa:!Nd)(s0:List<|Option SV):X:=(wL g aa).wf F (og gd rw .none g) (λQ=>og gd rw .none g) s0
def rfS(F gd rw rl:Nat)(g:So)(aa:!Nd)(x:Xd)(q:!U):X:={ec:=.am<|auS (.ref<| -x.e)<|ft F,hd:=Y<|.ref<| -x.e,ai:=495,fr:=[ft F],pre:=[(-x.T,.fld Tb x.ts),(-F,aI (og gd rw .none g) x.sl),(-g.so,ca g),(-g.sd,cu g (rf rl) 0 0)],aj:=[[(-g.nd,aM<|aT aa)],aa.flatMap bj,[(-x.e,.fld (.ref 760) x.vs)]],ab:=λQ=>.au .next,post:=λy=>[.fld Tb<|y.l 0,aI (og gd rw (rf<|y.n 0) g) y.u.x.sl,ca g,cu g (rf rl) 0 0],ao:=λy=>[-y.n 0],al:=λQ=>[.seq Lt<|aG q],af:=λQ=>[[(-g.nd,aM<|aT aa)],aa.flatMap bj,[(-x.e,.fld (.ref 760) x.vs)]]}
def rfC(F gd rw rl:Nat)(g:So)(aa:!Nd)(x:Xd)(q:!U):X:=(@wK ⟨Y x.e⟩ g (rf rl) 0 0 aa [(-x.e,.fld (.ref 760) x.vs)]<|Y q).wf F (og gd rw .none g) (λQ=>og gd rw .none g) x.sl
def rfR(F gd rw rl:Nat)(g:So)(rg:Option Nat)(dl:DL)(aa:!Nd)(ks:!U)(G:List<|!U)(s0:List<|Option SV):X:={ec:=.am<|nY F,ai:=610,pre:=[(-F,aI (og gd rw (sr rg) g) s0),(-g.so,ca g),(-g.sd,cu g (rf rl) 0 0),(-rl,.seq Lt<|aG ks),(-rw,.seq Lt [])],aj:=[[(-g.nd,aM dl)],aa.flatMap bj],ab:=λy=>.ok<|rf<|y.n 0,post:=λy=>[aI (y.u.fs 0) y.u.x.sl,ca g,.ns tA<|y.u.fs 1,.seq Lt<|y.l 1,.seq Lt<|y.l 2],ao:=λy=>[-y.n 0],al:=λQ=>[.seq Tt [rf rw,sr rg]],af:=λy=>[[(-g.nd,aM dl)],y.r 0],pure:=λy=>∃ts:!Rw,A3 (ts.length=G.length) (y.l 2=(ts.map λp=>rf p.t))<|y.r 0=sv G ts}
section
variable(w:AW)(F gd rw rl:Nat)(g:So)(γs:!Ge)(aa:!Nd)(s0:!(Option SV))(q:!U)(x:Xd)(rg:Option Nat)(dl:DL)(ks:!U)(gs:!!U)
def afi:dW aio w (rfR F gd rw rl g rg dl aa ks gs s0) 1500 λQ N=>.u (dg 17 0x76660666606660000) (x9 F (N+1) gd rw rg g rl 0 9 0 As s0 dl aa ks [] gs) [0,6,1,2,3,4] [J,O,J,J,J,J] [[0],[1]] λb=>.f [1,1] [0,1,2,3,4,7] [J,J,J,J,J,O] [[.b 0],[.b 1]] {b.y with
  n:=λQ=>b.t 1
  u:={b.y.u with fs:=λi=>(match i with
   |0=>og gd rw (sr rg) g++b.y.u.fs 0
   |i=>b.y.u.fs i)}}:=by induction rg<;>rw[aF]
end
def auT{α:Type}{F so b nd rw gd:α}{K N:!α}:((([F]++[so,b,nd,rw])++([gd]++(K++(N++[]))))++[]).Perm<|[F,so,b,nd,rw]++([gd]++(K++N)):=Tr.pmE [[F],[so],[b],[nd],[rw],[gd],K,N] 0x12801c0628080180400042902007018a02006010000
def auU{α:Type}{F so b nd rw gd:α}{K N:!α}:([F,so,b,nd,rw]++([gd]++(K++N))).Perm<|([F,so,b]++([nd]++(N++[])))++([rw]++([gd]++K)):=Tr.pmE [[F],[so],[b],[nd],[rw],[gd],K,N] 0x41c0600520280830080002500380c50100300800
def auV{α:Type}{F so b rl nd rw gd:α}{K N:!α}:((([F,so,b]++[rl])++([nd]++(N++[])))++([rw]++([gd]++K))).Perm<|[F,so,b,rl,nd,rw]++([]++([gd]++(K++N))):=Tr.pmE [[F],[so],[b],[rl],[nd],[rw],[gd],N,K] 0x12a0200101cc0280801804002900380290180520c0200000
def auW{α:Type}{F so b rl nd rw gd e T:α}{K N:!α}:((([F,so,b]++[e,T,rl])++([nd]++(N++[])))++([rw]++([gd]++K))).Perm<|([T,F,so,b]++([nd]++(N++([e]++[]))))++([rl,rw]++([gd]++K)):=Tr.pmE [[F],[so],[b],[e],[T],[rl],[nd],[rw],[gd],N,K] 0x18a024e0004a05810020c0201800031404802b02007300a020c0200000
def auX{α:Type}{F so b rl nd rw gd e T V:α}{K N:!α}:((([T,F,so,b]++[V])++([nd]++(N++([e]++[]))))++([rl,rw]++([gd]++K))).Perm<|([F,so,b,rl,nd,rw]++([V]++([gd]++(K++N))))++[T,e]:=Tr.pmE [[T],[F],[so],[b],[V],[nd],[e],[rl],[rw],[gd],N,K] 0x4080c681603014702405010030000d581490002803007018a400c0200000
def auY{α:Type}{F so b rl nd rw gd:α}{K N I:!α}:([F,so,b,rl,nd,rw]++(I++([gd]++(K++N)))).Perm<|([F,so,b,rl,rw]++([nd]++(N++[])))++(I++([gd]++K)):=Tr.pmE [[F],[so],[b],[rl],[nd],[rw],[gd],I,K,N] 0x5200900560300e5010030080002d4040120398050100300800
def auZ{α:Type}{F so b rl nd rw gd t:α}{K Z I:!α}:((([F,so,b,rl,rw]++[t])++([nd]++(Z++[])))++(I++([gd]++K))).Perm<|(([F]++[])++([gd]++(K++((t::rw ::(Z++I))++[]))))++[so,b,rl,nd]:=Tr.pmE [[F],[so],[b],[rl],[rw],[t],[nd],[gd],Z,I,K] 0x4140400c015a80601c006012008800031205802a020073140400c0200000
def afj:∀(r:!Nd)(v:SV),∃b,tf r (Y v)=Y b:=by
 cases _ with
 |nil=>intro v;rw[(v,rfl)]
 |cons x r i=>intro _;rw[i<|rf x.ia]
def vj(F gd:Nat)(γs:!Ge)(ab:Option<|!U)(G:List<|!U):X:={ec:=.am<|nY F,ai:=720,pre:=[(-F,aI [(sS "graph",rf gd)] [])],aj:=[[(-gd,aM<|lx γs)],ml γs],ab:=λy=>.ok<|rf<|y.n 0,post:=λy=>[aI (y.u.fs 0) y.u.x.sl],af:=λy=>[[(-gd,aM<|lx γs)],ml γs,y.r 0],pure:=λy=>∃ts:!Rw,ts.length=G.length/\y.r 0=(-y.n 0,.seq Tt [rf<|y.n 1,sr<|jE ab<|y.n 2])::(-y.n 1,.seq Lt<|ts.map λp=>rf p.t)::(sv G ts++ya ab (y.n 2))}
def vk(P:!Pn)(ab:Option<|!U)(G:List<|!U):Prop:=∀n,dM n=P->A5 (n≠[]) (n.length<1000) ((n.map (·.k)).Nodup) (FS n (n.map (·.k)) [] ab) (ur n (cK n) G)
section
def ak6(h:(aa.map (·.k)).Nodup)(D:FS aa (aa.map (·.k)) []<|Y q)(d:x.v 2=.none):(rfS F gd rw rl g aa x q).aq w [ft F]<|Y l:=by
 refine_lift let C:Rd:=[(-x.e,.fld (.ref 760) x.vs)];?_;let e:@tN ⟨Y x.e⟩ C:=λa i=>by cases i;rw[(_,_,aE,by rw[<-d];rfl)]
 let H:=(iJ (K:=@wK ⟨Y x.e⟩ g (rf rl) 0 0 aa C<|Y q) (f0:=og gd rw .none g) (s0:=x.sl) (λQ Q=>⟨rfl,rfl,rfl,rfl,rfl,id⟩) rfl (jD F)<|@aiL ⟨Y x.e⟩ w g (rf rl) 0 0 aa _ _ (ft F::l) e h D)
 rw[X.aB (F:=900) (nt:=λQ Q=>.cx λc=>.ob [[]] (-x.e) (.fld (.ref 760) x.vs) (.use (dg 19 0x430000300030003211) (rfC F gd rw rl g aa x q) (Y [ft F]) [1,2,3] [J,J,J] [[0],[1],[2]] [] λb=>.f [2,2] [0,1,2,3,4] [O,O,J,J,J] [[.b 0],[.b 1],[.b 2]] {yA [b.y.n 0]with
    l:=λQ=>(aQ.fl {c with y:={y0 with u:={x:=x}}} 0).u.x.ts.set 3 .none
    u:={y0.u with x:={sl:=nU b (-F) 4 b.y.u.x.sl}}})) aF rfl λQ Q=>pX rfl λQ=>pO rfl (AT iW aE) ⟨trivial,H,λQ Q=>pF rfl trivial⟩]
def ar0(h2:∀e∈γs,e.ps.length<=2)(hl:γs.length<=10)(hP:vk (c7 (cF γs) []) ab I)(hq:∀q,ab=Y q->q≠[]/\q.length<1000)(hg:I.length<9):(vj F gd γs ab I).aq w []<|Y l:=by
 rw[X.am (d:=nY F) rfl λA s nd=>?_]
 let hfr:(A.under<|nY F).frames=Y (ft F::l):=by show IN (nY F).envs A.frames=_;rw[nd.fs l rfl,];rfl
 let Q:=nd.ai;let M0:=(aK.of nd).perm<|.of_eq (Az _).symm;refine_lift let V:Rd:=[(-gd,aM<|lx γs)];?_
 rw[aeb (c:=nY F) rfl
  (R1:=λB=>lG λg rw b sl=>dM b=c7 (cF γs) []/\aK (vj F gd γs ab I) (Y l) s B ([(-F,aI (og gd rw .none g) sl),(-g.so,ca g),(-g.sd,cu g .none 0 0),(-g.nd,aM<|aT b),(-rw,.seq Lt [])]++(V++(ml γs++b.flatMap bj))))
  (R2:=λv s2=>xm λg rw b sl B q=>A4 (ab=Y q) (dM b=c7 (cF γs) []) (aK (vj F gd γs ab I) (Y l) s B<|(((sx F gd rw g b sl).rz (.ref 760)<|Y .none).pre++((sx F gd rw g b sl).rz (.ref 760)<|Y .none).aj.flatten)++([(-rw,.seq Lt [])]++(V++ml γs)))<|((sx F gd rw g b sl).rz (.ref 760)<|Y .none).ax (Y l) B (.error v) s2)
  (R3:=λs4=>xm λg rw rl b C sl=>dM b=c7 (cF γs) []/\aK (vj F gd γs ab I) (Y l) s s4 ([(-F,aI (og gd rw (sr<|jE ab C) g) sl),(-g.so,ca g),(-g.sd,cu g (rf rl) 0 0),(-rl,.seq Lt<|aG<|cK b),(-g.nd,aM<|aT b),(-rw,.seq Lt [])]++(ya ab C++(V++(ml γs++b.flatMap bj)))))
  ?_ (?_) (?_) λs4 ⟨g,rw,rl,b,C,sl,e,M⟩=>?_]
 .let H:(rfA F gd γs).aw arb w<|Y l:=X.av (F:=1500) (nt:=λ_ _=>.cx λc=>.v [0,1,0,0] (tsN gd γs) [] [[0],[1]] λk=>.f (dg 45 0x111111977677077776770777767707777677077706666) [0,1,2,3,4] [O,J,J,J,O] [[.b 0],[.b 1],[.b 2]] {k.y with
    n:=λi=>(match i with
     |3=>k.t 1
     |i=>k.y.n i)
    u:={k.y.u with x:={sl:=nU c (-F) 1 []}}}) aF rfl λ_ _=>pX rfl λ_=>pU rfl (X.ap (F:=1500) (nt:=(arJ gd γs)) aF rfl λ_ _=>pO rfl aE<|pU rfl (akN w _ _ _) λ_ _=>pO rfl aE<|pU rfl (akM h2 hl) λ_ h=>pF rfl h) λ_ h=>pF rfl h
  rw[aK.gn H nd (aK.need nd M0 rfl nd.hd nd.fs (by rw[al8 Q])<|.inl rfl) M0 λr s' y er E M=>?_]
  let M:=M.perm auT;rw[E.1,E.2]at M;rw[(ch er,⟨y.n 0,y.n 1,y.n 2⟩,y.n 3,y.u.na,y.u.x.sl,E.3,M)]
 .rintro B ⟨g,rw,b,sl,e,M⟩;let(G,p2,L,m,p5):=hP b e;let M:=M.perm auU;clear p5;cases j:ab with
  |none=>
   rw[j]at m
   rw[aK.gn ((by
     clear e;let(v,r,rfl):=FR G;let(ov,ho):=afj r (rf v.ia)
     rw[X.av (F:=1500) (nt:=λ_ _=>.use (dg 17 0x3200002000200021) (rfQ F gd rw g (Bc v r) sl) (Y [ft F]) [0,1,2] [J,J,J] [[0],[1]] [] λk=>.g [] [0,1,2,3] [[.b 0],[.b 1]] k.y) aF rfl λ_ _=>⟨trivial,iJ (K:=wL g<|v::r) (λ_ _=>⟨rfl,rfl,rfl,rfl,rfl,id⟩) rfl (jD F)<|X.aB (F:=1500) (nt:=λ_ N=>zB g (Bc v r) ov N [0,0,3,3,3,1,0,0,0,0,1,0,0,0,1,1,0,2,3,1,0,0,0,0,1,0,0,0,1,1,0,2] [7,7,7,3,1,0,0,0,1,0,0,1,0,1,0,0,0,1,0,2,2,2,3,1,0,0,0,1,0,0,0,1,0,0,0,0,1,2,0] prS As [2,0,1] [O,J,O] λx1 _=>.g [3,3,3] [0,1,5] [[.b 0],[.b 1]]<|yA [x1.t 1]) aF rfl λ_ _=>afb (rA p2) ho L m λ_ _=>pF rfl Z9,λ_ h=>pF rfl h⟩]):(sx F gd rw g b sl).aw rU w<|Y l) nd (aK.need nd M rfl nd.hd nd.fs (by rw[ahG Q])<|.inl rfl) M λr s' y er _ M=>?_]
   rw[.inl ⟨ch er,g,rw,y.n 0,b,0,y.u.x.sl,e,by
    let M:=M.perm auV;rw[j]at M
    rw[M]⟩]
  |some q=>
   rw[j]at m;let(q1,q2):=hq q j
   rw[((by
     clear e;let(v,r,rfl):=FR G;let(ov,ho):=afj r (rf v.ia)
     rw[X.av (F:=1500) (nt:=λ_ _=>.use (dg 17 0x3200002000200021) ((rfQ F gd rw g (Bc v r) sl).rz (.ref 760)<|Y .none) (Y [ft F]) [0,1,2] [J,J,J] [[0],[1]] [] λk=>.g [] [0,1,2,3,4,5] [[.b 0],[.b 1]] k.y) aF rfl λ_ _=>⟨trivial,qk (R:=wL g<|v::r) (λ_ _=>⟨rfl,rfl,rfl,rfl,rfl,id⟩) rfl (jD F)<|adc w g _ (ft F::l) (rA p2) ho L m q1<|rA q2,λ_ h=>pF rfl h⟩]):((sx F gd rw g b sl).rz (.ref 760)<|Y .none).aw rU w<|Y l).use (aK.need nd M rfl nd.hd nd.fs (by rw[ahG Q])<|.inl rfl) λr s' g1=>?_]
   let(_,_,y,P):=id g1;let er:=P.ab;clear P G;obtain rfl:=oY er;rw[.inr ⟨_,rfl,g,rw,b,sl,B,q,rfl,e,j▸M,g1⟩]
 .rintro v s2 ⟨g,rw,b,sl,B,q,er,e,M,g2⟩;let(G,p2,L,m,p5):=hP b e;rw[er]at m;rw[BN (ab7 (D4:=495) (R:=rfP F gd rw g b) nd (show 1<=1 from AA 1) hfr (λ_ _=>⟨rfl,rfl,rfl,rfl,rfl,id⟩) rfl (jD F) M (show 496<=720 by decide) g2 (λy=>[(-y.n 0,.seq Lt<|aG<|cK b),(-rw,.seq Lt [])]++(V++ml γs)) (λy=>rfS F gd rw (y.n 0) g b y.u.x q) (λy=>X.ap (F:=300) (nt:=λ_ _=>.g [0,0,0,0,1,0] [0] [] y0) aF rfl λ_ _=>pF rfl Z9) (λy E=>ak6 L m<|(gA.mp E).1 _ rfl) (λ_=>rfl) (λ_=>rfl) (λ_=>rfl) (λ_=>rfl) (λ_ _=>rfl) λy _ _ _=>auW) (λ_ s3 z=>BN z (λ_ s4 z=>BN z (λf s5 z=>?_) λ_ _ h=>h) λ_ _ h=>h) λ_ _ h=>h]
  clear G p5;let(rfl,y,z,_,_,M):=z
  rw[(rfl,g,rw,y.n 0,b,z.n 0,z.u.x.sl,e,by
   let M:=(M.perm auX).less;rw[er]at M ⊢
   rw[M])]
 .let(G,p2,L,m,p5):=hP b e;let M:=M.perm auY;rw[aK.gn (X.av (afi w F gd rw rl g b sl (jE ab C) (aT b) (cK b) I) rfl λ_ _=>pU rfl (arZ p5 0 0 9 As _ [] hg (by rw[BJ,];rw[al9 hg]) L rfl) λ_ h=>pF rfl h) nd (aK.need nd M rfl nd.hd nd.fs (by rw[ama Q])<|.inl rfl) M λr s' y er E M=>?_]
  let(ts,t1,t2,t3):=E;let er:=er;clear e G p5;let(t',rfl):=iK er;rw[(_,rfl,aK.fin nd (M.perm auZ) (y:={yA [y.n 0,rw,C]with r:=λ_=>(-y.n 0,.seq Tt [rf rw,sr<|jE ab C])::(-rw,.seq Lt<|y.l 2)::(y.r 0++ya ab C),u:={y0.u with fs:=λ_=>y.u.fs 0,x:={sl:=y.u.x.sl}}}) (.refl _) er rfl rfl ⟨ts,t1,?_⟩)];rw[t2,t3];rfl
def rdN(gd:Nat)(γs:!Ge)(ab:Option<|!U)(G:List<|!U):X:={ec:=.call (.ref 891) [rf gd] [],ai:=725,aj:=[[(-gd,aM<|lx γs)],ml γs],ab:=λy=>.ok<|rf<|y.n 0,af:=λy=>[[(-gd,aM<|lx γs)],ml γs,y.r 0],pure:=(vj 0 gd γs ab G).pure}
end
structure It where
 u:Bool
 w:!Nat
 n:Nat
structure Fi where
 f:Fl
 ak:List<|It×Nat
def gS(x:It):SO:=.seq Tt [.bool x.u,.str<|T x.w,.int x.n]
noncomputable def Fi.rd(F:Fi):Rd:=(-F.f.a,F.f.so)::(-F.f.i,.seq Lt<|F.ak.map λq=>rf q.2)::F.ak.map λq=>(-q.2,gS q.1)
def fh(fs:!Fi):Rd:=fs.flatMap Fi.rd
def iw(fs:!Fi):SO:=uk<|fs.map (·.f)
def mz:mc->Rd
 |(.tok v l,p,_)=>[(-p,.seq Tt [v,.str l])]
 |(.ask a l n,p,q)=>[(-p,.seq Tt [.str a,.str l,rf q])]
 |(.opn,_,_)=>[]
def qq(L:Rd):mc->Prop
 |(.ask _ _ n,_,q)=>(-q,.seq Lt<|n.map .str)∈L
 |_=>True
def jh(li:Nat)(ah:!U):AL×SO:=(-li,.seq Lt<|ah.map .str)
def ar1(F:Nat):Env:=⟨bd [30],-F,3,[],S "_law_walk.<locals>.",Y 870,.ref 869,Y<| -F,0⟩
def wkF(fd li rw :Nat)(nm:U)(o:Option It):List<|SV×SV:=[(sS "files",rf fd),(sS "name",.str nm),(sS "lies",rf li),(sS "rows",rf rw)]++match o with
 |none=>[]
 |some x=>[(sS "used",.bool x.u),(sS "word",.str<|T x.w),(sS "line",.int x.n)]
abbrev pw(ik j:Nat):SO:=kZ "list_iterator" (rf ik) j
def yb(bs:!SV)(li:Nat)(ah:!U)(R:!bu)(y:aW):Prop:=A4 (y.l 0=bs++y.u.g.ae.map cV) (y.r 0=y.u.g.ae.flatMap mz) (y.u.g.ae.map (·.1)=R) (∀r∈y.u.g.ae,qq (jh li ah::y.r 1) r)
def qr(d fd:Nat)(fs:!Fi)(nm:U)(li:Nat)(ah:!U)(rw :Nat)(bs:!SV)(F it ik j:Nat)(o:Option It)(R:!bu):X:={ec:=.am<|hU [30,0] (.ref<| -it)<|ar1 F,ai:=500,rcs:=Y d,sm:=J,pre:=[(-F,.ns Fr<|wkF fd li rw nm o),(-it,pw ik j),(-fd,iw fs),jh li ah,(-rw,.seq Lt bs)],aj:=[fh fs],ab:=λQ=>.au .next,post:=λy=>[.ns Fr<|y.u.fs 0,.fld (.type "list_iterator")<|y.l 1,iw fs,.seq Lt<|ah.map .str,.seq Lt<|y.l 0],af:=λy=>[fh fs,y.r 0,y.r 1],pure:=yb bs li ah R}
def yc(d fd:Nat)(fs:!Fi)(nm:U)(li:Nat)(ah:!U)(rw :Nat)(bs:!SV)(R:!bu):X:={ec:=.call (.ref 870) [rf fd,.str nm,rf li,rf rw] [],ai:=501,rcs:=Y d,pre:=[(-fd,iw fs),jh li ah,(-rw,.seq Lt bs)],aj:=[fh fs],ab:=λQ=>.ok .none,post:=λy=>[iw fs,.seq Lt<|ah.map .str,.seq Lt<|y.l 0],af:=λy=>[fh fs,y.r 0,y.r 1],pure:=yb bs li ah R}
def tg(it ik j:Nat)(xs:!SV)(x:SV):X:=(tD (-it) (-ik) Lt xs j x).kt
def tP(it ik j:Nat)(xs:!SV):X:=(uY (-it) (-ik) Lt xs j).kt
def tQ(rw :Nat)(bs:!SV)(v:SV):X:=hN As "list.append" [rf rw,v] (-rw) (.seq Lt bs) (.seq Lt<|bs++[v])<|.ok .none
noncomputable def o5:!Nat:=[0,1,2,3,4]
def wO(fs:!Fi)(nm:U)(it ik j:Nat)(xs:!SV)(x:It)(p:Nat)(nx:aQ->Nt):Bool->Nat->Nt:=λQ Q=>
 .v [0,2,2] ((tg it ik j xs<|rf p).inB<|fh fs) [1] [[0]] λQ=>.ob [[2],[],[],[],[0,6,6,6,0,6,6],[6,6,6,6,0,6,6],[6,6,6,6,0,6,6],[6,6,6,6,0,6,6]] (-p) (gS x)<|.v (dg 20 0x1101555511111111866) (wy nm x.n) [] [] λn=>nx n
noncomputable def wP(ae:!mc)(b e:Rd)(y:aW):aW:={y with r:=λi=>(match i with|0=>b|_=>e),u:={y.u with g:={y.u.g with ae:=ae++y.u.g.ae}}}
def yd(K:X)(bx:List<|!Bi)(y:aW->aW):Nt:=.use [] K As o5 [O,J,J,J,J] [[0]] [] λx=>.f [] o5 [J,J,J,J,J] bx<|y x.y
section
variable{wd:!Nat}
def aiP(wd:!Nat)(nm:U)(n p:Nat):mc:=(.tok (.str<|T wd)<|aO nm n,p,0)
def ly(wd:!Nat)(nm:U)(n:Nat)(ah:!U)(p li:Nat):mc:=(.ask (T wd) (aO nm n) ah,p,li)
def au0(d fd:Nat)(fs:!Fi)(nm:U)(li:Nat)(ah:!U)(rw :Nat)(bs:!SV)(F it ik j:Nat)(R':!bu)(wd:!Nat)(n:Nat):aQ->Nt:=λx=>
 .v [5] (tQ rw bs (rf<|x.t 1)) [4] [] λQ=>yd (qr d fd fs nm li ah rw (bs++[rf<|x.t 1]) F it ik (j+1) (Y ⟨O,wd,n⟩) R') [[.b 0],[.l 8,.b 1],[.b 2]] λy=>wP [aiP wd nm n<|x.t 1] (mz (aiP wd nm n<|x.t 1)++y.r 0) (y.r 1) y
def afk:aR w (qr d fd fs nm li ah rw bs F it ik j o R) 1500<|wO fs nm it ik j xs ⟨O,wd,n⟩ p<|au0 d fd fs nm li ah rw bs F it ik j R' wd n:=by induction o<;>rw[aF]
def zL(rw :Nat)(bs:!SV)(nx:aQ->Nt):aQ->Nt:=λn=>.v [1,5] (tQ rw bs (rf<|n.t 1)) [4] [] λQ=>nx n
def au1(d fd:Nat)(fs:!Fi)(nm:U)(li:Nat)(ah:!U)(rw :Nat)(bs:!SV)(F it ik j:Nat)(R':!bu)(wd:!Nat)(n:Nat):aQ->Nt:=zL rw bs λx=>
 .use (dg 14 0x5555511318f44411) (tQ rw (bs++[rf<|x.t 1]) (sS "open")) As [4] [J] [] [aZ ah (T wd)=J] λQ=>yd (qr d fd fs nm li ah rw (bs++[rf<|x.t 1]++[sS "open"]) F it ik (j+1) (Y ⟨J,wd,n⟩) R') [[.b 0],[.l 8,.b 1],[.b 2]] λy=>wP [ly wd nm n ah (x.t 1) li,(.opn,0,0)] (mz (ly wd nm n ah (x.t 1) li)++y.r 0) (y.r 1) y
def ar2(fd:Nat)(fs:!Fi)(wd:!Nat)(b:Bool):X:=hM As "dict.__contains__" [rf fd,.str<|T wd] (-fd) (iw fs)<|.ok<|.bool b
def au2(d fd:Nat)(fs:!Fi)(nm:U)(li:Nat)(ah:!U)(rw :Nat)(bs:!SV)(F it ik j:Nat)(R':!bu)(wd:!Nat)(n:Nat):aQ->Nt:=zL rw bs λx=>
 .use (dg 13 0x333110318f44411) (ar2 fd fs wd O) As [2] [J] [] [aZ ah (T wd)=O] λQ=>yd (qr d fd fs nm li ah rw (bs++[rf<|x.t 1]) F it ik (j+1) (Y ⟨J,wd,n⟩) R') [[.b 0],[.l 8,.b 1],[.b 2]] λy=>wP [ly wd nm n ah (x.t 1) li] (mz (ly wd nm n ah (x.t 1) li)++y.r 0) (y.r 1) y
def au3(d fd:Nat)(fs:!Fi)(nm:U)(li:Nat)(ah:!U)(rw :Nat)(bs:!SV)(F it ik j:Nat)(R2 R':!bu)(wd:!Nat)(n:Nat):aQ->Nt:=zL rw bs λb=>
 .use (dg 13 0x333110318f44411) (ar2 fd fs wd J) As [2] [J] [] [aZ ah (T wd)=O] λc=>.u (dg 15 0x14a40aa4a11110) (yc d fd fs (T wd) (c.t 1+1) (T wd::ah) rw (bs++[rf<|b.t 1]) R2) [2,10,4] [J,O,J] [[0]] λx=>yd (qr (d+1) fd fs nm li ah rw (x.y.l 0) F it ik (j+1) (Y ⟨J,wd,n⟩) R') [[.b 0],[.l 8,.b 1,.b 3],[.b 2,.l 10,.b 4]] λy=>wP (ly wd nm n ah (b.t 1) li::x.y.u.g.ae) (mz (ly wd nm n ah (b.t 1) li)++(x.y.r 0++y.r 0)) (x.y.r 1++(jh (c.t 1+1) (T wd::ah)::y.r 1)) y
@[elab_as_elim] theorem len14{motive:!α->Prop} l (h:1<=l.length/\l.length<=4)(a:∀x,motive [x])(b:∀x y,motive [x,y])(c:∀x y z,motive [x,y,z])(d:∀x y z u,motive [x,y,z,u]):motive l:=by
 cases l with
 |nil=>rw[ZZ h.1<|Hn 0]
 |cons x l=>rw[len3 (motive:=λl=>motive<|x::l) l (CO h.2) (a x) (b x) (c x)<|d x]
def afl:1<=ah.length/\ah.length<=4->aR w (qr d fd fs nm li ah rw bs F it ik j o R) 1500 (wO fs nm it ik j xs ⟨J,wd,n⟩ p<|au1 d fd fs nm li ah rw bs F it ik j R' wd n):=λh=>len14 ah h (λQ=>by induction o<;>rw[aF]) (λQ Q=>by induction o<;>rw[aF]) (λQ Q Q=>by induction o<;>rw[aF]) λQ Q Q Q=>by induction o<;>rw[aF]
def afm:1<=ah.length/\ah.length<=4->aR w (qr d fd fs nm li ah rw bs F it ik j o R) 1500 (wO fs nm it ik j xs ⟨J,wd,n⟩ p<|au2 d fd fs nm li ah rw bs F it ik j R' wd n):=λh=>len14 ah h (λQ=>by induction o<;>rw[aF]) (λQ Q=>by induction o<;>rw[aF]) (λQ Q Q=>by induction o<;>rw[aF]) λQ Q Q Q=>by induction o<;>rw[aF]
def afn:1<=ah.length/\ah.length<=4->aR w (qr (d+1) fd fs nm li ah rw bs F it ik j o R) 1500 (wO fs nm it ik j xs ⟨J,wd,n⟩ p<|au3 d fd fs nm li ah rw bs F it ik j R2 R' wd n):=λh=>len14 ah h (λQ=>by induction o<;>rw[aF]) (λQ Q=>by induction o<;>rw[aF]) (λQ Q Q=>by induction o<;>rw[aF]) λQ Q Q Q=>by induction o<;>rw[aF]
end
noncomputable def look(fs:!Fi)(s:U):Option Fi:=fs.find? λF=>F.f.nm==s
noncomputable def px(fs:!Fi)(nm:U)(ah:!U)(x:It)(k:Fi->!bu):!bu:=match x.u with
 |false=>[.tok (.str<|T x.w)<|aO nm x.n]
 |true=>.ask (T x.w) (aO nm x.n) ah::(match aZ ah (T x.w)with
  |true=>[.opn]
  |false=>match look fs (T x.w)with
   |none=>[]
   |some F=>k F)
noncomputable def fS(fs:!Fi):Nat->U->!U->It->!bu
 |0,N,ah,x=>px fs N ah x λQ=>[]
 |d+1,N,ah,x=>px fs N ah x λF=>F.ak.flatMap λq=>fS fs d (T x.w) (T x.w::ah) q.1
def cw(fs:!Fi)(d:Nat)(F:Fi)(ah:!U):!(It×Nat)->!bu:=λl=>l.flatMap λq=>fS fs d F.f.nm ah q.1
noncomputable def Dp(fs:!Fi):Nat->!U->Prop
 |0,ah=>∀F∈fs,aZ ah F.f.nm=J
 |d+1,ah=>∀F∈fs,aZ ah F.f.nm=O->Dp fs d (F.f.nm::ah)
theorem fi:cU (nh<|fs.map (·.f)) s=(look fs s).map λF=>rf F.f.a:=by
 cases fs with
 |nil=>rfl
 |cons F fs i=>
  show(if F.f.nm==s then Y (rf F.f.a)else cU (nh<|fs.map (·.f)) s)=(match F.f.nm==s with|true=>Y F|false=>look fs s).map _;cases F.f.nm==s with
  |true=>rfl
  |false=>rw[i]
theorem dZ(h:look fs s=Y F):F∈fs/\F.f.nm=s:=⟨FU h,BX<|Jw (p:=λF:Fi=>F.f.nm==s) h⟩
section
variable{p n:Nat}{wd:!Nat}
def wcN(d fd:Nat)(fs:!Fi)(f0:Fi)(li:Nat)(ah:!U)(rw :Nat)(bs:!SV)(R:!bu):Bool->Nat->Nt:=λQ N=>
 .v (dg 16 0x1111444444444400) (hM As "dict.__getitem__" [rf fd,.str f0.f.nm] (-fd) (iw fs)<|.ok<|rf f0.f.a) [0] [] λx=>.ob [[],[],[],[],[0]] (-f0.f.a) f0.f.so (.ob [[0],[],[]] (-f0.f.i) (.seq Lt<|f0.ak.map λq=>rf q.2)
 (.u [0,5] (qr d fd fs f0.f.nm li ah rw bs N (x.t 1) f0.f.i 0 As R) [3,4,0,1,2] [O,O,J,J,J] [[0]] λb=>.g [] [0,1,2] [[.b 0],[.b 1],[.b 2]] b.y))
structure tR(fs:!Fi):Prop where
 nm:∀F∈fs,F.f.nm.length<=1000
 n:∀F∈fs,∀q∈F.ak,q.1.n<1000
theorem mA{F:Fi}(h:F∈fs):A3 ((-F.f.a,F.f.so)∈fh fs) ((-F.f.i,SO.seq Lt (F.ak.map λq=>rf q.2))∈fh fs) (∀q∈F.ak,(-q.2,gS q.1)∈fh fs):=by
 let m:∀{q},q∈F.rd->q∈fh fs:=λH=>DJ.mpr ⟨F,h,H⟩
 rw[(m aE,m ce,λq H=>m<|.tail _<|.tail _<|Av (f:=λq:It×Nat=>(-q.2,gS q.1)) H)]
def jF(h:yb b li ah R' y)(E:b=bs++ae.map cV)(i:c=ae.flatMap mz++y.r 0)(j:ae.map (·.1)=R0)(k:∀r∈ae,qq (jh li ah::d) r)(w:∀q∈y.r 1,q∈d):yb bs li ah (R0++R')<|wP ae c d y:=by
 let(H,x,A,B):=h;rw[(?_,?_,?_,λr l=>?_)]
 .show y.l 0=bs++(ae++y.u.g.ae).map cV;rw[H,E,AE,AD]
 .show c=(ae++y.u.g.ae).flatMap mz;rw[i,x,CC]
 .show(ae++y.u.g.ae).map (·.1)=_;rw[AE,j,A]
 .rw[(AB.mp l).elim (k r) λl=>?_]
  let z:=B r l;revert z;let(r,_):=r;clear l;cases r with
  |ask=>rw[λz=>(Ar.mp z).elim (λe=>e▸.head _) λm=>.tail _<|w _ m]
  |_=>rw[λQ=>Z9]
def ak7(h:xs[j]?=Y x)(m:(-ik,SO.seq Lt xs)∈fh fs):((tg it ik j xs x).inB<|fh fs).Holds w:=fg (di (d7 w _ _ _ _ _ _ h) (λQ h=>h) λQ h=>h) m
def hW(h:bs.length<2^20):(tQ rw bs v).Holds w:=aP w _ _ _ h
def hY:fS fs d nm ah ⟨O,wd,n⟩=[.tok (.str<|T wd)<|aO nm n]:=by induction d<;>rfl
def afo:∃k,fS fs d nm ah x=px fs nm ah x k:=by induction d<;>rw[(_,rfl)]
def adf(h:aZ ah (T wd)=J):px fs nm ah ⟨J,wd,n⟩ k=[.ask (T wd) (aO nm n) ah,.opn]:=by delta px;dsimp only;rw[h,]
def mB(h:aZ ah (T wd)=O)(e:look fs (T wd)=o):px fs nm ah ⟨J,wd,n⟩ k=.ask (T wd) (aO nm n) ah::(match o with|none=>[]|some F=>k F):=by delta px;dsimp only;rw[h,e]
def fU(h:aZ ah (T wd)=J):fS fs d nm ah ⟨J,wd,n⟩=[.ask (T wd) (aO nm n) ah,.opn]:=afo.elim λQ e=>e.trans<|adf h
def mC(h:aZ ah (T wd)=O)(H:look fs (T wd)=As):fS fs d nm ah ⟨J,wd,n⟩=[.ask (T wd) (aO nm n) ah]:=afo.elim λQ e=>e.trans<|mB h H
def fV(h:aZ ah (T wd)=O)(e:look fs (T wd)=Y G):fS fs (d+1) nm ah ⟨J,wd,n⟩=.ask (T wd) (aO nm n) ah::cw fs d G (T wd::ah) G.ak:=by rw[(mB h e).trans ?_];delta cw;rw[(dZ e).2,]
def afp{P:!bu->Prop}(a:aZ ah (T wd)=J->P [.ask (T wd) (aO nm n) ah,.opn])(b:P [.ask (T wd) (aO nm n) ah])(c:∀e G,d=e+1->aZ ah (T wd)=O->look fs (T wd)=Y G->P (.ask (T wd) (aO nm n) ah::cw fs e G (T wd::ah) G.ak)):P<|fS fs d nm ah ⟨J,wd,n⟩:=by
 cases H:aZ ah (T wd)with
 |true=>rw[fU H,];rw[a H]
 |false=>
  cases l:look fs (T wd)with
  |none=>rw[mC H l,];rw[b]
  |some G=>
   cases d using BE with
   |zero=>rw[cast (Z8 P (mB (k:=λQ=>[]) H l).symm) b]
   |succ d=>rw[fV H l,];rw[c d G rfl H l]
@[elab_as_elim] theorem nat_step{motive:Nat->Prop} d (h:∀d,(∀b,d=b+1->motive b)->motive d):motive d:=Nat.rec (h 0 nofun) (λQ i=>h _ λQ e=>Cj e▸i) d
def aiQ(i:f0∈fs)(hl:look fs f0.f.nm=Y f0)(h:∀F it,(qr d fd fs f0.f.nm li ah rw bs F it f0.f.i 0 As R).Holds w):(yc d fd fs f0.f.nm li ah rw bs R).Holds w:=by let(m,M,_):=mA i;rw[X.ap (F:=1500) (nt:=(wcN d fd fs f0 li ah rw bs R)) aF rfl λQ Q=>pU rfl (e7<|eZ w _ _ _ _ (by rw[fi,hl];rfl)) λQ Q=>pO rfl (Ao _ m)<|pO rfl (Ao _ M)<|pU rfl (h _ _) λQ H=>pF rfl H]
def WL(w:AW)(fs:!Fi)(d:Nat):Prop:=∀(b:Fi)(ah:!U),b∈fs->Dp fs d ah->1<=ah.length->ah.length+d<=4->∀(k:List<|It×Nat)(j c l rw :Nat)(B:!SV)(F it:Nat)(o:Option It),b.ak.drop j=k->B.length+(cw fs d b ah k).length<2^20->(qr d c fs b.f.nm l ah rw B F it b.f.i j o (cw fs d b ah k)).Holds w
def jG{q:It×Nat}{nx:aQ->Nt}(ok:tR fs)(i:f0∈fs)(c:f0.ak.drop j=q::k)(e:aR w (qr d fd fs f0.f.nm li ah rw bs F it f0.f.i j o R) 1500<|wO fs f0.f.nm it f0.f.i j (f0.ak.map λq=>rf q.2) q.1 q.2 nx)(h:∀x,(nx x).Pure w As (qr d fd fs f0.f.nm li ah rw bs F it f0.f.i j o R) [fh fs]):(qr d fd fs f0.f.nm li ah rw bs F it f0.f.i j o R).Holds w:=by
 let(_,m,b):=mA i;let H:f0.ak[j]?=Y q:=by rw[<-Bp j,<-Bb,c];rfl
 let M:=Br H;rw[X.ap e rfl λQ Q=>pU rfl (ak7 (by rw[AG,H];rfl) m) λQ Q=>pO rfl (Ao _<|b _ M)<|pU rfl (aiD w _ _ (ok.n _ i _ M)<|ok.nm _ i) λx Q=>h x]
def py:(l++[x]).length=l.length+1:=Ay
theorem acj(ok:tR fs)(sub:∀d',d=d'+1->WL w fs d')(lk:∀F∈fs,look fs F.f.nm=Y F):WL w fs d:=by
 intro c ah L dp h1 V k;cases k with
 |nil=>
  intro j fd li rw bs F it o B _;let M:(c.ak.map λq=>rf q.2)[j]?=As:=by rw[AG,<-Bp j,<-Bb,B];rfl
  rw[X.ap (F:=1500) (nt:=λ_ _=>.v [0,2,2] ((tP it c.f.i j<|D6 (λq=>rf q.snd) c.ak).inB<|fh fs) [1] [[0]] λ_=>.f [6] o5 [J,J,J,J,J] [[.b 0],[],[]] {y0 with l:=λi=>(match i with|0=>bs|_=>[.none,.int j]),u:={y0.u with fs:=λ_=>wkF fd li rw c.f.nm o}}) (by induction o<;>rw[aF]) rfl λ_ _=>pU rfl (fg (di (fL w _ _ _ _ _ M) (λ_ M=>M) λ_ M=>M) (mA L).2) λ_ _=>pF rfl ⟨(Az _).symm,rfl,rfl,λ_ h=>nomatch h⟩]
 |cons q k ih=>
  intro j fd li rw bs F it o B z;let((u,wd,n),p):=q;let E:c.ak.drop (j+1)=k:=by rw[<-BU,B];rfl
  let ew:cw fs d c ah ((⟨u,wd,n⟩,p)::k)=fS fs d c.f.nm ah ⟨u,wd,n⟩++cw fs d c ah k:=rfl;rw[ew]at z ⊢;cases u with
  |false=>rw[hY]at z ⊢;simp only[Ay,AI,BJ]at z;rw[jG ok L B (afk (R':=cw fs d c ah k)) λI=>pU rfl (hW<|ahK z) λ_ _=>pU rfl (ih (j+1) fd li rw (bs++[rf<|I.t 1]) F it _ E (by rw[py,];rw[ahL z])) λy C=>pF rfl<|jF C rfl rfl rfl (λr x=>by cases Au.mp x;rw[Z9]) λ_ h=>h]
  |true=>
   cases A:aZ ah (T wd)with
   |true=>
    rw[fU A]at z ⊢;simp only[Ay,AI,BJ]at z
    rw[jG ok L B (afl (R':=cw fs d c ah k) ⟨h1,ahM V⟩) λI=>pU rfl (hW<|amq z) λ_ _=>pV rfl ⟨A,trivial⟩ (hW (by rw[py,];rw[amr z])) λ_ _=>pU rfl (ih (j+1) fd li rw (bs++[rf<|I.t 1]++[sS "open"]) F it _ E (by rw[py,py];rw[ams z])) λy C=>pF rfl (jF C (by rw[AD,];rfl) rfl rfl (λr x=>by
     rcases Ar.mp x with rfl|x
     .rw[aE]
     .cases Au.mp x;rw[Z9]) λ_ h=>h)]
   |false=>
    cases N:look fs (T wd)with
    |none=>rw[mC A N]at z ⊢;simp only[Ay,AI,BJ]at z;rw[jG ok L B (afm (R':=cw fs d c ah k) ⟨h1,ahM V⟩) λI=>pU rfl (hW<|ahK z) λ_ _=>pV rfl ⟨A,trivial⟩ (e7<|oK w _ _ _ O (by rw[fi,N];rfl) (by simp)) λ_ _=>pU rfl (ih (j+1) fd li rw (bs++[rf<|I.t 1]) F it _ E (by rw[py,];rw[ahL z])) λy C=>pF rfl<|jF C rfl rfl rfl (λr x=>by cases Au.mp x;rw[aE]) λ_ h=>h]
    |some G=>
     let(Q,eG):=dZ N;cases d with
     |zero=>rw[<-eG,dp G Q]at A;rw[nomatch A]
     |succ d=>
      rw[fV A N]at z ⊢;simp only[Ay,AI]at z
      let hk:=λl2 b hb=>by
       let z:=aiQ (w:=w) (fd:=fd) (li:=l2) (ah:=T wd::ah) (rw :=rw) (bs:=b) (R:=cw fs d G (T wd::ah) G.ak) Q (lk G Q) λF it=>sub d rfl G _ Q (eG▸dp G Q (eG▸A)) (BI 1 _) (by rw[AI,];rw[amt V]) G.ak 0 fd l2 rw b F it As rfl hb
       rw[eG]at z;rw[z]
      rw[jG ok L B (afn (R2:=cw fs d G (T wd::ah) G.ak) (R':=cw fs (d+1) c ah k) ⟨h1,amu V⟩) λI=>pU rfl (hW<|amv z) λ_ _=>pV rfl ⟨A,trivial⟩ (e7<|oK w _ _ _ J (by rw[fi,N];rfl) (by simp)) λx3 _=>pU rfl (hk _ _ (by rw[py,];rw[amw z])) λx4 H=>?_]
      let l4:x4.y.u.g.ae.length=(cw fs d G (T wd::ah) G.ak).length:=by rw[<-H.3,Ap]
      rw[pU rfl (ih (j+1) fd li rw (x4.y.l 0) F it _ E (by rw[H.1,Ay,Ap,py,l4];rw[amx z])) λy C=>pF rfl<|jF C (by rw[H.1,AD];rfl) (by rw[H.2,Cn,AD]) (by rw[Cv,H.3];rfl) (λr x=>?_) λq hq=>Aq _<|.tail _ hq]
      rcases Ar.mp x with rfl|x
      .rw[aE]
      .let z:=H.4 r x;revert z;let(r,_):=r;clear x;cases r with
       |ask=>rw[λz=>.tail _<|(Ar.mp z).elim (λe=>e▸Aq _ (.head _)) λm=>Ao _ m]
       |_=>rw[λ_=>Z9]
theorem ak8(ok:tR fs)(lk:∀F∈fs,look fs F.f.nm=Y F):∀d,WL w fs d:=by
 cases _ with
 |zero=>rw[acj ok (λx h=>nomatch h) lk]
 |succ d i=>rw[acj ok (λx h=>Cj h▸i) lk]
end
abbrev au4(a b:Nat)(xs ys:!SV):X:=(zh As (-a) (-b) xs ys).kt
def duP(f:Fl)(R:!bu)(y:aW):Prop:=A4 (y.l 0=y.u.g.ae.map cV++[rf<|y.n 1,rf<|y.n 1]) (y.r 0=y.u.g.ae.flatMap mz) (y.u.g.ae.map (·.1)=R) (∀r∈y.u.g.ae,qq (jh (y.n 2) [f.nm]::y.r 1) r)
def nZ(f:Fl):SO:=.seq Tt [.none,.str<|aO f.nm<|1+(cZ (T f.tx) (S "\n"):Int)]
def ye(fd:Nat)(fs:!Fi)(f:Fl)(R:!bu):X:={ec:=.call (.ref 877) [rf fd,.str f.nm] [],ai:=540,pre:=[(-fd,iw fs)],aj:=[fh fs],ab:=λy=>.ok<|rf<|y.n 0,post:=λQ=>[iw fs],ao:=λy=>[-y.n 0],al:=λy=>[.seq Lt<|y.l 0],af:=λy=>[fh fs,y.r 0,y.r 1,[(-y.n 1,nZ f),jh (y.n 2) [f.nm]]],pure:=duP f R}
def duY(x b c:aQ):aW:={b.y with n:=λi=>(match i with|0=>c.y.n 0|1=>x.t 1|_=>x.t 1+5),l:=λQ=>b.y.l 0++[rf<|x.t 1,rf<|x.t 1]}
theorem ar3(ok:tR fs)(lk:∀F∈fs,look fs F.f.nm=Y F)(i:f0∈fs)(m:Dp fs 3 [f0.f.nm])(j:1+cZ (T f0.f.tx) (S "\n")<1000)(hz:(cw fs 3 f0 [f0.f.nm] f0.ak).length<2^20):(ye fd fs f0.f<|cw fs 3 f0 [f0.f.nm] f0.ak).Holds w:=by
 let(M,_,_):=mA i
 let k:∀li r,({yc 3 fd fs f0.f.nm li [f0.f.nm] r [] (cw fs 3 f0 [f0.f.nm] f0.ak)with ai:=530,rcs:=As}:X).Holds w:=λli r=>by
  let z:=aiQ (w:=w) (fd:=fd) (li:=li) (ah:=[f0.f.nm]) (rw :=r) (bs:=[]) i (lk _ i) λF it=>ak8 ok lk 3 f0 _ i m (AA _) (AA _) f0.ak 0 fd li r [] F it As rfl (by rw[BJ,Bh];rw[hz])
  rw[X.perm [] z rfl rfl (by show 501+5*3<=530;decide) (.inl rfl) (.of_eq<|Az _) λy a b c=>⟨y,rfl,b,c,.of_eq (Az _).symm,a⟩]
 let l:=aiD w f0.f.nm _ j<|ok.nm _ i;rw[EA]at l
 rw[X.ap (F:=1500) (nt:=λQ N=>
   .v (dg 14 0x11112220222200) (hM As "dict.__getitem__" [rf fd,.str f0.f.nm] (-fd) (iw fs)<|.ok<|rf f0.f.a) [0] [] λA=>
   .ob [[],[],[],[],[0]] (-f0.f.a) f0.f.so (.v [0,18,0,0] (wy f0.f.nm<|1+cZ (T f0.f.tx) (S "\n")) [] [] λn=>
   .u (dg 41 0x2222022228665660666656606666566066605555) {yc 3 fd fs f0.f.nm (n.t 1+5) [f0.f.nm] (N+1) [] (cw fs 3 f0 (Bc f0.f.nm Ck) f0.ak)with ai:=530,rcs:=As} [0,8,2] [J,O,O] [[0]] λx=>
   .u (dg 7 0x33a3222) (au4 (N+1) (x.t 1) (x.y.l 0) [rf<|n.t 1,rf<|n.t 1]) [2,9] [J,O] [] λd=>
   .g [] [0,10] [[.b 0],[.b 1],[.b 2],[.l 3,.l 8]] (duY n x d))) aF rfl λQ N=>pU rfl (e7<|eZ w _ _ _ _ (by rw[fi,lk _ i];rfl)) λQ Q=>pO rfl (Ao _ M)<|pU rfl l λn Q=>pU rfl (k _ _) λx H=>pU rfl (dX (r5 As w _ _ _ _ ?_) (λQ h=>h) λQ=>Z9) λd Q=>pF rfl ?_]
 .let z:=Z8 Eh H.3;rw[Ap]at z;rw[H.1,Ay,Ap,z];rw[amy hz]
 .let(a,b,c,e):=H;rw[(congrArg (·++_)<|a.trans<|Dy _,b,c,e)]
def mD x t u:GJ A s (.str x t) (.str x u) J:=λb w E Q H=>by rw[(SeqRoads2.EqGives.str x x t u).at A s b w E Q ?_];simpa using H
def d0(g:bh h b<|.seq Lt xs):∃i:Array AF,h.IsList b i/\i.toList.map aC=xs:=by let(o,H,c):=g;let(i,n,rfl,e):=c0 c;rw[(i,⟨_,H,rfl,n,rfl⟩,e)]
def mE(g:bh h b<|.seq Tt xs):∃i:Array AF,h.IsTuple b i/\i.toList.map aC=xs:=by let(o,H,c):=g;let(i,n,rfl,e):=c0 c;rw[(i,⟨_,H,rfl,n,rfl⟩,e)]
def fW n:(KY n).all (λQ=>J)=J:=by simp
def zM(A:CB)(s:AJ)(xs ys:!SV):Prop:=xs.length=ys.length/\∀(j:Nat)(x y:SV),xs[j]?=Y x->ys[j]?=Y y->∀t u,(∀e,aC (x.val e)=x)->(∀e,aC (y.val e)=y)->GJ A s (x.val t) (y.val u) J
def ut{i:Array AF}(e:i.toList.map aC=xs)(c:j<i.size):dK λx t=>A3 (xs[j]?=Y x) (i[j]=x.val t) (∀b,aC (x.val b)=x):=by
 subst e;let(t,H):=bA (v:=i[j]) rfl;rw[(aC i[j],t,?_,H,λb=>?_)]
 .rw[AG,Bt,CR c];rfl
 .cases i[j]<;>rfl
def abj{A:CB}{s:AJ}(G:bh s.heap a<|.seq Lt xs)(d:bh s.heap b<|.seq Lt ys)(i:A.units+2<IW)(h:zM A.in1.in1 s xs ys):GJ A s (.ref a) (.ref b) J:=by
 by_cases H:a=b
 .subst H;rw[Fw _]
 have⟨i1,l1,E⟩:=d0 G;have⟨L,l2,c⟩:=d0 d;let m:i1.size=L.size:=by rw[<-Ba,<-Ba,<-Ap (f:=aC) (as:=i1.toList),<-Ap (f:=aC) (as:=L.toList),E,c];rw[h.1]
 let z:=Gu (A:=A) (e:=λQ=>J) l1 l2 m (ahN i) λj k l=>by have⟨x,t,n,r,w⟩:=ut E k;have⟨y,u,B,C,I⟩:=ut c l;rw[r,C];rw[IX<|h.2 j x y n B t u w I]
 rw[fW]at z;rw[Ix H z]
def iO{A:CB}{s:AJ}(G:bh s.heap a<|.seq Tt xs)(d:bh s.heap b<|.seq Tt ys)(i:A.units+2<IW)(h:zM A.in1.in1 s xs ys):GJ A s (.ref a) (.ref b) J:=by
 by_cases H:a=b
 .subst H;rw[Fw _]
 have⟨i1,l1,E⟩:=mE G;have⟨L,l2,c⟩:=mE d;let m:i1.size=L.size:=by rw[<-Ba,<-Ba,<-Ap (f:=aC) (as:=i1.toList),<-Ap (f:=aC) (as:=L.toList),E,c];rw[h.1]
 let z:=Lg (A:=A) (e:=λQ=>J) l1 l2 (ahN i) λj k l=>by have⟨x,t,n,r,w⟩:=ut E k;have⟨y,u,B,C,I⟩:=ut c l;rw[r,C];rw[IX<|h.2 j x y n B t u w I]
 rw[fW,m]at z;simp only[ZY,Bool.and_self]at z;rw[Ix H z]
def pA(x:SV):Prop:=x=.none\/∃s,x=.str s
def ko(h:∀x∈xs,pA x):zM A s xs xs:=⟨rfl,λj x y H B t u Q Q=>by
 rw[H]at B;cases B;rcases h x (Br H)with rfl|⟨v,rfl⟩
 .rw[Fw _]
 .rw[mD v t u]⟩
def i7(D:Rd)(v:SV):bu->Prop
 |.opn=>v=sS "open"
 |.tok x l=>pA x/\∃p,v=rf p/\(-p,SO.seq Tt [x,.str l])∈D
 |.ask a l n=>dK λp q=>A3 (v=rf p) ((-p,SO.seq Tt [.str a,.str l,rf q])∈D)<|(-q,SO.seq Lt<|n.map .str)∈D
noncomputable def aV(D:Rd):!SV->!bu->Prop
 |[],[]=>True
 |v::vs,r::rs=>i7 D v r/\aV D vs rs
 |_,_=>False
@[elab_as_elim] theorem aV.ind{motive:!SV->!bu->Prop}(h:aV D vs rs)(H:motive [] [])(b:∀v vs r rs,i7 D v r->motive vs rs->motive (v::vs) (r::rs)):motive vs rs:=by
 revert rs;cases vs with
 |nil=>
  intro rs h;cases rs with
  |nil=>rw[H]
  |cons=>rw[h.elim]
 |cons v vs i=>
  intro rs h;cases rs with
  |nil=>rw[h.elim]
  |cons r rs=>rw[b _ _ _ _ h.1<|i h.2]
def aV.len(h:aV D vs rs):vs.length=rs.length:=h.ind rfl λQ Q Q Q Q=>Z8 (·+1)
def aV.at(h:aV D vs rs):∀(j:Nat)(v:SV),vs[j]?=Y v->∃r,rs[j]?=Y r/\i7 D v r:=
 h.ind (λj v h=>nomatch h) λv vs r rs a i j u h=>by
  cases j using BE with
  |zero=>cases h;rw[(r,rfl,a)]
  |succ j=>rw[i j u h]
def aV.app(h:aV D vs rs)(k:aV D V r):aV D (vs++V)<|rs++r:=h.ind k λQ Q Q Q a b=>⟨a,b⟩
def ak9(h:HS s.heap i)(e:HS s.heap k)(d:A.units+20<IW){r:bu}(b:i7 i V r)(E:i7 k c r)(t u:Tok):GJ A s (V.val t) (c.val u) J:=by
 cases(r) with
 |opn=>rw[show V=_ from b,show c=_ from E];rw[mD _ t u]
 |tok x l=>
  let(lf,b1,b,m):=b;let(_,b2,E,M):=E;rw[b,E];rw[iO (h _ m) (e _ M) (ahO d)<|ko λx H=>?_]
  rcases Ar.mp H with rfl|H
  .rw[lf]
  .cases Au.mp H;rw[.inr ⟨_,rfl⟩]
 |ask a l ah=>
  let(b1,C,b,m,n):=b;let(b2,Q,E,M,N):=E;rw[b,E];rw[iO (h _ m) (e _ M) (ahO d) ⟨rfl,λj x y H B t u w w=>?_⟩];cases(j) with
  |zero=>cases H;cases B;rw[mD _ t u]
  |succ j=>cases(j) with
   |zero=>cases H;cases B;rw[mD _ t u]
   |succ j=>cases(j) with
    |zero=>
     cases H;cases B;rw[abj (h _ n) (e _ N) (by rw[amH d])<|ko λx H=>?_]
     let(v,_,rfl):=AM.mp H;rw[.inr ⟨v,rfl⟩]
    |succ j=>cases H
def neK(a b:Nat)(xs ys:!SV)(B:!Rd):X:={ec:=.bi "list.__ne__" [rf a,rf b] [],ai:=400,un:=8000,pre:=[(-a,.seq Lt xs),(-b,.seq Lt ys)],aj:=B,ab:=λQ=>.ok<|.bool O,post:=λQ=>[.seq Lt xs,.seq Lt ys],af:=λQ=>B}
noncomputable def bE:List<|!Nat:=[[35],[105,116,39,115],[],[92],[120,10,121],[97,32,98],[34],[117,115,101]]
def gg(way:Nat)(cs:!Nat):!Nat:=match way with
 |0=>39::cs.flatMap (kX 0)++[39]
 |1=>34::cs.flatMap (kX 1)++[34]
 |_=>match cs with
  |[]=>[34,34]
  |cs=>cs.flatMap<|kX 2
def vm(cs:!Nat)(way:Nat):X:={ec:=.call (.ref 851) [.str<|T cs,.int way] [],ai:=500,ab:=λQ=>.ok<|.str<|T<|gg way cs}
noncomputable def v7(a b:U):!Prop:=[(a.length==0)=O,(b.length==0)=O,(a++b).length<=AO]
noncomputable def yf(t:Nat)(x y z:U):!Prop:=[bU x y z=O,(t==0||t+1==0)=O,(t==t+1)=O,(y==z)=O,FF (x.length+(oB x y).length*z.length)=O,(eA x y z).length<=AO]
def v8(q wd:U)(qs:!Prop):!Prop:=v7 (q++wd) q++v7 q wd++qs
def spM(q wd:U)(qs:!Prop):!Prop:=v7 q q++[(q.length==0)=O,(wd.length==0)=J]++qs
abbrev qA:U:=T [39]
abbrev qB:U:=T [39,92,39,39]
abbrev qC:U:=T [34]
abbrev qD:U:=T [92,34]
abbrev qE:U:=T [92]
abbrev qF:U:=T [92,92]
def yg(way:Nat)(d:Nat)(cs:!Nat):!Nat×!Prop:=match way with
 |0=>match bU (T cs) qA qB with
  |true=>match cs with
   |[]=>([0,0,1,1,1,1,1,0,1,25,11,7],spM qA (T cs) [bU (T cs) qA qB=J])
   |_=>([0,0,1,1,1,1,1,0,1,25,7,7],v8 qA (T cs) [bU (T cs) qA qB=J])
  |false=>([0,0,1,1,1,1,1,0,1,26,7,7],v8 qA (eA (T cs) qA qB)<|yf (d+4) (T cs) qA qB)
 |_=>match bU (T cs) qE qF with
  |true=>match bU (T cs) qC qD with
   |true=>match cs with
    |[]=>([0,0,1,1,1,1,1,0,1,0,1,25,25,11,7],spM qC (T cs) [bU (T cs) qC qD=J,bU (T cs) qE qF=J])
    |_=>([0,0,1,1,1,1,1,0,1,0,1,25,25,7,7],v8 qC (T cs) [bU (T cs) qC qD=J,bU (T cs) qE qF=J])
   |false=>([0,0,1,1,1,1,1,0,1,0,1,25,26,7,7],v8 qC (eA (T cs) qC qD)<|yf (d+7) (T cs) qC qD++[bU (T cs) qE qF=J])
  |false=>([0,0,1,1,1,1,1,0,1,0,1,26,25,7,7],v8 qC (eA (T cs) qE qF)<|(bU (eA (T cs) qE qF) qC qD=J)::yf (d+5) (T cs) qE qF)
def vn(way:Nat)(cs:!Nat):Bool->Nat->Nt:=λQ Q=>.cx λc=>.fin (yg way (c.t 0) cs).1 [] [] [] y0 (yg way (c.t 0) cs).2
def w8{motive:!Nat->Prop}(h:cs∈bE)(a:motive<|bE.getD 0 [])(b:motive<|bE.getD 1 [])(c:motive<|bE.getD 2 [])(d:motive<|bE.getD 3 [])(e:motive<|bE.getD 4 [])(f:motive<|bE.getD 5 [])(g:motive<|bE.getD 6 [])(i:motive<|bE.getD 7 []):motive cs:=by
 let s:∀{x:!Nat}{l:List<|!Nat},motive x->(cs∈l->motive cs)->cs∈x::l->motive cs:=λp q h=>(Ar.mp h).elim (λe=>e▸p) q
 rw[s a (s b<|s c<|s d<|s e<|s f<|s g (s i λh=>nomatch h)) h]
def ag2{w:AW}{cs:!Nat}{way:Nat}(h:cs∈bE)(H:way<2):aR w (vm cs way) 900<|vn way cs:=by
 cases way using BE with
 |zero=>rw[w8 (motive:=λcs=>aR w (vm cs 0) 900<|vn 0 cs) h aF aF aF aF aF aF aF aF]
 |succ m=>cases m using BE with
  |zero=>rw[w8 (motive:=λcs=>aR w (vm cs 1) 900<|vn 1 cs) h aF aF aF aF aF aF aF aF]
  |succ m=>rw[ZZ H<|Jg<|BI 2 m]
def mF:∀{a b:!Prop},bW a->bW b->bW (a++b):=by
 cases _ with
 |nil=>intro _ _ h;rw[h]
 |cons _ _ i=>rintro _ ⟨x,y⟩ h;rw[(x,i y h)]
def pB{a b:U}(H:(a.length==0)=O)(h:(b.length==0)=O)(c:a.length+b.length<=200):bW<|v7 a b:=⟨H,h,by rw[nV,];rw[Ax c (by decide)],trivial⟩
def kq{q wd:U}{qs:!Prop}(H:q.length=1)(b:(wd.length==0)=O)(e:wd.length<=100)(h:bW qs):bW<|v8 q wd qs:=by
 let Q:(q.length==0)=O:=by rw[H,];rfl
 rw[mF (mF (pB (by rw[nV,H];rw[ZX<|Dz<|Dl KL<|BG _ _]) Q (by rw[nV,];rw[amJ H e]))<|pB Q b<|amK H e) h]
def pC{t:Nat}{x y z:U}(h:bU x y z=O)(H:0<t)(b:(y==z)=O)(e:FF (x.length+(oB x y).length*z.length)=O)(i:(eA x y z).length<=100):bW<|yf t x y z:=⟨h,by
 rw[ZX<|Dz H,ZX<|Jh t]
 rfl,ZX<|DA<|B6 t,b,e,Ax i (by decide),trivial⟩
def n0(x y z:U):Bool:=bU x y z||((not<|FF (x.length+(oB x y).length*z.length))&&((not ((eA x y z).length==0))&&decide ((eA x y z).length<=100)))
def afq:∀cs∈bE,cs.length<=4/\n0 (T cs) qA qB=J/\n0 (T cs) qC qD=J/\n0 (T cs) qE qF=J/\(bU (T cs) qE qF||bU (eA (T cs) qE qF) qC qD)=J:=by decide+kernel
def ku{x y z:U}(h:n0 x y z=J)(n:bU x y z=O):FF (x.length+(oB x y).length*z.length)=O/\((eA x y z).length==0)=O/\(eA x y z).length<=100:=by delta n0 at h;rw[n]at h;let(a,b):=iD h;let(b,c):=iD b;rw[(by simpa using a,by simpa using b,of_decide_eq_true c)]
def ala{cs:!Nat}{way k:Nat}(h:cs∈bE)(H:way<2):bW (yg way k cs).2:=by
 let(d,e,i,j,w):=afq cs h;let L:(T cs).length<=100:=Ax d (by decide);delta yg
 match way,H with
 |0,_=>
  clear h d i j w;cases n:bU (T cs) qA qB with
  |true=>
   clear n e;cases cs using A8 with
   |nil=>rw[(rfl,rfl,by decide,rfl,rfl,rfl,trivial)]
   |cons c l=>rw[kq rfl rfl L ⟨rfl,trivial⟩]
  |false=>let(a,b,c):=ku e n;rw[kq rfl b c<|pC n (EN _) rfl a c]
 |1,_=>
  clear h d e;cases n:bU (T cs) qE qF with
  |true=>
   dsimp only;clear n j w;cases m:bU (T cs) qC qD with
   |true=>
    clear m i;cases cs using A8 with
    |nil=>rw[(rfl,rfl,by decide,rfl,rfl,rfl,rfl,trivial)]
    |cons c l=>rw[kq rfl rfl L ⟨rfl,rfl,trivial⟩]
   |false=>let(a,b,c):=ku i m;rw[kq rfl b c<|mF (pC m (EN _) rfl a c) ⟨rfl,trivial⟩]
  |false=>let(a,b,c):=ku j n;rw[n]at w;rw[kq rfl b c ⟨w,pC n (EN _) rfl a c⟩]
noncomputable def ar4(γ:Bool)(cs:!Nat):!Nat:=
 [0,0,1,1,1,1,1,0,1,0,1,0,2,0]++(match γ with|true=>[0]|false=>[2,2,2,0,2,0])++cs.flatMap (λQ=>[2,2,0,2,2,2,2,4,4,4,7,3,0,3,3,3,0])++(match cs with|[]=>[2,2,0,2,2,2,2,6,4]|_=>[2,2,0,2,2,2,2,6,4,4,4])
def nt2(cs:!Nat):Bool->Nat->Nt:=λγ N=>
 .use (ar4 γ cs) (hM As "str.join" [.str<|T [],rf<|N+2] (N+2+902) (.seq Lt<|(cs.map λc=>T [92,c]).map .str)<|.ok<|.str<|T<|cs.flatMap λc=>[92,c]) As [2] [O] [] (cs.reverse.flatMap λc=>v7 (T [92])<|T [c]) λQ=>
 .fin [1] [] [] [] y0 [((T<|cs.flatMap λc=>[92,c]).length:Int)<2^63]
def afr{w:AW}{cs:!Nat}(h:cs∈bE):aR w (vm cs 2) 1500<|nt2 cs:=w8 (motive:=λcs=>aR w (vm cs 2) 1500<|nt2 cs) h lW lW lW lW lW lW lW lW
def ar5:∀cs∈bE,FF ((cs.map λc=>T [92,c]).toArray.foldl (·+·.length+(T []).length) 0)=O/\JK (T []) (cs.map λc=>T [92,c])=T (cs.flatMap λc=>[92,c])/\(T<|cs.flatMap λc=>[92,c]).length<=100:=by decide+kernel
def ag3:∀cs:!Nat,bW (cs.flatMap λc=>v7 (T [92]) (T [c])):=by
 cases _ with
 |nil=>rw[Z9]
 |cons c cs i=>rw[mF (pB rfl rfl (show 1+1<=200 by decide))<|i]
def ar6 w {cs:!Nat}(h:cs∈bE)(way)(m:way<3):(vm cs way).Holds w:=by
 by_cases k:way<2
 .rw[X.ap (ag2 h k) rfl λQ Q=>pX rfl λQ=>pG rfl (ala h k) Z9]
 .cases Fq (IF m) (AX.mp k);let(d,j,b):=ar5 cs h
  rw[X.ap (afr h) rfl λQ N=>pV rfl (ag3 _) (bp (by
   let z:=agx w (T []) (N+2+902) (cs.map λc=>T [92,c]) d (by rw[j,];rw[Ax b (by decide)]);unfold rW at z;rw[j]at z
   rw[z])) λQ Q=>pG rfl ⟨amL b,trivial⟩ Z9]
def yh:Cm:=⟨mf [28,4,2],"_law_files.<locals>.",855⟩
def nj(i:List<|It×Nat):Rd:=i.map λq=>(-q.2,gS q.1)
def ci(i:List<|It×Nat):!SV:=i.map λq=>rf q.2
def yi(c:BC)(p:Cp)(ik j:Nat)(i:List<|It×Nat)(o oe:Option SV)(ys d:!SV):X:={ec:=.am c,ai:=450,pre:=[(-p.L,ni "item" o),(-p.it,pw ik j),(-p.ac,.seq Lt ys),(-ik,.seq Lt<|ci i)],aj:=[nj i],ab:=λQ=>.au .next,post:=λy=>[ni "item" oe,.fld (.type "list_iterator")<|y.l 1,.seq Lt d,.seq Lt<|ci i],af:=λQ=>[nj i]}
noncomputable def ib:!(It×Nat)->Option SV->Option SV
 |[],o=>o
 |q::l,_=>ib l<|Y<|rf q.2
def rp(i:List<|It×Nat):!SV:=i.flatMap λq=>match q.1.u with
 |true=>[rf q.2]
 |false=>[]
section
def sy(ik:Nat)(xs:!SV)(K:X):X:=K.wth (-ik)<|.seq Lt xs
noncomputable def i4:!Nat:=[0,1,2,3]
def zN(p:Cp)(ik j:Nat)(i:List<|It×Nat)(x:Nat)(ys d:!SV)(ns:!Nat)(bs:!Bool)(o oe:Option SV):Nt:=.use ns (yi (yh.lp p) p ik j i o oe ys d) As i4 bs [[0]] [] λx=>.f [] i4 [J,J,J,J] [[.b 0]] x.y
def luN(p:Cp)(ik j:Nat)(i:List<|It×Nat)(x:Nat)(y:It)(nx:Nt):Bool->Nat->Nt:=λQ Q=>.v [0,2,2] (sy ik (ci i)<|tg p.it ik j (ci i)<|rf x) [1,3] [] λQ=>.ob [[1,1,1],[],[],[],[0]] (-x) (gS y) nx
def dh{K:Ct}(H:K.Holds w)(c:∀b,¬K.fp b)(Pre:∀h,bh h (-ik) (.seq Lt xs)->K.Pre h):(sy ik xs K.kt).Holds w:=di H c Pre
def ar7(hl:i.length<2^20) k:∀(j:Nat)(o:Option SV)(ys:!SV),i.drop j=k->ys.length+k.length<2^20->(yi (yh.lp p) p ik j i o (ib k o) ys<|ys++rp k).Holds w:=by
 cases k with
 |nil=>
  intro j o ys c _;let m:(ci i)[j]?=As:=by delta ci;rw[AG,<-Bp j,<-Bb,c];rfl
  rw[show ys++rp []=ys from Az _,];rw[X.ap (F:=900) (nt:=λQ Q=>.v [0,2,2] (sy ik (ci i)<|tP p.it ik j<|ci i) [1,3] [] λQ=>.f [5] i4 [J,J,J,J] [[.b 0]] {y0 with l:=λQ=>[.none,.int j]}) (by induction o<;>rw[aF]) rfl λQ Q=>pU rfl (dh (fL w _ _ _ _ _ m) (λQ h=>h) λQ h=>h) λQ Q=>pF rfl Z9]
 |cons q k I=>
  intro j o ys c z;let((u,wd,n),x):=q;let H:i[j]?=Y (⟨u,wd,n⟩,x):=by rw[<-Bp j,<-Bb,c];rfl
  let b:(ci i)[j]?=Y (rf x):=by delta ci;rw[AG,H];rfl
  let E:i.drop (j+1)=k:=by rw[<-BU,c];rfl
  let d:(-x,gS ⟨u,wd,n⟩)∈([nj i]:!Rd).flatten:=Ao _<|Av (f:=λq:It×Nat=>(-q.2,gS q.1))<|Br H;rw[AI]at z;cases u with
  |false=>rw[X.ap (F:=900) (nt:=(luN p ik j i x ⟨O,wd,n⟩<|zN p ik (j+1) i x ys (instHAppendOfAppend.hAppend ys<|rp<|Bc {fst:={u:=O,w:=wd,n:=n},snd:=x} k) [] [O,J,J,J] (Y<|rf x)<|ib (Bc {fst:={u:=O,w:=wd,n:=n},snd:=x} k) o)) (by induction o<;>rw[aF]) rfl λQ Q=>pU rfl (dh (d7 w _ _ _ _ _ _ b) (λQ h=>h) λQ h=>h) λQ Q=>pO rfl d<|pU rfl (I (j+1) _ ys E<|nA z) λQ Q=>pF rfl Z9]
  |true=>
   let e:ys++rp ((⟨J,wd,n⟩,x)::k)=(ys++[rf x])++rp k:=by rw[AD,];rfl
   rw[e,];rw[X.ap (F:=900) (nt:=(luN p ik j i x ⟨J,wd,n⟩<|.v [1,3] (hN As "list.append" [.ref<| -p.ac,rf x] (-p.ac) (.seq Lt ys) (.seq Lt<|ys++[rf x])<|.ok .none) [2] [] λQ=>zN p ik (j+1) i x (ys++[rf x]) (instHAppendOfAppend.hAppend (instHAppendOfAppend.hAppend ys<|Bc (rf x) Ck)<|rp k) [] [O,J,J,J] (Y<|rf x)<|ib (Bc {fst:={u:=J,w:=wd,n:=n},snd:=x} k) o)) (by induction o<;>rw[aF]) rfl λQ Q=>pU rfl (dh (d7 w _ _ _ _ _ _ b) (λQ h=>h) λQ h=>h) λQ Q=>pO rfl d<|pU rfl (aP w _ _ _<|lE z) λQ Q=>pU rfl (I (j+1) _ _ E (by rw[py,];rw[lF z])) λQ Q=>pF rfl Z9]
def alb(hl:i.length<2^20):(yi (yh.st p) p ik 0 i As (ib i As) []<|rp i).Holds w:=X.ap (F:=900) (nt:=λγ Q=>zN p ik 0 i 0 Ck (rp i) (match γ with|true=>[0]|false=>[0,2,2,2,0,2]) [J,J,J,J] As<|ib i As) lW rfl λγ Q=>match γ with
 |true|false=>pU rfl (ar7 hl i 0 As [] rfl (by rw[BJ,Bh];rw[hl])) λQ Q=>pF rfl Z9
end
def ar8(F:Nat):Env:=⟨bd [28],-F,3,[],S "_law_files.<locals>.",Y 856,.ref 855,Y<| -F,0⟩
def iP(F e:Nat):BC:=hU [28,4] (.ref<| -e)<|ar8 F
noncomputable def bb:List<|!Nat:=[[117,115,101],[105,116,39,115],[],[35],[97,32,98]]
noncomputable def dG:List<|!Nat:=[[35],[105,116,39,115],[],[92],[120,10,121],[97,32,98],[34]]
noncomputable def c9:List<|!Nat:=[[32],[10],[35,117,115,101,32,97,32,98,10],[9,32,35,32,39,10],[13,10,32]]
def sT(l:List<|!Nat):!SV:=l.map λc=>.str<|T c
structure Lf where
 ns:Nat
 nl:Nat
 wl:Nat
 gl:Nat
 fd:Nat
def wQ(f:Lf):List<|SV×SV:=[(sS "numbers",rf f.ns),(sS "names",rf f.nl),(sS "words",rf f.wl),(sS "gaps",rf f.gl),(sS "files",rf f.fd)]
def lf8(p n:Int)(ia:Nat)(tx:U)(mo:Bool):List<|SV×SV:=[(sS "place",.int p),(sS "n",.int n),(sS "q",.int<|n.fdiv 32),(sS "kind",.int<|(n.fdiv 4).fmod 8),(sS "f",.int<|n.fmod 4),(sS "items",rf ia),(sS "text",.str tx),(sS "more",.bool mo)]
def lf4(wd G:U)(way:Int)(en:U):List<|SV×SV:=[(sS "word",.str wd),(sS "gap",.str G),(sS "way",.int way),(sS "ended",.str en)]
structure pD where
 p:Int
 n:Int
 ia:Nat
 tx:U
 mo:Bool
 m:Int
 wd:U
 gp:U
 way:Int
 en:U
def wS(f:Lf):Option pD->!(SV×SV)
 |none=>wQ f
 |some o=>wQ f++lf8 o.p o.n o.ia o.tx o.mo++[(sS "many",.int o.m)]++lf4 o.wd o.gp o.way o.en
noncomputable def fy(n:Int):Int:=(n.fdiv 4).fmod 8
noncomputable def cj(p n:Int):Int:=(n.fdiv 32+p).fmod 3
def lfP(f:Lf)(F tu:Nat)(o:Option pD)(p n:Int)(d:DL)(a ia:Nat)(tx:U)(mo:Bool)(i:List<|It×Nat):Rd:=[(-F,.ns Fr<|wS f o),(-tu,.seq Tt [.int p,.int n]),(-f.nl,.seq Lt<|sT bb),(-f.wl,.seq Lt<|sT dG),(-f.gl,.seq Lt<|sT c9),(-f.fd,aM d),(-a,.seq Lt [rf ia,.str tx,.bool mo]),(-ia,.seq Lt<|ci i)]
def uu(l:Nat)(xs:!SV)(i:Int)(r:SV):X:=hM As "list.__getitem__" [rf l,.int i] (-l) (.seq Lt xs)<|.ok r
def lnN(l:Nat)(xs:!SV)(m:Int):X:=hM As "len" [rf l] (-l) (.seq Lt xs)<|.ok<|.int m
noncomputable def wV(n p:Int):Int:=(n.fdiv 32+p).fmod 7
noncomputable def uv(a b:U):X:={ec:=.bi "str.__add__" [.str a,.str b] [],ai:=400,ab:=λQ=>.ok<|.str<|a++b}
noncomputable def ji:SO:=.fld (.type "slice") [.none,.int 1,.none]
def zO(g r:U)(a:Nat):X:=hM As "str.__getitem__" [.str g,rf a] (-a) ji<|.ok<|.str r
def qV(wd:U)(p n:Int)(r:U):X:={ec:=.call (.ref 851) [.str wd,.int<|cj p n] [],ai:=500,ab:=λQ=>.ok<|.str r}
def dsN(fd:Nat)(d:DL)(k:U)(v:Nat):X:=hN As "dict.__setitem__" [rf fd,.str k,rf v] (-fd) (aM d) (aM<|iE d k<|rf v)<|.ok .none
def v9(f:Lf)(F e tu:Nat)(o:Option pD)(p n:Int)(d:DL)(N:U)(a ia:Nat)(tx:U)(i:List<|It×Nat)(I:pD)(x:SO)(b:U)(m:Bool):X:={ec:=.am<|iP F e,ai:=600,pre:=lfP f F tu o p n d a ia tx J i,aj:=[nj i],ab:=λQ=>.au .next,post:=λy=>[.ns Fr<|wS f<|Y I,.seq Tt [.int p,.int n],.seq Lt<|sT bb,.seq Lt<|sT dG,.seq Lt<|sT c9,aM<|iE d N<|rf<|y.n 0,.seq Lt [rf ia,.str tx,.bool J],.seq Lt<|ci i++[rf<|y.n 1]],ao:=λy=>[-y.n 0],al:=λQ=>[.seq Lt [rf ia,.str b,.bool m]],af:=λy=>[nj i++[(-y.n 1,x)]]}
def yj(f:Lf)(F e tu:Nat)(o:pD)(p n:Int)(d:DL)(a ia:Nat)(tx:U)(mo:Bool)(i:List<|It×Nat)(m:Int):X:={ec:=.am<|iP F e,ai:=600,pre:=lfP f F tu (Y o) p n d a ia tx mo i,aj:=[nj i],ab:=λQ=>.au .cont,post:=λy=>[.ns Fr<|wS f<|Y ⟨p,n,ia,tx,mo,m,o.wd,o.gp,o.way,o.en⟩,.seq Tt [.int p,.int n],.seq Lt<|sT bb,.seq Lt<|sT dG,.seq Lt<|sT c9,aM d,.seq Lt [rf ia,.str tx,.bool mo],.seq Lt<|ci i],af:=λQ=>[nj i]}
def bn:Bool->Nat
 |true=>1
 |false=>0
noncomputable def sel{α:Type}(b:Bool)(x y:α):α:=match b with
 |true=>x
 |false=>y
def wW(b:Bool)(w t:U):SO:=.seq Tt [.bool b,.str w,.int<|1+(cZ t (S "\n"):Int)]
section
variable(f:Lf)(F e tu:Nat)(p n:Int)(d:DL)(nf:U)(a ia:Nat)(tx:U)(ak:!(It×Nat))(m:Int)(oe:Option SV)(wd gp su sp g1:U)(u mo hs:Bool)
noncomputable def i8:!Nat:=[0,1,2,3,4,5,6,7]
noncomputable def k8(l:!Bool):!Bool:=O::J::J::J::J::J::J::J::l
def vo(k en:U)(hd:!Nat)(qs:!Prop)(j:Nat):Nt:=
 .use (hd++[8,8,8,8,1,12,bn u,1,1,1]) (uv k en) As [] [] [] ((decide (fy n>3)=u)::qs) λx=>
 .v [18,0,8] (hN As "list.append" [rf ia,rf<|x.t 1] (-ia) (.seq Lt<|ci ak) (.seq Lt<|ci ak++[rf<|x.t 1])<|.ok .none) [7] [] λQ=>
 .v [1,1,1] (uv k gp) [] [] λb=>
 .use [1,15,bn mo,1,1,1,3,3,3,3] (uu f.nl (sT bb) (n.fmod 4)<|.str nf) As [2] [J] [] [(fy n !=3)=mo] λQ=>
 .v [6,6,6] (dsN f.fd d nf<|b.t 1) [5] [] λQ=>.f [] (i8++[j+1]) (k8 [O]) [[.b 0,.l j]]<|yA [b.t 1,x.t 1]
def tS(t2:U):Nt:=
 .v [] (uv t2 sp) [] [] λx=>.u [1,1,1] (zO gp g1<|x.t 1) [25] [O] [] λb=>
 match hs with
 |true=>vo f n d nf ia ak gp u mo (t2++sp) gp [5,1,1,1,1,1] [bq g1 (S "#")=J] 26
 |false=>.use [5,0,1] (zO gp g1<|b.t 1) As [26] [O] [] [bq g1 (S "#")=O] λQ=>vo f n d nf ia ak gp u mo (t2++sp) g1 [1,1,1] [] 27
noncomputable def au5:!Prop:=[((32:Int)==0)=O,Dc n 32=O,((8:Int)==0)=O,((4:Int)==0)=O,Dc n 4=O,((4:Int)==0)=O]
def uw(nx:Nt):Nt:=
 .use (dg 94 0x33331111111110ffddcdd0ddddcdd0ddddcdd0ddddcdd0ddd0cccc11f110f11f110f11111b992990999929909999299099902222) (uu f.nl (sT bb) (n.fmod 4)<|.str nf) As [2] [J] [] (au5 n) λQ=>
 .v [6,6,6,6] (hM As "dict.__getitem__" [rf f.fd,.str nf] (-f.fd) (aM d)<|.ok<|rf a) [5] [] λx=>
 .u (dg 53 0x13f088810011111112f10f10f710f10f010f10f10f10f710f10f010f10f10f10f710f10f010f10f10f10f710f10f010f10f10f07777) (yi (yh.st ⟨x.t 1+5,F,x.t 1+3,x.t 1+4⟩) ⟨x.t 1+5,F,x.t 1+3,x.t 1+4⟩ ia 0 ak As oe []<|rp ak) [20,18,19,7] [O,O,O,J] [[0]] λQ=>
 .v (match oe with|none=>[21]|some _=>[21,21,21]) (lnN (x.t 1+4) (rp ak) m) [19] [] λQ=>nx
def vp(nx:Nt):Nt:=.v [1,1,1,0,0,1] (lnN ia (ci ak) ak.length) [7] [] λQ=>nx
def wY(nx:Nt):Nt:=
 .use ((match u with|false=>[14,0,1,12,0]|true=>[14,0,1,12,1,1,14,0])++[1,1,0,16,1,1,17,1,0,16,5,5,5,5]) (uu f.gl (sT c9) (((n.fdiv 32).fdiv 3+p).fmod 5)<|.str gp) As [4] [J] [] ([((5:Int)==0)=O,((3:Int)==0)=O,Dc (n.fdiv 32) 3=O,((3:Int)==0)=O]++(match u with|true=>[(m==2)=O]|false=>[])++[decide (fy n>3)=u,((ak.length:Int)==4)=O]) λQ=>
 .use [1,1,1,0,16,4,4,4,4] (uu f.wl (sT dG) (wV n p)<|.str wd) As [3] [J] [] [((7:Int)==0)=O] λQ=>nx
def lfU:!Nat:=(dg 46 0x111111119f17f17f16f17f17f017f17f17f17f16f17f17f017f17f17f17f16f17f17f017f17f17f17f16f17f17f017f17f17f016f16f16f16f)
def lfW(i:Bool):Nt:=.use (lfU++(match i with|false=>[14,0,1,12,0,1,0,1,1,0]|true=>[14,1,1,1,1,0,1,1,0])) (qV wd p n sp) As [] [] [] (match i with|false=>[decide (fy n>3)=O,(fy n==3)=O]|true=>[(fy n==3)=J]) λQ=>tS f n d nf ia ak (match i with|true=>T []|false=>gp) sp g1 O ((not i)) hs tx
noncomputable def wZ(k:Bool):Int:=match k with
 |false=>n.fmod 4+1+(n.fdiv 32).fmod (4-n.fmod 4)
 |true=>(n.fdiv 32+p).fmod 5
def lfV(k ev:Bool):Nt:=.use (lfU++(match k with|false=>[14,0,1,12,1,1,14,0,1,1,0,1,1,0,16,0,3,3,3,3]|true=>[14,0,1,12,1,1,14,1,1,1,1,0,16,3,3,3,3])) (uu f.nl (sT bb) (wZ p n k)<|.str wd) As [2] [J] [] [(match k with|false=>(4-n.fmod 4==0)=O|true=>((5:Int)==0)=O),(fy n==7)=k,decide (fy n>3)=J,(fy n==3)=O] λQ=>
 match ev with
 |true=>.use [1,1,1,1,16,14,1,1] (uv (S "use") gp) As [] [] [] [((n.fdiv 32).fmod 2==0)=J,((2:Int)==0)=O] λQ=>.v [] (uv tx<|S "use"++gp) [] [] λQ=>.v [1,1,1,0,1,1,0] (qV wd p n sp) [] [] λQ=>tS f n d nf ia ak gp sp g1 J J hs<|tx++(S "use"++gp)
 |false=>.use [1,1,1,1,16,14,0,0,1,0] (qV (S "use") p n su) As [] [] [] [((n.fdiv 32).fmod 2==0)=O,((2:Int)==0)=O] λQ=>.v [1] (uv su gp) [] [] λQ=>.v [] (uv tx<|su++gp) [] [] λQ=>.v [1,1,1,0,1,1,0] (qV wd p n sp) [] [] λQ=>tS f n d nf ia ak gp sp g1 J J hs<|tx++(su++gp)
end
section
variable{w:AW}{f:Lf}{F e tu:Nat}{p n:Int}{d:DL}{nf:U}{a ia:Nat}{tx:U}{ak:!(It×Nat)}{m:Int}{oe:Option SV}{wd w0 gp su sp g1:U}{hs:Bool}{o:Option pD}{oo:pD}{mo:Bool}
noncomputable def ru(hs:Bool)(gp g1:U):U:=match hs with
 |true=>gp
 |false=>g1
def afs:dW (qi<|.ref<| -tu) w (v9 f F e tu o p n d nf a ia tx ak ⟨p,n,ia,tx++sp,J,m,wd,gp,cj p n,ru hs gp g1⟩ (wW O wd<|tx++sp++ru hs gp g1) (tx++sp++gp) J) 1500 λQ Q=>uw f F n d nf a ia ak m oe (vp ia ak<|wY f p n ak m wd gp O<|lfW f p n d nf ia tx ak wd gp sp g1 hs O):=by induction o<;>induction oe<;>induction hs<;>rw[aF]
def aft:dW (qi<|.ref<| -tu) w (v9 f F e tu o p n d nf a ia tx ak ⟨p,n,ia,tx++sp,J,m,wd,T [],cj p n,ru hs (T []) g1⟩ (wW O wd<|tx++sp++ru hs (T []) g1) (tx++sp++T []) O) 1500 λQ Q=>uw f F n d nf a ia ak m oe (vp ia ak<|wY f p n ak m wd gp O<|lfW f p n d nf ia tx ak wd gp sp g1 hs J):=by induction o<;>induction oe<;>induction hs<;>rw[aF]
def mH(ev:Bool)(tx su gp:U):U:=match ev with
 |true=>tx++(S "use"++gp)
 |false=>tx++(su++gp)
def adg{k:Bool}:dW (qi<|.ref<| -tu) w (v9 f F e tu o p n d nf a ia tx ak ⟨p,n,ia,mH O tx su gp++sp,J,m,wd,gp,cj p n,ru hs gp g1⟩ (wW J wd<|mH O tx su gp++sp++ru hs gp g1) (mH O tx su gp++sp++gp) J) 1500 λQ Q=>uw f F n d nf a ia ak m oe (vp ia ak<|wY f p n ak m w0 gp J<|lfV f p n d nf ia tx ak wd gp su sp g1 hs k O):=by induction o<;>induction oe<;>induction hs<;>induction k<;>rw[aF]
def adh{k:Bool}:dW (qi<|.ref<| -tu) w (v9 f F e tu o p n d nf a ia tx ak ⟨p,n,ia,mH J tx su gp++sp,J,m,wd,gp,cj p n,ru hs gp g1⟩ (wW J wd<|mH J tx su gp++sp++ru hs gp g1) (mH J tx su gp++sp++gp) J) 1500 λQ Q=>uw f F n d nf a ia ak m oe (vp ia ak<|wY f p n ak m w0 gp J<|lfV f p n d nf ia tx ak wd gp su sp g1 hs k J):=by induction o<;>induction oe<;>induction hs<;>induction k<;>rw[aF]
def adi:dW (qi<|.ref<| -tu) w (yj f F e tu oo p n d a ia tx O ak m) 1500 λQ Q=>uw f F n d nf a ia ak m oe (.f [1,1,1] i8 (k8 []) [[.b 0]] y0):=by induction oe<;>rw[aF]
def adj:dW (qi<|.ref<| -tu) w (yj f F e tu oo p n d a ia tx J ak m) 1500 λQ Q=>uw f F n d nf a ia ak m oe (vp ia ak<|.fin [14,1] i8 (k8 []) [[.b 0]] y0 [((ak.length:Int)==4)=J]):=by induction oe<;>rw[aF]
def adk:dW (qi<|.ref<| -tu) w (yj f F e tu oo p n d a ia tx J ak m) 1500 λQ Q=>uw f F n d nf a ia ak m oe (vp ia ak<|.fin [14,0,1,12,1,1,14,1] i8 (k8 []) [[.b 0]] y0 [(m==2)=J,decide (fy n>3)=J,((ak.length:Int)==4)=O]):=by induction oe<;>rw[aF]
end
def cz(p n:Int):!Nat:=c9.getD (((n.fdiv 32).fdiv 3+p).fmod 5).toNat []
def eM(p n:Int):!Nat:=dG.getD (wV n p).toNat []
def ic(p n:Int):!Nat:=bb.getD (wZ p n<|fy n==7).toNat []
noncomputable def gT:!Nat:=[117,115,101]
structure Fs where
 ak:!It
 txt:!Nat
 more:Bool
noncomputable def dk(i:!It):Nat:=(i.filter (·.u)).length
noncomputable def fX(g:!Nat):!Nat:=if g.take 1==[35]then g else g.take 1
def sA(s:Fs)(b mo:Bool)(t2 sp w g:!Nat):Fs:=⟨s.ak++[⟨b,w,1+cZ (T<|t2++sp++fX g) (S "\n")⟩],t2++sp++g,mo⟩
def dm(n:Int)(s:Fs):Bool:=(not s.more)||(s.ak.length==4||(decide (fy n>3)&&dk s.ak==2))
def pE(p n:Int):!Nat:=match(n.fdiv 32).fmod 2==0 with
 |true=>gT
 |false=>gg (cj p n).toNat gT
def i9(p n:Int)(s:Fs):Fs:=match decide (fy n>3)with
 |true=>sA s J J (s.txt++(pE p n++cz p n)) (gg (cj p n).toNat<|ic p n) (ic p n)<|cz p n
 |false=>match fy n==3 with
  |true=>sA s O O s.txt (gg (cj p n).toNat<|eM p n) (eM p n) []
  |false=>sA s O J s.txt (gg (cj p n).toNat<|eM p n) (eM p n)<|cz p n
section
def lz(h:0<=i)(H:i.toNat<L.length)(e:L.length<=100):(uu l (sT L) i<|.str<|T<|L.getD i.toNat []).Holds w:=by rw[bp<|oQ w (-l) (sT L) i _ h (amM H e) ?_];delta sT;rw[AG,Cc H,CQ,Cc H];rfl
def kv(h:(a++b).length<=AO):(uv a b).Holds w:=dX ((by
  intro A c s ec i j St _ _ _ k;let(t,rfl):=aS ec;rw[jU (by decide+kernel) Ez (Fh a b (t 0)<|t 1) ?_];let en:∀{r:BL}{n:Nat},a0 r=.ok (.str<|a++b)->(are a b).ax s r {s with toks:=n}:=λe=>⟨⟨λQ Q e Q=>e,AA _,rfl,rfl,rfl⟩,ajG e trivial⟩
  cases H:a.length==0 with
  |true=>rw[en (n:=s.toks) ?_];rw[abY H,];rw[Z8 (λx=>EE.ok<|.str x) ?_];show b=⟨#[]++b.cps⟩;rw[DX,]
  |false=>
   cases d:b.length==0 with
   |true=>rw[en (n:=s.toks) ?_];rw[abY d,];rw[Z8 (λx=>EE.ok<|.str x) ?_];show a=⟨a.cps++#[]⟩;rw[Array.append_empty,]
   |false=>rw[(h,en rfl)]):(are a b).Holds w) (λQ h=>h) λQ=>Z9
def aiR(x:g∈[]::c9) a:(zO (T g) (T<|g.take 1) a).Holds w:=md (F:=300) (n:=[0,1,1,1,1]) (ix:=[0]) (ks:=[J]) (bx:=[]) (y:=λQ=>y0) (by
 delta c9 at x;simp only[Ar,BF,or_false]at x
 rcases x with rfl|rfl|rfl|rfl|rfl|rfl<;>rw[aF]) rfl λQ=>Z9
def fu(a:Int)(h:0<k):0<=a.fmod k/\a.fmod k<k:=⟨Int.fmod_nonneg_of_pos a h,Int.fmod_lt_of_pos a h⟩
def ky{wd:!Nat}{p n:Int}(h:wd∈bE):(qV (T wd) p n<|T<|gg (cj p n).toNat wd).Holds w:=by let(a,b):=fu (n.fdiv 32+p) (k:=3) (by decide);let z:=ar6 w h (cj p n).toNat (by delta cj;rw[ahP b]);unfold vm at z;rw[show((cj p n).toNat:Int)=cj p n from Ht a]at z;rw[z]
end
section
variable{wd gp sp g1:U}
theorem jH:∀i:List<|It×Nat,(rp i).length=dk (i.map (·.1))
 |[]=>rfl
 |(⟨J,_,_⟩,_)::l=>Z8 (·+1)<|jH l
 |(⟨O,_,_⟩,_)::l=>jH l
def gU(c:N=T (bb.getD (n.fmod 4).toNat []))(hd:cU d N=Y (rf a))(hl:i.length<=4)(h:nx.Pure w l C [nj i]):(uw f F n d N a ia i (dk<|i.map (·.1)) (ib i As) nx).Pure w l C [nj i]:=by
 let(b,e):=fu n (k:=4) (by decide);rw[pV rfl ⟨rfl,rfl,rfl,rfl,rfl,rfl,trivial⟩ (by rw[c,];rw[lz b (by rw[ahQ e]) (by decide)]) λQ Q=>pU rfl (bp<|eZ w _ _ _ _ hd) λx Q=>pU rfl (alb<|AV hl (by decide)) λQ Q=>pU rfl (bp ?_) λQ Q=>h]
 let z:=iH w (x.t 1+4+902) (rp i)<|AV (Ax (by rw[jH,<-Ap (f:=(·.1)) (as:=i)];rw[G1 ..]) hl) (by decide);rw[jH]at z;rw[z]
def iQ(hl:i.length<=4)(h:nx.Pure w l C [nj i]):(vp ia i nx).Pure w l C [nj i]:=by let e:(ci i).length=i.length:=Ap ..;let z:=iH w (-ia) (ci i) (by rw[e,];rw[AV hl (by decide)]);rw[e]at z;rw[pU rfl (bp z) λQ Q=>h]
def mI(H:gp=T (cz p n))(m:wd=T (eM p n))(d:decide (fy n>3)=u)(hl:(i.length==4)=O)(b:u=J->(dk (i.map (·.1))==2)=O)(h:nx.Pure w l C [nj i]):(wY f p n i (dk<|i.map (·.1)) wd gp u nx).Pure w l C [nj i]:=by
 let(c,j):=fu ((n.fdiv 32).fdiv 3+p) (k:=5) (by decide);let(r,A):=fu (n.fdiv 32+p) (k:=7) (by decide);let e:∀{x k:Nat},(x==k)=O->((x:Int)==(k:Int))=O:=λ{x k} h=>ZX λz=>ne_of_beq_false h<|Gb z
 let I:(uu f.gl (sT c9) (((n.fdiv 32).fdiv 3+p).fmod 5)<|.str gp).Holds w:=by rw[H,];rw[lz c (by rw[rD j]) (by decide)]
 let L:(uu f.wl (sT dG) (wV n p)<|.str wd).Holds w:=by rw[m,];rw[lz r (by delta wV;rw[amN A]) (by decide)]
 cases u with
 |true=>rw[pV rfl ⟨rfl,rfl,rfl,rfl,e<|b rfl,d,e hl,trivial⟩ I λQ Q=>pV rfl ⟨rfl,trivial⟩ L λQ Q=>h]
 |false=>rw[pV rfl ⟨rfl,rfl,rfl,rfl,d,e hl,trivial⟩ I λQ Q=>pV rfl ⟨rfl,trivial⟩ L λQ Q=>h]
noncomputable def vq(g:!Nat):Bool:=g.take 1==[35]
def aiS:bq (T<|g.take 1) (S "#")=vq g:=by rw[show S "#"=T [35]by decide+kernel,];rfl
def ack{hd:!Nat}{qs:!Prop}{j:Nat}{en:U}{b:U}(h:∀y,C.pure y)(c:N=T (bb.getD (n.fmod 4).toNat []))(hl:i.length<=4)(dl:d.length<=100000)(H:decide (fy n>3)=u)(e:(fy n !=3)=mo)(m:bW qs)(r:(b++en).length<=AO)(x:(b++gp).length<=AO):∀B,(vo f n d N ia i gp u mo b en hd qs j).Pure w l C B:=λB=>by let(A,E):=fu n (k:=4) (by decide);rw[pV rfl ⟨H,m⟩ (kv r) λG Q=>pU rfl (aP w _ _ _ (by delta ci;rw[Ap,];rw[AV hl (by decide)])) λQ Q=>pU rfl (kv x) λI Q=>pV rfl ⟨e,trivial⟩ (by rw[c,];rw[lz A (by rw[ahQ E]) (by decide)]) λQ Q=>pU rfl (gQ<|oM w As _ _ _ _ dl) λQ Q=>pF rfl<|h _]
def jI{t2:U}(h:∀y,C.pure y)(c:N=T (bb.getD (n.fmod 4).toNat []))(hl:i.length<=4)(dl:d.length<=100000)(H:decide (fy n>3)=u)(j:(fy n !=3)=mo)(x:g∈[]::c9)(hz:t2.length+sp.length<=100000):∀B,(tS f n d N ia i (T g) sp (T<|g.take 1) u mo (vq g) t2).Pure w l C B:=λB=>by
 let G:∀g∈[]::c9,g.length<=9:=by decide
 let G:=G g x;let k:(t2++sp).length<=100000:=by rw[nV,];rw[hz]
 let b:∀e:!Nat,e.length<=9->(t2++sp++T e).length<=AO:=λe r=>by rw[nV,];rw[Ax (DI k r) (by decide)]
 rw[pU rfl (kv<|Ax k (by decide)) λA Q=>pU rfl (aiR x _) λE Q=>?_]
 cases m:vq g with
 |true=>rw[ack (qs:=[bq (T<|g.take 1) (S "#")=J]) h c hl dl H j ⟨aiS.trans m,trivial⟩ (b _ G) (b _ G) _]
 |false=>rw[pV rfl ⟨aiS.trans m,trivial⟩ (aiR x _) λI Q=>ack (qs:=[]) h c hl dl H j Z9 (b _<|Ax (List.length_take_le ..) (by decide)) (b _ G) _]
end
def kz{α:Type}{l m:!α}{x:α}(h:∀y∈l,y∈m)(H:x∈m) i:l.getD i x∈m:=by
 rw[CQ,];cases k:l[i]? with
 |none=>rw[H]
 |some y=>rw[h y<|Br k]
def ar9 p n:eM p n∈bE:=kz (by decide) (by decide) _
def asa p n:ic p n∈bE:=kz (by decide) (by decide) _
def sB p n:cz p n∈[]::c9:=kz (by decide) (by decide) _
def vr:∀cs∈bE,∀way<3,(gg way cs).length<=20:=by decide
def vu p n:(cj p n).toNat<3:=by let(a,b):=fu (n.fdiv 32+p) (k:=3) (by decide);rw[ahP b]
def asb g:ru (vq g) (T g) (T<|g.take 1)=T (fX g):=by
 delta ru fX vq;cases h:g.take 1==[35]with
 |true=>rfl
 |false=>rfl
section
variable{ak:!(It×Nat)}
def qt(w:AW)(f:Lf)(F e tu:Nat)(o:Option pD)(p n:Int)(d:DL)(N:U)(a ia:Nat)(b:!Nat)(ak:List<|It×Nat):Prop:=lG λI x c m=>A3 (i9 p n ⟨ak.map (·.1),b,J⟩=⟨ak.map (·.1)++[x],c,m⟩) (c.length<=b.length+60)<|(v9 f F e tu o p n d N a ia (T b) ak I (gS x) (T c) m).aw (qi<|.ref<| -tu) w As
def mJ(h:dm n ⟨ak.map (·.1),b,J⟩=O):(ak.length==4)=O/\(decide (fy n>3)=J->(dk (ak.map (·.1))==2)=O):=by delta dm at h;dsimp only at h;rw[Ap]at h;revert h;cases(ak.length==4)<;>cases decide (fy n>3)<;>cases(dk (ak.map (·.1))==2)<;>decide
def mK{t2 sp wd g:!Nat}(I:pD)(st:i9 p n ⟨ak.map (·.1),b,J⟩=sA ⟨ak.map (·.1),b,J⟩ u mo t2 sp wd g)(hz:(t2++sp++g).length<=b.length+60)(h:(v9 f F e tu o p n d N a ia (T b) ak I (wW u (T wd)<|T t2++T sp++ru (vq g) (T g) (T<|g.take 1)) (T t2++T sp++T g) mo).aw (qi<|.ref<| -tu) w As):qt w f F e tu o p n d N a ia b ak:=by rw[asb,bX,bX,bX]at h;rw[(I,⟨u,wd,_⟩,_,mo,st,hz,h)]
def g9F:∀g∈[]::c9,g.length<=9:=by decide
def qu l:(T l).length=l.length:=rfl
def afu(H:N=T (bb.getD (n.fmod 4).toNat []))(hd:cU d N=Y (rf a))(hl:ak.length<=4)(dl:d.length<=100000)(hz:c.length<=1000)(m:dm n ⟨ak.map (·.1),c,J⟩=O)(b:decide (fy n>3)=O):qt w f F e tu o p n d N a ia c ak:=by
 let(r,j):=mJ m;rw[b]at j;let w8:=ar9 p n;let h:=vr _ w8 _<|vu p n;let k:(T c).length+(T<|gg (cj p n).toNat<|eM p n).length<=100000:=Ax (DI hz h) (by decide);let fin:∀{A B C:!Nat},B.length<=20->C.length<=9->(A++B++C).length<=A.length+60:=λ{A B C} x E=>by rw[Ay,Ay];rw[amO x E]
 let G:((7:Int)==0)=O:=rfl;cases i:fy n==3 with
 |false=>rw[mK (u:=O) (mo:=J) (wd:=eM p n) (g:=cz p n) _ (by delta i9;rw[b,i]) (fin h<|g9F _<|sB p n)<|X.av afs rfl λQ Q=>gU H hd hl<|iQ hl<|mI rfl rfl b r j<|pV (l:=As) rfl ⟨b,i,trivial⟩ (ky w8) λQ Q=>jI (λQ=>Z9) H hl dl b (by delta bne;rw[i,]) (sB p n) k _]
 |true=>rw[mK (u:=O) (mo:=O) (wd:=eM p n) (g:=[]) _ (by delta i9;rw[b,i]) (fin h<|Bd _)<|X.av aft rfl λQ Q=>gU H hd hl<|iQ hl<|mI rfl rfl b r j<|pV (l:=As) rfl ⟨i,trivial⟩ (ky w8) λQ Q=>jI (λQ=>Z9) H hl dl b (by delta bne;rw[i,]) (List.mem_cons_self ..) k _]
def avI:∀way<3,(gg way gT).length<=20:=by decide
def asc(n:Int):(4-n.fmod 4==0)=O:=by let(a,b):=fu n (k:=4) (by decide);rw[ZX<|amP b]
def nm5 p n d:0<=wZ p n d/\(wZ p n d).toNat<5:=by
 let(a,b):=fu n (k:=4) (by decide);cases d with
 |true=>let(c,e):=fu (n.fdiv 32+p) (k:=5) (by decide);rw[(c,by rw[rD e])]
 |false=>
  let(c,e):=fu (n.fdiv 32) (k:=4-n.fmod 4)<|amQ b;constructor
  .rw[amR a c]
  .rw[amS e]
def sU:S "use"=T gT:=rfl
def afv ev a b g:mH ev (T a) (T b) (T g)=T (a++(match(generalizing:=false) ev with|true=>gT|false=>b)++g):=by
 cases ev with
 |true=>show T a++(S "use"++T g)=_;rw[sU,bX,bX,AD]
 |false=>show T a++(T b++T g)=_;rw[bX,bX,AD]
def oU(n p:Int)(ia:Nat)(ak:List<|It×Nat)(t2:U):pD:=⟨p,n,ia,t2++T (gg (cj p n).toNat<|ic p n),J,dk<|ak.map (·.1),T<|ic p n,T<|cz p n,cj p n,ru (vq<|cz p n) (T<|cz p n)<|T<|(cz p n).take 1⟩
def ag4(j:N=T (bb.getD (n.fmod 4).toNat []))(hd:cU d N=Y (rf a))(hl:ak.length<=4)(dl:d.length<=100000)(hz:b.length<=1000)(hs:dm n ⟨ak.map (·.1),b,J⟩=O)(H:decide (fy n>3)=J):qt w f F e tu o p n d N a ia b ak:=by
 let(M,E):=mJ hs;rw[H]at E;let w8:=asa p n;let c:=vr _ w8 _<|vu p n;let Q:=g9F _<|sB p n;let i:(fy n==3)=O:=ZX λh=>by rw[h]at H;rw[ZZ H (by decide)]
 let(V,n2):=nm5 p n<|fy n==7;let fin:∀{A Uq9 G B:!Nat},Uq9.length<=20->B.length<=20->G.length<=9->A.length<=1000->A4 ((A++Uq9++G++B++G).length<=A.length+60) ((T<|A++Uq9++G).length+(T B).length<=100000) ((T Uq9++T G).length<=AO) ((T A++(T Uq9++T G)).length<=AO):=λ{A Uq9 G B} k m i r=>by rw[bX,bX,qu,qu,qu,qu];simp only[Ay];rw[(adt k m i r,adu k m i r,adv k m i r,adw k m i r)]
 let mm:(fy n !=3)=J:=by delta bne;rw[i,];rfl
 cases ev:(n.fdiv 32).fmod 2==0 with
 |true=>
  let(f1,I,x,C):=fin (A:=b) (Uq9:=gT) (by decide) c Q hz;rw[<-sU]at x C;let L:pE p n=gT:=by delta pE;rw[ev,]
  rw[mK (u:=J) (mo:=J) (t2:=b++gT++cz p n) (wd:=ic p n) (g:=cz p n) (oU n p ia ak<|mH J (T b) (T [])<|T<|cz p n) (by delta i9;rw[H,L,AD]) f1 ?_];rw[<-afv J b []<|cz p n];rw[X.av adh rfl λ_ _=>gU j hd hl<|iQ hl<|mI rfl rfl H M E<|pV (l:=As) rfl ⟨by cases fy n==7<;>first|exact asc n|rfl,rfl,H,i,trivial⟩ (lz V n2 (by decide)) λ_ _=>pV rfl ⟨ev,rfl,trivial⟩ (kv x) λ_ _=>pU rfl (kv C) λ_ _=>pU rfl (ky w8) λ_ _=>jI (λ_=>Z9) j hl dl H mm (sB p n) (by rw[sU,bX,bX,<-AD];rw[I]) _]
 |false=>
  let(f1,I,x,C):=fin (A:=b) (Uq9:=gg (cj p n).toNat gT) (vr gT (by decide) _<|vu p n) c Q hz;let L:pE p n=gg (cj p n).toNat gT:=by delta pE;rw[ev,]
  rw[mK (u:=J) (mo:=J) (t2:=b++gg (cj p n).toNat gT++cz p n) (wd:=ic p n) (g:=cz p n) (oU n p ia ak<|mH O (T b) (T<|gg (cj p n).toNat gT)<|T<|cz p n) (by delta i9;rw[H,L,AD]) f1 ?_];rw[<-afv O b (gg (cj p n).toNat gT)<|cz p n];rw[X.av adg rfl λ_ _=>gU j hd hl<|iQ hl<|mI rfl rfl H M E<|pV (l:=As) rfl ⟨by cases fy n==7<;>first|exact asc n|rfl,rfl,H,i,trivial⟩ (lz V n2 (by decide)) λ_ _=>pV rfl ⟨ev,rfl,trivial⟩ (by show(qV (S "use") p n<|T<|gg (cj p n).toNat gT).Holds w;rw[sU,];rw[ky (by decide)]) λ_ _=>pU rfl (kv x) λ_ _=>pU rfl (kv C) λ_ _=>pU rfl (ky w8) λ_ _=>jI (λ_=>Z9) j hl dl H mm (sB p n) (by rw[bX,bX,<-AD];rw[I]) _]
def ag5(c:N=T (bb.getD (n.fmod 4).toNat []))(hd:cU d N=Y (rf a))(hl:ak.length<=4)(H:dm n ⟨ak.map (·.1),b,mo⟩=J):(yj f F e tu oo p n d a ia (T b) mo ak<|dk<|ak.map (·.1)).aw (qi<|.ref<| -tu) w As:=by
 cases mo with
 |false=>rw[X.av adi rfl λQ Q=>gU c hd hl<|pF rfl Z9]
 |true=>
  delta dm at H;dsimp only at H;rw[Ap]at H;let e:∀{x k:Nat},(x==k)=J->((x:Int)==(k:Int))=J:=λ{x k} h=>by rw[BX h,];rw[BEq.refl _]
  cases i:ak.length==4 with
  |true=>rw[X.av adj rfl λQ Q=>gU c hd hl<|iQ hl<|pG rfl ⟨e i,trivial⟩ Z9]
  |false=>
   rw[i]at H;cases j:decide (fy n>3)with
   |false=>rw[j]at H;rw[nomatch H]
   |true=>rw[j]at H;rw[X.av adk rfl λQ Q=>gU c hd hl<|iQ hl<|pG rfl ⟨e H,j,(ZX λz=>ne_of_beq_false i<|Gb z),trivial⟩ Z9]
end
noncomputable def ux(it:AL)(v x:AF)(o:AF):Obj:={cls:=.type "enumerate",dict:=As,data:=.fields #[x,.bool O,.ref it,v,.none,o],slots:=#[]}
noncomputable def vv(l:AL)(v:AF):Obj:={cls:=.type "list_iterator",dict:=As,data:=.fields #[.ref l,v],slots:=#[]}
section
variable{prog:Dg}{w:AW}{A:CB}{s:AJ}{E:AF->AJ->Prop}
def ag6{e it l:AL}{i t u:Nat}{I:Array AF}{n:Nat}{x G:AF}{Q:Option AF->AJ->Prop}(he:s.heap.get? e=Y (ux it (.int i t) .none G))(hi:s.heap.get? it=Y (vv l<|.int i u))(hl:s.heap.get? l=Y {cls:=.type "list",data:=.seq I n})(hx:I[i]?=Y x)(L:e≠it)
  (hQ:∀h',h'.get? e=Y (ux it (Co<|(i:Int)+1) (Co s.heap.objs.size) x)->h'.get? it=Y (vv l<|Co<|(i:Int)+1)->h'.get? s.heap.objs.size=Y {cls:=.type "tuple",data:=.seq #[.int i s.toks,x]}->h'.objs.size=s.heap.objs.size+1->(∀b o,b≠e->b≠it->s.heap.get? b=Y o->h'.get? b=Y o)->Q (Y<|.ref s.heap.objs.size) {s with heap:=h',toks:=s.toks+1}):
  A0 (AN prog w) A (Fu<|.ref e) Q E s:=by
 let(hp,g,d,tk,os):=s;let tE:Ib ⟨hp,g,d,tk,os⟩ (.ref e) "enumerate":=⟨_,he,rfl⟩;let tI:Ib ⟨hp,g,d,tk,os⟩ (.ref it) "list_iterator":=⟨_,hi,rfl⟩;let li:it<hp.objs.size:=AP hi;rw[Al<|Gh<|B7 (name:=BV "__next__") tE Ec<|CT Ec tE GK ?_<|Gv _];show A0 _ _ (GN (.ref e) 2>>=_) _ _ _;rw[Al<|Bf he rfl (x:=.ref it) rfl<|Al ?_];rw[Al<|B7 (name:=BV "__next__") tI EG<|CT EG tI Df ?_<|Iy _];rw[cT,];rw[Al<|Bf hi rfl (i:=0) rfl ?_];show A0 _ _ (if(BZ l==B8)=J then _ else _) _ _ _;show A0 _ _ (GN (.ref it) 1>>=_) _ _ _;rw[Al<|Bf hi rfl (i:=1) rfl ?_];show A0 _ _ (Hs (.ref l)>>=_) _ _ _;rw[Al<|DQ hl rfl ?_];simp only[Ca,hx];rw[Al<|BA hi (by simp) λH hi₁ k=>Aw ⟨x,rfl,Aw ?_⟩]
 let j:H.get? e=Y (ux it (.int i t) .none G):=(k.2 e L).trans he;show A0 _ _ (GN (.ref e) 3>>=_) _ _ ⟨H,g,d,tk,os⟩;rw[Al<|Bf j rfl (x:=.int i t) rfl ?_];show A0 _ _ (GN (.ref e) 4>>=_) _ _ ⟨H,g,d,tk,os⟩;rw[Al<|Bf j rfl (x:=.none) rfl ?_];show A0 _ _ (mkInt i>>=_) _ _ ⟨H,g,d,tk,os⟩;rw[Al<|G7 ?_];show A0 _ _ (D3 (.ref e) 3 (Co<|(i:Int)+1)>>=_) _ _ ⟨H,g,d,tk+1,os⟩;rw[Al<|BA j (by simp) λh₂ he₂ m=>?_]
 show A0 _ _ (D3 (.ref e) 4 .none>>=_) _ _ ⟨h₂,g,d,tk+1,os⟩;rw[Al<|BA he₂ (by simp) λr he₃ B=>?_]
 show A0 _ _ (newTuple [.int i tk,x]>>=_) _ _ ⟨r,g,d,tk+1,os⟩;let z3:r.objs.size=hp.objs.size:=B.1.trans<|m.1.trans k.1;rw[Al<|Hd ?_];generalize C:r.push {cls:=.type "tuple",data:=.seq #[.int i tk,x]}=h;let c:h.get? e=Y (ux it (Co<|(i:Int)+1) .none G):=by rw[<-C];rw[AU _ he₃]
 let k4:∀b o,b≠e->b≠it->hp.get? b=Y o->h.get? b=Y o:=λb o n1 n2 g=>by rw[<-C];rw[AU _<|(B.2 b n1).trans<|(m.2 b n1).trans<|(k.2 b n2).trans g]
 let i4:h.get? it=Y (vv l<|Co<|(i:Int)+1):=by rw[<-C];rw[AU _<|(B.2 it<|Ne.symm L).trans<|(m.2 it<|Ne.symm L).trans hi₁]
 let t4:h.get? hp.objs.size=Y {cls:=.type "tuple",data:=.seq #[.int i tk,x]}:=by rw[<-C,<-z3];rw[BB _ rfl]
 let z4:h.objs.size=hp.objs.size+1:=by rw[<-C,Cq,z3]
 show A0 _ _ (Ie (.ref e)>>=_) _ _ ⟨h,g,d,tk+1,os⟩;rw[z3,];rw[Al ?_];rw[Al<|Bf c rfl (x:=.none) rfl<|Aw ?_];rw[Al<|E9<|Al<|Bf c rfl (x:=G) rfl<|Al<|BA c (by simp) λh₅ he₅ M=>?_]
 rw[Al ?_];rw[Al<|BA he₅ (by simp) λh₆ he₆ N=>BA he₆ (by simp) λh₇ he₇ V=>Al<|FY<|Aw ⟨_,rfl,Aw<|hQ h₇ he₇ ?_ ?_ ?_ ?_⟩]
 all_goals let k7:=λb n=>(V.2 b n).trans<|(N.2 b n).trans<|M.2 b n
 .rw[(k7 _<|Ne.symm L).trans i4]
 .rw[(k7 _<|Ne.symm<|DA<|AP he).trans t4]
 .rw[(V.1.trans<|N.1.trans M.1).trans z4]
 .rw[λb o n1 n2 g=>(k7 b n1).trans<|k4 b o n1 n2 g]
def alc{e it l:AL}{i t u:Nat}{I:Array AF}{n:Nat}{j:AF}{Q:Option AF->AJ->Prop}(B:A.handled=As)(k:s.heap.get? e=Y (ux it (.int i t) .none j))(d:s.heap.get? it=Y (vv l<|.int i u))(hl:s.heap.get? l=Y {cls:=.type "list",data:=.seq I n})(C:I[i]?=As)
  (G:∀h',KJ it s.heap h'->s.heap.objs.size<=h'.objs.size->Q As {s with heap:=h'}):A0 (AN prog w) A (Fu<|.ref e) Q E s:=by
 let m:s.TypeIs (.ref e) "enumerate":=⟨_,k,rfl⟩;let r:s.TypeIs (.ref it) "list_iterator":=⟨_,d,rfl⟩;rw[Al<|Gh<|B7 (name:=BV "__next__") m Ec<|CT Ec m GK ?_<|Gv _];show A0 _ _ (GN (.ref e) 2>>=_) _ _ s;rw[Al<|Bf k rfl (x:=.ref it) rfl<|Al ?_];rw[Al<|B7 (name:=BV "__next__") r EG<|CT EG r Df ?_<|Iy _];rw[cT,];rw[Al<|Bf d rfl (i:=0) rfl ?_];rw[Al<|Bf d rfl (i:=1) rfl ?_];rw[Al<|DQ hl rfl ?_];simp only[Ca,C];rw[Al<|E9<|Al<|BA d (by simp) λH V c=>?_]
 rw[@gN _ _ _ {s with heap:=H} ⟨As⟩ _ _ _ B (λV h=>nomatch h) λh' L M g=>?_]
 let(t,g):=bZ g;rw[Al<|Ja (T:="StopIteration") (b:=J) ⟨_,g,rfl⟩ JR ?_];rw[Aw<|G h' (λb o N e=>L b o<|(c.2 b N).trans e)<|Ax (AY c.1.symm)<|Ax (BG _ 2)<|AY M.symm]
end
def pH(it:Nat)(j:Int)(o:SV):SO:=.fld (.type "enumerate") [.none,.bool O,rf it,.int j,.none,o]
def w1(l:Nat)(j:Int):SO:=.fld (.type "list_iterator") [rf l,.int j]
def afw(h:rd b=pH it j o):dK λt v=>b=ux (-it) (.int j t) .none v:=by let(⟨vs⟩,rfl,e):=eX h;let(t,rfl):=gc e;rw[(t 3,_,rfl)]
def afx(h:rd b=w1 l j):∃t,b=vv (-l) (.int j t):=by let(⟨vs⟩,rfl,e):=eX h;let(t,rfl):=gc e;rw[(t 1,rfl)]
section
variable{e it l j:Nat}
def th(e it l:Nat)(j:Int)(o:SV)(xs:!SV):Rd:=[(-e,pH it j o),(-it,w1 l j),(-l,.seq Lt xs)]
def ag7(n:C.aA w [] As A c s)(M:aK C As s d<|th e it l j o xs++R0){es:!Ea}{x1:Nat}{ps:Pos}{b ob:!Gc}{env:Env}(hc:c=.forLoop (.Tuple es x1 ps) (.ref<| -e) b ob env)(H:c.quiet=J)(hx:xs[j]?=Y x){R2:AJ->Prop}
  (h3:∀tu s2,aK C As s s2 ((-tu,.seq Tt [.int j,x])::(th e it l (j+1:Nat) x xs++R0))->Bq (MM w) A c (qi (.ref<| -tu) c) (CH PW w A λr I=>(r=.ok .next\/r=.ok .cont)/\R2 I) (C7 λr I=>(r=.ok .next\/r=.ok .cont)/\R2 I) s2)
  (h4:∀k,R2 k->Be (MM w) A c G k):Be (MM w) A c G d:=by
 let(oe,ge,re):=M.hs _ aE;let(oi,gi,ri):=M.hs _ ce;let(ol,gl,rl):=M.hs _ iW;let(t,old,rfl):=afw re;let(u,rfl):=afx ri;let(L,m,rfl,hi):=c0 rl;let nd:=M.nd;let(N,nd):=AC.mp nd;let(n2,nd3):=AC.mp nd;let Q:-e≠-it:=λq=>N (by rw[q,];rw[aE])
 obtain⟨v,hv,rfl⟩:∃v,L[j]?=Y v/\aC v=x:=by rw[<-hi,AG]at hx;let(v,hv,hx):=Bj.mp hx;rw[(v,by rw[<-Bt];rw[hv],hx)]
 obtain⟨tu,B⟩:∃tu,d.heap.objs.size=-tu:=⟨d.heap.objs.size-902,(Bo<|Ax n.St.big M.kp.grow).symm⟩
 rw[aaW hc H
  (R0:=λV k=>V=.ref d.heap.objs.size/\∃E,A6 (k={d with heap:=E,toks:=d.toks+1}) (E.get? (-e)=Y (ux (-it) (Co<|(j:Int)+1) (Co d.heap.objs.size) v)) (E.get? (-it)=Y (vv (-l)<|Co<|(j:Int)+1)) (E.get? d.heap.objs.size=Y {cls:=.type "tuple",data:=.seq #[.int j d.toks,v]}) (E.objs.size=d.heap.objs.size+1) (∀b o,b≠-e->b≠-it->d.heap.get? b=Y o->E.get? b=Y o))
  (R1:=λV k=>V=.ref (-tu)/\aK C As s k ((-tu,.seq Tt [.int j,aC v])::(th e it l (j+1:Nat) (aC v) xs++R0)))
  (ag6 ge gi gl hv Q λE a1 a2 a3 a4 a5=>⟨_,rfl,rfl,E,rfl,a1,a2,a3,a4,a5⟩) (λV k z=>?_) (λV k z=>?_) h4]
 .let(rfl,E,rfl,a1,a2,a3,a4,a5):=z;rw[wpAny_letOwnedTupleGo_enum a1 λi b1 b2=>⟨by rw[B,],?_⟩]
  let i2:i.get? (-it)=Y (vv (-l)<|Co<|(j:Int)+1):=(b2.2 _<|Ne.symm Q).trans a2;let kp:∀b o,b≠-e->b≠-it->d.heap.get? b=Y o->i.get? b=Y o:=λb o N n2 g=>(b2.2 b N).trans<|a5 b o N n2 g
  let sz:i.objs.size=d.heap.objs.size+1:=b2.1.trans a4;let kr:∀q∈(-l,SO.seq Lt xs)::R0,∃o,i.get? q.1=Y o/\q.2.is o:=λq H=>by let(o,g,r):=M.hs q<|.tail _<|.tail _ H;let mq:q.1∈aH ((-l,SO.seq Lt xs)::R0):=Av H;rw[(o,kp _ o (λz=>N (by rw[<-z];rw[.tail _ mq])) (λz=>n2 (by rw[<-z];rw[mq])) g,r)]
  let ow:∀{b:AL}{o2:Obj},s.heap.get? b=Y o2->b∈aH (th e it l j o xs++R0)->C.own b:=λ{b o2} g m=>(M.own b m).elim id λz=>ZZ (AP g)<|AX.mpr z
  let lt:∀b∈aH (th e it l j o xs++R0),b<d.heap.objs.size:=λb hb=>by let(q,H,rfl):=AM.mp hb;let(o2,g,_):=M.hs q H;rw[AP g]
  rw[(⟨λb o2 g q=>kp b o2 (λz=>q<|.inl<|ow g (z▸aE)) (λz=>q<|.inl<|ow g (z▸ce))<|M.kp.keep b o2 g q,Ax M.kp.grow (sz▸CE _),M.kp.g,M.kp.d,M.kp.os⟩,⟨λ_ h=>(nomatch h),by rintro _ ⟨_,h,_⟩;rw[nomatch h]⟩,λq H=>?_,AC.mpr ⟨λm=>ZZ (lt _ m) (by rw[B,];rw[Cs _]),M.nd⟩,λa ha=>?_)]
  .rcases Ar.mp H with rfl|H
   .rw[(_,by rw[<-B];rw[(b2.2 _<|Ne.symm<|DA<|AP ge).trans a3],fF rfl)]
   rcases Ar.mp H with rfl|H
   .rw[(_,b1,fF rfl)]
   rcases Ar.mp H with rfl|H
   .rw[(_,i2,fF rfl)]
   .rw[kr q H]
  .rcases Ar.mp ha with rfl|ha
   .rw[.inr (by rw[<-B];rw[M.kp.grow])]
   .rw[M.own a ha]
 .let(rfl,z):=z;rw[h3 tu k z]
def ag8(n:C.aA w [] As A c s)(hd:C.hd=As)(M:aK C As s B<|th e it l j o xs++R0)(E:c=.forLoop t (.ref<| -e) b [] env)(H:(JM [] env).quiet=J)(k:xs[j]?=As)
  (h:∀d,aK C As s d ((-l,.seq Lt xs)::R0)->G (.ok .next) d):Be (MM w) A c G B:=by
 let(oe,I,re):=M.hs _ aE;let(oi,Q,V):=M.hs _ ce;let(ol,L,rl):=M.hs _ iW;let(t,old,rfl):=afw re;let(u,rfl):=afx V;let(i,m,rfl,hi):=c0 rl;let(n1,nd):=AC.mp M.nd;let(n2,N):=AC.mp nd;let hv:i[j]?=As:=by rw[<-hi,AG]at k;rw[<-Bt];rw[EM.mp k]
 rw[aaX E H (R:=λd=>aK C As s d<|(-l,.seq Lt xs)::R0) (alc (n.hd.trans hd) I Q L hv λh' x z=>⟨rfl,⟨λb o2 g q=>x b o2 (λz=>q<|.inl<|(M.own b (z▸ce)).elim id λz=>ZZ (AP g)<|AX.mpr z)<|M.kp.keep b o2 g q,Ax M.kp.grow z,M.kp.g,M.kp.d,M.kp.os⟩,⟨λ_ h=>(nomatch h),by rintro _ ⟨_,h,_⟩;rw[nomatch h]⟩,λq H=>?_,N,λa ha=>M.own a<|.tail _<|.tail _ ha⟩) h];let(o2,g,r):=M.hs q<|.tail _<|.tail _ H;let mq:q.1∈aH ((-l,SO.seq Lt xs)::R0):=Av H;rw[(o2,x _ o2 (λz=>n2 (by rw[<-z];rw[mq])) g,r)]
end
noncomputable def upd(f:Nat->α)(k:Nat)(v:α):Nat->α:=λi=>if i=k then v else f i
def kC f k (v:α):upd f k v k=v:=Z0 rfl
def afy f (v:α)(h:i≠k):upd f k v i=f i:=Z7 h
def acl(g:α->β) f k (v:α):(λi=>g (upd f k v i))=upd (λi=>g (f i)) k (g v):=funext λi=>by delta upd;split<;>rfl
structure Fz where
 fa:Nat
 ia:Nat
 ak:List<|It×Nat
 tx:!Nat
 mo:Bool
noncomputable def Fz.st(z:Fz):Fs:=⟨z.ak.map (·.1),z.tx,z.mo⟩
def Fz.f1(z:Fz):AL×SO:=(-z.fa,.seq Lt [rf z.ia,.str<|T z.tx,.bool z.mo])
def Fz.i1(z:Fz):AL×SO:=(-z.ia,.seq Lt<|ci z.ak)
def Fz.R(z:Fz):Rd:=z.f1::z.i1::nj z.ak
def bI(k:Nat):U:=T<|bb.getD k []
def cL(a:Nat->Nat):DL:=[(bI 0,rf<|a 0),(bI 1,rf<|a 1),(bI 2,rf<|a 2),(bI 3,rf<|a 3)]
def mL b (h:k<4):cU (cL b) (bI k)=Y (rf<|b k):=by
 rcases k with _|_|_|_|k
 .rfl
 .rfl
 .rfl
 .rfl
 .rw[(gw h).elim]
def ag9 b (h:k<4) v:iE (cL b) (bI k) (rf v)=cL (upd b k v):=by
 rcases k with _|_|_|_|k
 .rfl
 .rfl
 .rfl
 .rfl
 .rw[(gw h).elim]
def kD(p n:Int)(s:Fs):Fs:=match dm n s with
 |true=>s
 |false=>i9 p n s
noncomputable def lh:Nat->!Int->(Nat->Fs)->Nat->Fs
 |_,[],S=>S
 |p,n::r,S=>lh (p+1) r<|upd S (n.fmod 4).toNat<|kD p n<|S (n.fmod 4).toNat
def oh(Z:Nat->Fz):Rd:=(Z 0).R++((Z 1).R++((Z 2).R++(Z 3).R))
def am(Z:Nat->Fz):Nat->Rd
 |0=>(Z 1).R++((Z 2).R++(Z 3).R)
 |1=>(Z 0).R++((Z 2).R++(Z 3).R)
 |2=>(Z 0).R++((Z 1).R++(Z 3).R)
 |_=>(Z 0).R++((Z 1).R++(Z 2).R)
def kE(a b c:!α):(a++(b++c)).Perm<|b++(a++c):=by rw[<-AD,<-AD];rw[CG.append_right c]
def jJ(Z:Nat->Fz)(h:k<4):(oh Z).Perm<|(Z k).R++am Z k:=by
 rcases k with _|_|_|_|k
 .rw[.rfl]
 .rw[kE _ _ _]
 .rw[((kE _ _ _).append_left _).trans<|kE _ _ _]
 .rw[(((CG (l₁:=(Z 2).R)).append_left _).append_left _).trans<|((kE _ _ _).append_left _).trans<|kE _ _ _]
 .rw[(gw h).elim]
def aha Z (h:k<4) z:am (upd Z k z) k=am Z k:=by
 rcases k with _|_|_|_|k
 .rfl
 .rfl
 .rfl
 .rfl
 .rw[(gw h).elim]
def w2:Option pD->!(SV×SV)
 |none=>[]
 |some o=>lf8 o.p o.n o.ia o.tx o.mo++([(sS "many",.int o.m)]++lf4 o.wd o.gp o.way o.en)
def ald f o:wS f o=wQ f++w2 o:=by
 cases o with
 |none=>rw[(Az _).symm]
 |some o=>rfl
def pI(f:Lf)(F:Nat)(o:Option pD)(a:Nat->Nat):Rd:=[(-F,.ns Fr<|wS f o),(-f.nl,.seq Lt<|sT bb),(-f.wl,.seq Lt<|sT dG),(-f.gl,.seq Lt<|sT c9),(-f.fd,aM<|cL a)]
def sC(f:Lf)(F e it l:Nat)(o:Option pD)(d:SV)(xs:!Int)(Z:Nat->Fz):X:={ec:=.am<|iP F e,ai:=601,pre:=pI f F o (λk=>(Z k).fa)++[(-l,.seq Lt<|xs.map .int)],aj:=[[(-e,pH it (0:Nat) d),(-it,w1 l (0:Nat))],(Z 0).R,(Z 1).R,(Z 2).R,(Z 3).R],ab:=λQ=>.au .next,post:=λy=>[.ns Fr<|wQ f++y.u.fs 0,.seq Lt<|sT bb,.seq Lt<|sT dG,.seq Lt<|sT c9,aM<|cL y.n,.seq Lt<|xs.map .int],af:=λy=>[y.r 0,y.r 1,y.r 2,y.r 3],pure:=λy=>∃b:Nat->Fz,A3 (y.n=(λk=>(b k).fa)) (y.r=(λk=>(b k).R))<|(λk=>(b k).st)=lh 0 xs λk=>(Z k).st}
structure w3(o:Option pD)(Z:Nat->Fz):Prop where
 new:o=As->∀k,(Z k).mo=J/\(Z k).ak=[]
 len:∀k,(Z k).ak.length<=4/\(Z k).tx.length<=60*(Z k).ak.length
section
def zP{α:Type}{t A I L M a4 a i:α}{E Uq9 c aQ:!α}(h:aQ.Perm<|a::i::Uq9++c):(t::(E++([A,I,L,M,a4]++aQ))).Perm<|([A,t,I,L,M,a4,a,i]++(Uq9++[]))++(E++c):=bP λq=>by have:=h.count_eq q;simp only[B4,AQ,CJ,DS]at this ⊢;rw[amT this]
def pmB{α:Type}{t A I L M a4 a i b:α}{E Uq9 c aQ:!α}(h:aQ.Perm<|b::i::Uq9++c):((([A,t,I,L,M,a4,a,i]++[b])++(Uq9++[]))++(E++c)).Perm<|(E++([A,I,L,M,a4]++aQ))++[t,a]:=bP λq=>by have:=h.count_eq q;simp only[B4,AQ,CJ,DS]at this ⊢;rw[amU this]
def afz i x j:ci (i++[(x,j)])=ci i++[rf j]:=AE
def ahb i x j:nj (i++[(x,j)])=nj i++[(-j,gS x)]:=AE
def ahc(n:(sC f F e it l o B ns Z).aA w [] As A c s){x:Int}{G:BL->AJ->Prop}(hp:ns.drop p=x::r)(hc:c=iP F e)(M:aK (sC f F e it l o B ns Z) As s s1<|th e it l p v (ns.map .int)++(pI f F o1 (λk=>(d k).fa)++oh d))(I:w3 o1 d)
  (next:∀C o2 m,aK (sC f F e it l o B ns Z) As s C (th e it l (p+1:Nat) (.int x) (ns.map .int)++(pI f F (Y o2) (λk=>(m k).fa)++oh m))->w3 (Y o2) m->(λk=>(m k).st)=upd (λk=>(d k).st) (x.fmod 4).toNat (kD p x (d (x.fmod 4).toNat).st)->Be (MM w) A c G C):Be (MM w) A c G s1:=by
 let N:(x.fmod 4).toNat<4:=by let(a,b):=fu x (k:=4) (by decide);rw[amV b]
 let hx:(ns.map SV.int)[p]?=Y (.int x):=by rw[AG,<-Fv,hp];rfl
 rw[ag7 n M (hc.trans rfl) (by rw[hc,];rfl) hx (R2:=λC=>dK λo2 m=>A3 (aK (sC f F e it l o B ns Z) As s C<|th e it l (p+1:Nat) (.int x) (ns.map .int)++(pI f F (Y o2) (λk=>(m k).fa)++oh m)) (w3 (Y o2) m)<|(λk=>(m k).st)=upd (λk=>(d k).st) (x.fmod 4).toNat (kD p x (d (x.fmod 4).toNat).st)) (λtu C L=>?_) λC ⟨o2,m,a,b,c⟩=>next C o2 m a b c]
 clear M;generalize hk:(x.fmod 4).toNat=k at N;let hn:bI k=T (bb.getD (x.fmod 4).toNat []):=by rw[hk,];rfl
 let hd:=mL (λk=>(d k).fa) N;let(l1,l2):=I.len k;let Q:=L.perm<|zP<|jJ d N;let dp:=Dj (B6 _) n.ai;cases j:dm x (d k).st with
 |true=>
  clear L;cases o1 with
  |none=>
   let(n1,n2):=I.new rfl k;delta Fz.st at j;rw[n1,n2]at j
   rw[ZZ (j.symm.trans ((by
     delta dm;clear j
     cases decide (fy x>3)<;>rfl):dm x ⟨[].map λq:It×Nat=>q.1,(d (x.fmod 4).toNat).tx,J⟩=O)) (by decide)]
  |some oo=>
   let H:=ag5 (w:=w) (f:=f) (F:=F) (e:=e) (tu:=tu) (p:=p) (oo:=oo) (ia:=(d k).ia) hn hd l1 j;rw[H.use (aK.need n Q (by rw[hc,];rfl) n.hd (λ_ h=>nomatch h) dp<|.inl rfl) λr s3 g=>?_]
   obtain⟨y,er,-,-,-,M4⟩:=aK.run n Q g;rw[(.inr<|ch er,⟨p,x,(d k).ia,T (d k).tx,(d k).mo,dk<|(d k).ak.map (·.1),oo.wd,oo.gp,oo.way,oo.en⟩,d,(M4.perm (R0:=_++[(-tu,SO.seq Tt [SV.int p,SV.int x])]) ?_).less,⟨(λh=>nomatch h),I.len⟩,?_)]
   .rw[(zP<|jJ d N).symm.trans<|CG (l₁:=[_])]
   .delta kD;rw[j,]
    rw[(funext λi=>by
      delta upd;clear j;split
      .rename_i h;rw[h,]
      .rfl).symm]
 |false=>
  let mo:(d k).mo=J:=by
   delta dm Fz.st at j;revert j;clear L;cases(d k).mo with
   |true=>rw[λ_=>rfl]
   |false=>rw[λh=>nomatch h]
  let E:dm x ⟨(d k).ak.map (·.1),(d k).tx,J⟩=O:=by rw[<-mo];rw[j]
  let(l3,_):=mJ E
  obtain⟨o',xi,V,mo',st,ln,H⟩:qt w f F e tu o1 p x (cL λk=>(d k).fa) (bI k) (d k).fa (d k).ia (d k).tx (d k).ak:=by
   let tz:=amW l1 l2;let dl:(cL λk=>(d k).fa).length<=100000:=by show 4<=100000;decide
   clear L j;cases h5:decide (fy x>3)with
   |false=>rw[afu hn hd l1 dl tz E h5]
   |true=>rw[ag4 hn hd l1 dl tz E h5]
  let P4:(oh d).Perm<|(-(d k).fa,.seq Lt [rf (d k).ia,.str<|T (d k).tx,.bool J])::(d k).i1::nj (d k).ak++am d k:=by rw[<-mo];rw[jJ d N]
  let Q:=L.perm<|zP P4;rw[H.use (aK.need n Q (by rw[hc,];rfl) n.hd (λ_ h=>nomatch h) dp<|.inl rfl) λr s3 g=>?_]
  obtain⟨y,er,-,-,-,M4⟩:=aK.run n Q g;rw[(.inl<|ch er,o',upd d k ⟨y.n 0,(d k).ia,(d k).ak++[(xi,y.n 1)],V,mo'⟩,(M4.perm (R0:=_++[(-tu,SO.seq Tt [SV.int p,SV.int x]),(-(d k).fa,.seq Lt [rf (d k).ia,.str<|T (d k).tx,.bool J])]) ?_).less,⟨(λh=>nomatch h),λi=>?_⟩,?_)]
  .let z:=jJ (upd d k ⟨y.n 0,(d k).ia,(d k).ak++[(xi,y.n 1)],V,mo'⟩) N;rw[kC,aha _ N]at z;delta Fz.R Fz.i1 at z;dsimp only at z;rw[afz,ahb]at z;delta pI;rw[acl Fz.fa,<-ag9 _ N];rw[pmB z]
  .delta upd;clear L j;split
   .dsimp only;rw[Ay,];rw[amX l1 l2 (ne_of_beq_false l3) ln]
   .rw[I.len i]
  .rw[acl Fz.st,];delta kD;rw[j,];dsimp only;delta Fz.st;dsimp only;rw[mo,st,AE];rfl
def ale(n:(sC f F e it l o b ns Z).aA w [] As A c s)(i:c=iP F e):∀(r:!Int)(p:Nat)(Q:Option pD)(v:SV)(d:Nat->Fz)(h:AJ),ns.drop p=r->aK (sC f F e it l o b ns Z) As s h (th e it l p v (ns.map .int)++(pI f F Q (λk=>(d k).fa)++oh d))->w3 Q d->(lh p r λk=>(d k).st)=(lh 0 ns λk=>(Z k).st)->Be (MM w) A c ((sC f F e it l o b ns Z).ax As s) h:=by
 cases _ with
 |nil=>
  intro p Q v d h j M I H;rw[ag8 n rfl M (t:=_) (i.trans rfl) rfl ?_ λm M=>aK.fin n M (Jq9:=[]) (y:={y0 with n:=λk=>(d k).fa,r:=λk=>(d k).R,u:={fs:=λV=>w2 Q}}) ?_ rfl rfl rfl ⟨d,rfl,rfl,H⟩]
  .rw[D9,];rw[Ap,];rw[Hk.mp j]
  .delta pI;rw[ald,];let e:((sC f F e it l o b ns Z).led {y0 with n:=λk=>(d k).fa,r:=λk=>(d k).R,u:={fs:=λV=>w2 Q}}++((sC f F e it l o b ns Z).af {y0 with n:=λk=>(d k).fa,r:=λk=>(d k).R,u:={fs:=λV=>w2 Q}}).flatten)++[]=[(-F,.ns Fr<|wQ f++w2 Q),(-f.nl,.seq Lt<|sT bb),(-f.wl,.seq Lt<|sT dG),(-f.gl,.seq Lt<|sT c9),(-f.fd,aM<|cL λk=>(d k).fa)]++(-l,.seq Lt<|ns.map .int)::oh d:=by rw[Az,];show _::_::_::_::_::_::((d 0).R++((d 1).R++((d 2).R++((d 3).R++[]))))=_;rw[Az,];rfl
   rw[e,];rw[El.symm]
 |cons x r C=>
  intro p Q v d h j M I H
  rw[ahc n j i M I λm o2 E G L N=>C (p+1) (Y o2) (.int x) E m (by
   rw[<-BU,j];rfl) G L (by
   rw[N,]
   rw[H])]
def asd(I:w3 o Z):(sC f F e it l o d ns Z).Holds w:=λA c s n=>by
 let H:c=iP F e:=by
  let ec:=n.ec;clear n;cases c with
  |call=>cases ec
  |builtin=>cases ec
  |_=>rw[EC.am.inj ec]
 rw[ale n H ns 0 o d Z s rfl ((aK.of n).perm<|bP λq=>?_) I rfl];show BO q ((_++[_])++([_,_]++((Z 0).R++((Z 1).R++((Z 2).R++((Z 3).R++[]))))))=BO q ([_,_,_]++(_++((Z 0).R++((Z 1).R++((Z 2).R++(Z 3).R)))));simp only[AQ,B4,CJ];rw[amY]
end
def dfE:Ea:=(iL<|bf [28,3] PW.main.body).getD Bs
def dfS:Jj:=(ep dfE).sc
def dfC(p:Cp):BC:=.compStart dfE 0 (.ref<| -p.it) (.ref<| -p.ac) ⟨dfS,-p.L,3,[],S "_law_files.<locals>.",As,.ref 855,Y<| -p.F,0⟩
def nm4:!SV:=sT<|bb.take 4
noncomputable def w4(a i:Nat):Fz:=⟨a,i,[],[],J⟩
def dfK(p:Cp)(ik:Nat):X:={ec:=.am<|dfC p,ai:=450,pre:=[(-p.L,ni "name" As),(-p.it,pw ik 0),(-p.ac,aM []),(-ik,.seq Lt nm4)],ab:=λQ=>.au .next,post:=λy=>[ni "name"<|Y<|.str<|bI 3,.fld (.type "list_iterator") [.none,.int 4],aM<|cL y.n,.seq Lt nm4],af:=λy=>[(w4 (y.n 0)<|y.n 4).R,(w4 (y.n 1)<|y.n 5).R,(w4 (y.n 2)<|y.n 6).R,(w4 (y.n 3)<|y.n 7).R]}
def ase(p:Cp)(ik:Nat)(γ:Bool)(N:Nat):Nt:=match γ with
 |true=>(.f (dg 79 0xe224220220333301112242202203333011122422022033330111224220220333301112242202200) [0,1,2,3] [O,O,O,J] [[.l 5,.l 4],[.l 7,.l 6],[.l 9,.l 8],[.l 11,.l 10]]<|(yA [N+1,N+3,N+5,N+7,N,N+2,N+4,N+6]))
 |false=>(.f (dg 84 0xe22422022033330111224220220333301112242202203333011122422022033330111224220220202220) [0,1,2,3] [O,O,O,J] [[.l 5,.l 4],[.l 7,.l 6],[.l 9,.l 8],[.l 11,.l 10]]<|(yA [N+1,N+3,N+5,N+7,N,N+2,N+4,N+6]))
def asf w p ik:(dfK p ik).Holds w:=X.ap (F:=1500) (nt:=(ase p ik)) lW rfl λγ Q=>match γ with
 |true|false=>pF rfl Z9
noncomputable def X.inBk(K:X):X:={K with ao:=λQ=>[],al:=λQ=>[],af:=λy=>[(K.ao y).zip<|K.al y]}
def ahd{K:X}(H:K.Holds w)(d:∀y,K.af y=[])(i:K.aj=[]):K.inBk.Holds w:=λA c s n=>by
 rw[BK (H A c s ⟨n.ec,n.hd,n.fs,n.ai,n.un,n.St,n.hs,n.nd,n.af,n.ff⟩) λr l g=>?_]
 let(j,fr,y,P):=g;let e:K.inBk.led y++(K.inBk.af y).flatten=K.led y++(K.af y).flatten:=by rw[d,];show((aH K.pre).zip (K.post y)++[])++((K.ao y).zip (K.al y)++[])=((aH K.pre).zip (K.post y)++(K.ao y).zip (K.al y))++[];rw[Az,Az,Az]
 rw[(j,fr,y,P.ab,P.lp,rfl,?_,?_,(λQ h=>nomatch h),λa k=>?_,P.pure)]
 .rw[e,];rw[P.hs]
 .rw[e,];rw[P.nd]
 .let(q,b,rfl):=AM.mp k;let b:q∈(K.ao y).zip (K.al y)++[]:=b;rw[Az]at b;rw[(P.new _ (GO b).1).imp (λz=>?_) id];rw[i]at z;rw[nomatch z]
def enC(l:Nat)(xs:!SV):Ct:=⟨.bi "enumerate.__new__" [.ty "enumerate",rf l] [],As,400,[],2,λy=>.ok<|rf<|y.n 0,λQ=>[],λy=>[pH (y.n 1) 0 .none,w1 l 0],λQ=>False,λh=>bh h (-l)<|.seq Lt xs,λQ Q Q=>True⟩
def enN(l:Nat)(xs:!SV):X:=((enC l xs).kt.wth (-l)<|.seq Lt xs).inBk
theorem alf(w:AW) l xs:(enN l xs).Holds w:=ahd (di (by
  intro A c s ec B E St G nd af r;let(_,rfl):=aS ec;let(i,n,x,I):=cp r;let e:902<=s.heap.objs.size:=St.big;rw[bk (by decide+kernel) F.entry_enumerate_new (meets_enumerate_new (-l) i n) ⟨x,?_⟩];let j:((s.heap.push {cls:=.type "list_iterator",data:=.fields #[.ref<| -l,.int 0 0]}).objs.size)=s.heap.objs.size+1:=Cq ..;let C:=ata e;let k:=Bo e;rw[(⟨λb o g Q=>AU _<|AU _ g,by simp only[Cq];rw[BG _ 2],rfl,rfl,rfl⟩,yA [s.heap.objs.size+1-902,s.heap.objs.size-902],?_,(λQ h=>nomatch h),rfl,λq H=>?_,rfl,λa d=>?_,?_,trivial)]
  .show EE.ok (.ref _)=.ok (.ref<|s.heap.objs.size+1-902+902);rw[j,C]
  .let H:q∈[(s.heap.objs.size+1-902+902,pH (s.heap.objs.size-902) 0 .none),(s.heap.objs.size-902+902,w1 l 0)]:=H;rw[C,k]at H;rcases Ar.mp H with rfl|H
   .rw[(ux s.heap.objs.size (.int 0 0) .none .none,?_,by delta pH rf;rw[k,];rfl)];rw[<-j];rw[BB _ rfl]
   .cases Au.mp H;rw[(_,AU _<|BB _ rfl,rfl)]
  .let d:a∈[s.heap.objs.size+1-902+902,s.heap.objs.size-902+902]:=d;rw[C,k]at d;rcases Ar.mp d with rfl|d
   .rw[CE _]
   .cases Au.mp d;rw[AA _]
  .show[s.heap.objs.size+1-902+902,s.heap.objs.size-902+902].Nodup;rw[C,k]
   rw[AC.mpr ⟨λm=>Nat.succ_ne_self _<|Au.mp m,AC.mpr ⟨BF,AS⟩⟩]) (λQ h=>h) λQ h=>h) (λQ=>rfl) rfl
def lfC(ns:Nat)(xs:!Int):X:={ec:=.call (.ref 856) [rf ns] [],ai:=700,pre:=[(-ns,.seq Lt<|xs.map .int)],ab:=λy=>.ok<|rf<|y.n 4,post:=λy=>[.seq Lt<|xs.map .int],ao:=λy=>[-y.n 4],al:=λy=>[aM<|cL y.n],af:=λy=>[y.r 0,y.r 1,y.r 2,y.r 3],pure:=λy=>∃Z:Nat->Fz,A3 (∀k<4,y.n k=(Z k).fa) (y.r=(λk=>(Z k).R))<|(λk=>(Z k).st)=lh 0 xs λQ=>⟨[],[],J⟩}
def alg(ns:Nat)(xs:!Int)(_:Bool)(N:Nat):Nt:=
 (.u (dg 27 0x807773666660333322222222200) (dfK ⟨N+8,N,N+6,N+7⟩<|N+5) [9,7,8,6] [O,O,O,O] [] λb=>
 (.v (dg 9 0x200aaa22) (enN ns<|xs.map .int) [0] [] λx=>
 (.ob [[],[],[],[0],[],[],[],[0]] (-x.y.n 0) (pH (x.y.n 1) (0:Nat) .none) (.u [] (sC ⟨ns,N+1,N+2,N+3,N+7⟩ N (x.y.n 0) (x.y.n 1) ns As .none xs λk=>w4 (b.y.n k)<|b.y.n<|k+4) [1,2,3,4,8,0] [O,O,O,O,J,J] [[4],[0],[1],[2],[3]] λc=>
 (.g [2] [0,8] [[.b 4],[.b 0],[.b 1],[.b 2]]<|{c.y with n:=λi=>match i with|4=>N+7|i=>c.y.n i})))))
def bz(F:Nat):Env:=⟨bd [35],-F,3,[(S "graph",F+904),(S "files",F+903)],S "law.<locals>.",Y 901,.ref 900,Y<| -F,0⟩
def fj(F:Nat):BC:=iM [35]<|bz F
def acm F:(bz F).scope.kind≠.module:=by show(bd [35]).kind≠.module;decide+kernel
def qW:SO:=.cell tH As
noncomputable def qv:!Int:=[16,17,0,18,19,52,3,125,2,13,34,15,4,6]
def ck(xs:!Int):!Int:=(xs++qv).take 14
noncomputable def cG(xs:!Int):!SV:=xs.map .int
def f0L(L:AL):List<|SV×SV:=[(sS "script",.ref L)]
def sD(L:AL)(ns:Nat):List<|SV×SV:=[(sS "script",.ref L),(sS "numbers",rf ns)]
noncomputable def lO(d:Option AL)(i:Array AF)(n:Nat)(sl:Array<|Option AF):Obj:=⟨.type "list",d,.seq i n,sl⟩
def au6(F:Nat)(L:AL)(o:Obj)(xs:!Int):X:={ec:=.am<|fj F,ai:=890,pre:=[(-F,aI (f0L L) []),(L,.am o)],ab:=λQ=>.au .next,post:=λy=>[aI (sD L<|y.n 0) [],.am o],ao:=λy=>[-y.n 0],al:=λQ=>[.seq Lt<|cG<|ck xs]}
def vw(F:Nat)(L:AL)(ns:Nat)(xs:!Int):X:={ec:=.am<|fj F,ai:=890,pre:=[(-F,aI (sD L ns) []),(F+903,qW),(-ns,.seq Lt<|cG xs)],ab:=λQ=>.au .next,post:=λy=>[aI (sD L ns) [],aJ<|y.n 4,.seq Lt<|cG xs],ao:=λy=>[-y.n 4],al:=λy=>[aM<|cL y.n],af:=λy=>[y.r 0,y.r 1,y.r 2,y.r 3],pure:=(lfC ns xs).pure}
def yk:Ea:=(iL<|bf [35,2] PW.main.body).getD Bs
def gdS:Jj:=(ep yk).sc
noncomputable def pJ(s:Jj):Jj:={s with names:=s.names.map λq=>match q.2 with
 |.free=>(q.1,.cell)
 |k=>(q.1,k)}
def aiT(p:Cp):Env:=⟨pJ gdS,-p.L,3,[(S "files",p.F+903)],S "law.<locals>.",As,.ref 900,Y<| -p.F,0⟩
def vx(p:Cp):BC:=.compLoop yk 0 (.ref<| -p.it) (.ref<| -p.ac)<|aiT p
def au7(p:Cp):BC:=.compStart yk 0 (.ref<| -p.it) (.ref<| -p.ac)<|aiT p
def w5:Cm:=⟨match yk with
 |.DictComp _ v _ _ _=>v
 |_=>Bs,"law.<locals>.",900⟩
def ja(i:List<|It×Nat):!U:=i.flatMap λq=>match q.1.u with
 |true=>[T q.1.w]
 |false=>[]
def w6(c:BC)(p:Cp)(ik j:Nat)(o oe:Option SV)(ys d:!SV)(B:Rd):X:={ec:=.am c,ai:=450,pre:=[(-p.L,ni "item" o),(-p.it,pw ik j),(-p.ac,.seq Lt ys)],aj:=[B],ab:=λQ=>.au .next,post:=λy=>[ni "item" oe,.fld (.type "list_iterator")<|y.l 1,.seq Lt d],af:=λQ=>[B]}
section
variable{w:AW}{p:Cp}
def zQ(p:Cp)(ik j:Nat)(o oe:Option SV)(ys d:!SV)(B:Rd)(ns:!Nat)(bs:!Bool):Nt:=.u ns (w6 (w5.lp p) p ik j o oe ys d B) [0,1,2] bs [[0]] λx=>.g [] [0,1,2] [[.b 0]] x.y
def gcN(p:Cp)(ik j:Nat)(xs:!SV)(x:Nat)(y:It)(B:Rd)(l:List<|!Nat)(nx:Nt):Bool->Nat->Nt:=λQ Q=>.v [0,2,2] ((tg p.it ik j xs<|rf x).inB B) [1] [[0]] λQ=>.ob l (-x) (gS y) nx
def mM{it:Nat}{x:SV}(h:xs[j]?=Y x)(m:(-ik,SO.seq Lt xs)∈B):((tg it ik j xs x).inB B).Holds w:=fg (di (d7 w _ _ _ _ _ _ h) (λQ h=>h) λQ h=>h) m
def acn(h:xs[j]?=As)(m:(-ik,SO.seq Lt xs)∈B):((tP it ik j xs).inB B).Holds w:=fg (di (fL w _ _ _ _ _ h) (λQ h=>h) λQ h=>h) m
theorem sE(m:(-ik,SO.seq Lt (ci i))∈B)(M:∀q∈i,(-q.2,gS q.1)∈B):∀(k:List<|It×Nat)(j:Nat)(o:Option SV)(ys:!U),i.drop j=k->ys.length+k.length<2^20->(w6 (w5.lp p) p ik j o (ib k o) (aG ys) (aG<|ys++ja k) B).Holds w
 |[],j,o,ys,c,_=>by
  let d:(ci i)[j]?=As:=by delta ci;rw[AG,<-Bp j,<-Bb,c];rfl
  rw[show ys++ja []=ys from Az _,];rw[X.ap (F:=900) (nt:=λQ Q=>.v [0,2,2] ((tP p.it ik j<|ci i).inB B) [1] [[0]] λQ=>.g [4] [0,1,2] [[.b 0]] {y0 with l:=λQ=>[.none,.int j]}) (by induction o<;>rw[aF]) rfl λQ Q=>pU rfl (acn d m) λQ Q=>pF rfl Z9]
 |(⟨u,wd,n⟩,x)::k,j,o,ys,c,z=>by
  let H:i[j]?=Y (⟨u,wd,n⟩,x):=by rw[<-Bp j,<-Bb,c];rfl
  let h:(ci i)[j]?=Y (rf x):=by delta ci;rw[AG,H];rfl
  let E:i.drop (j+1)=k:=by rw[<-BU,c];rfl
  let b:(-x,gS ⟨u,wd,n⟩)∈([B]:!Rd).flatten:=Ao _<|M _<|Br H;rw[AI]at z;cases u with
  |false=>rw[X.ap (F:=900) (nt:=(gcN p ik j (ci i) x ⟨O,wd,n⟩ B [[1,1,1],[],[],[],[0]]<|zQ p ik (j+1) (Y<|rf x) (ib (Bc {fst:={u:=O,w:=wd,n:=n},snd:=x} k) o) (aG ys) (aG<|instHAppendOfAppend.hAppend ys<|ja<|Bc {fst:={u:=O,w:=wd,n:=n},snd:=x} k) B [] [O,J,J])) (by induction o<;>rw[aF]) rfl λQ Q=>pU rfl (mM h m) λQ Q=>pO rfl b<|pU rfl (sE m M k (j+1) _ ys E<|nA z) λQ Q=>pF rfl Z9]
  |true=>
   let e:ys++ja ((⟨J,wd,n⟩,x)::k)=(ys++[T wd])++ja k:=by rw[AD,];rfl
   let r:aG (ys++[T wd])=aG ys++[.str<|T wd]:=AE;let I:=sE m M k (j+1) (Y<|rf x) (ys++[T wd]) E (by rw[py,];rw[lF z]);rw[<-e,r]at I;rw[X.ap ((by induction o<;>rw[aF]):aR w (w6 (w5.lp p) p ik j o (ib (Bc {fst:={u:=J,w:=wd,n:=n},snd:=x} k) o) (aG ys) (aG<|instHAppendOfAppend.hAppend ys<|ja<|Bc {fst:={u:=J,w:=wd,n:=n},snd:=x} k) B) 900<|gcN p ik j (ci i) x ⟨J,wd,n⟩ B [[1,1,1],[],[],[],[0],[1],[],[],[],[0]]<|.v [3] (hN As "list.append" [.ref<| -p.ac,.str<|T wd] (-p.ac) (.seq Lt<|aG ys) (.seq Lt<|(aG ys)++[.str<|T wd])<|.ok .none) [2] [] λQ=>zQ p ik (j+1) (Y<|rf x) (ib (Bc {fst:={u:=J,w:=wd,n:=n},snd:=x} k) o) ((aG ys)++[.str<|T wd]) (aG<|instHAppendOfAppend.hAppend ys<|ja<|Bc {fst:={u:=J,w:=wd,n:=n},snd:=x} k) B [] [O,J,J]) rfl λQ Q=>pU rfl (mM h m) λQ Q=>pO rfl b<|pU rfl (aP w _ _ _ (by delta aG;rw[Ap,];rw[lE z])) λQ Q=>pU rfl I λQ Q=>pF rfl Z9]
def alh(hl:i.length<2^20)(m:(-ik,SO.seq Lt (ci i))∈B)(M:∀q∈i,(-q.2,gS q.1)∈B):(w6 (w5.st p) p ik 0 As (ib i As) [] (aG<|ja i) B).Holds w:=X.ap (F:=900) (nt:=λγ Q=>zQ p ik 0 As (ib i As) Ck (aG<|ja i) B (match γ with|true=>[0]|false=>[0,2,2,2,0,2]) [J,J,J]) lW rfl λγ Q=>match γ with
 |true|false=>pU rfl (sE m M i 0 As [] rfl (by rw[BJ,Bh];rw[hl])) λQ Q=>pF rfl Z9
end
def yl:Nat->Option SV
 |0=>As
 |j+1=>Y<|.str<|bI j
noncomputable def nr(Z:Nat->Fz)(k:Nat):Nat:=(Z k).fa
def w7(Z:Nat->Fz)(a:Nat->Nat):Rd:=[(-a 0,.seq Lt<|aG<|ja (Z 0).ak),(-a 1,.seq Lt<|aG<|ja (Z 1).ak),(-a 2,.seq Lt<|aG<|ja (Z 2).ak),(-a 3,.seq Lt<|aG<|ja (Z 3).ak)]
def ym(c:BC)(p:Cp)(fd:Nat)(Z:Nat->Fz)(ep j:Nat)(a:Nat->Nat):X:={ec:=.am c,ai:=470,pre:=[(-p.L,ni "name"<|yl j),(-p.it,cJ kU (rf fd) j 4 ep),(-p.ac,aM<|(cL a).take j),(p.F+903,aJ fd),(-fd,dct (cL<|nr Z) ep)],aj:=[oh Z],ab:=λQ=>.au .next,post:=λy=>[ni "name"<|yl 4,cJ kU .none 4 4 ep,aM<|cL y.n,aJ fd,dct (cL<|nr Z) ep],af:=λy=>[oh Z,y.r 0],pure:=λy=>(∀k<j,y.n k=a k)/\y.r 0=(w7 Z y.n).drop j}
def tT(it d:Nat)(l:DL)(ep i:Nat)(x:SV):X:=(za "dict_keyiterator.__next__" kU (-it) (-d) l ep i x).kt.wth (-d)<|dct l ep
def tU(it d:Nat)(l:DL)(ep:Nat):X:=(zb "dict_keyiterator.__next__" kU (-it) (-d) l ep).kt.wth (-d)<|dct l ep
def diL(d:Nat)(l:DL):X:={ec:=.bi "dict.__iter__" [rf d] [],ai:=400,pre:=[(-d,aM l)],ab:=λy=>.ok<|rf<|y.n 0,post:=λy=>[dct l<|y.n 1],ao:=λy=>[-y.n 0],al:=λy=>[cJ kU (rf d) 0 l.length<|y.n 1]}
def vy(F:Nat)(L:AL)(ns fd:Nat)(Z:Nat->Fz):X:={ec:=.am<|fj F,ai:=890,pre:=[(-F,aI (sD L ns) []),(F+903,aJ fd),(F+904,qW),(-fd,aM<|cL<|nr Z)],aj:=[oh Z],ab:=λQ=>.au .next,post:=λy=>[aI (sD L ns) [],aJ fd,aJ<|y.n 5,dct (cL<|nr Z)<|y.n 4],ao:=λy=>[-y.n 5],al:=λy=>[aM<|cL y.n],af:=λy=>[oh Z,y.r 0],pure:=λy=>y.r 0=w7 Z y.n}
section
variable{fd ep j:Nat}
def mO(h:l[i]?=Y (k,v)):(tT it d l ep i<|.str k).Holds w:=di (ab0 As w (instHAdd.hAdd it 902) (instHAdd.hAdd d 902) l ep i k v h) (λQ h=>h) λQ h=>let⟨o,g,q⟩:=h;⟨o,g,fq.mp q⟩
def mP:(tU it d l ep).Holds w:=di (air<|@aek ⟨As⟩ w (instHAdd.hAdd it 902) (instHAdd.hAdd d 902) l ep) (λQ h=>h) λQ h=>let⟨o,g,q⟩:=h;⟨o,g,fq.mp q⟩
def gdI(p:Cp)(fd:Nat)(Z:Nat->Fz)(ep j:Nat)(a:Nat->Nat)(ns:!Nat)(bs:!Bool)(nx:aQ->Nt):Nt:=.u ns (ym (vx p) p fd Z ep j a) [0,1,2,3,4] bs [[0]] nx
@[elab_as_elim] theorem lt4{motive:Nat->Prop} j (h:j<4)(a:motive 0)(b:motive 1)(c:motive 2)(d:motive 3):motive j:=by
 cases j using BE with
 |zero=>rw[a]
 |succ j=>cases j using BE with
  |zero=>rw[b]
  |succ j=>cases j using BE with
   |zero=>rw[c]
   |succ j=>cases j using BE with
    |zero=>rw[d]
    |succ j=>rw[ZZ h<|Jg<|BI 4 j]
def afA(c:j<4):aR w (ym (vx p) p fd Z ep j a) 1500 λQ N=>
  .v [0,2,2] (tT p.it fd (cL<|nr Z) ep j<|.str<|bI j) [1,4] [] λQ=>
  .v (dg 9 0x555514111) (hM As "dict.__getitem__" [rf fd,.str<|bI j] (-fd) (dct (cL<|nr Z) ep)<|.ok<|rf<|nr Z j) [4] [] λn=>
  .ob [[],[],[],[],[0]] (-nr Z j) (Z j).f1.2 (.ob [[0],[],[]] (-(Z j).ia) (.seq Lt<|ci (Z j).ak)
  (.u [0,6] (w6 (w5.st ⟨n.t 1+2,p.F,n.t 1,n.t 1+1⟩) ⟨n.t 1+2,p.F,n.t 1,n.t 1+1⟩ (Z j).ia 0 As oe [] (aG<|ja (Z j).ak)<|oh Z) [7,5,6] [O,O,O] [[0]] λQ=>
  gdI p fd Z ep (j+1) (upd a j<|n.t 1+1) (match oe with|none=>[8,0,3,3,3,3]|some _=>[8,8,8,0,3,3,3,3]) [O,J,O,J,J] λx=>.g [] [0,1,2,3,4] [[.b 0],[.k 6 (n.t 1+1+902)<|.seq Lt<|aG<|ja (Z j).ak,.b 1]] {x.y with r:=λQ=>(n.t 1+1+902,.seq Lt<|aG<|ja (Z j).ak)::x.y.r 0})):=by
 rw[lt4 j c ?_ ?_ ?_ ?_]<;>induction oe<;>rw[aF]
def yn(a b:AL)(o:Obj)(xs ys:!SV):X:={ec:=.bi "list.__add__" [.ref a,.ref b] [],ai:=400,pre:=[(a,.am o),(b,.seq Lt ys)],ab:=λy=>.ok<|.ref<|nu y 0,post:=λQ=>[.am o,.seq Lt ys],ao:=λy=>[nu y 0],al:=λQ=>[.seq Lt<|xs++ys]}
def ali{a b:AL}{d:Option AL}{i:Array AF}{n:Nat}{sl:Array<|Option AF}{xs ys:!SV}(C:i.toList.map aC=xs)(hl:xs.length+ys.length<=AO):(yn a b (lO d i n sl) xs ys).Holds w:=by
 intro A c k nd;let(_,rfl):=aS nd.ec;let(Q,l,B):=nd.hs _ aE;obtain rfl:Q=lO d i n sl:=B;let(o2,m,r):=nd.hs _ ce;let(L,N,rfl,I):=c0 r;let G:i.size+L.size<=AO:=by rwa [<-Ba,<-Ap (f:=aC),C,<-Ba,<-Ap (f:=aC),I]
 let e0:k.heap.objs.size-902+902=k.heap.objs.size:=Bo nd.St.big;let keep:∀{b:AL}{o:Obj},k.heap.get? b=Y o->(k.heap.push {cls:=Lt,data:=.seq<|i++L}).get? b=Y o:=λe=>AU _ e
 let E:(yn a b (lO d i n sl) xs ys).led (yA [k.heap.objs.size-902])++((yn a b (lO d i n sl) xs ys).af<|yA [k.heap.objs.size-902]).flatten=[(a,SO.am<|lO d i n sl),(b,.seq Lt ys)]++[(k.heap.objs.size,SO.seq Lt<|xs++ys)]:=by show[(a,_),(b,_),(k.heap.objs.size-902+902,_)]++[]=_;rw[e0,];rfl
 rw[bk (by decide+kernel) I9 (list_addW a b i L n N d As sl #[] G) ⟨l,m,⟨λb o e _=>keep e,by rw[Cq,];rw[CE _],rfl,rfl,rfl⟩,⟨(λ_ h=>nomatch h),by rintro b ⟨_,h,_⟩;rw[nomatch h]⟩,yA [k.heap.objs.size-902],Z8 (λa=>EE.ok<|.ref a) e0.symm,rfl,rfl,?_,?_,λb M=>.inr ?_,(λ_ h=>nomatch h),trivial⟩]
 .rw[E,];intro q H;rcases AB.mp H with H|H
  .rcases Ar.mp H with rfl|H
   .rw[(_,keep l,rfl)]
   .cases Au.mp H;rw[(_,keep m,r)]
  .cases Au.mp H;rw[(_,BB _ rfl,?_)];show rd _=_;rw[oC,HC,AE,C,I]
 .rw[E,];rw[Bu.mpr ⟨nd.nd,AC.mpr ⟨BF,AS⟩,λx V y hy e=>?_⟩];cases Au.mp hy;subst e;let(q,H,e):=AM.mp V;let(o,g,_):=nd.hs q H;rw[e]at g;rw[ZZ (AP g)<|Cs _]
 .cases Au.mp (show b∈[k.heap.objs.size-902+902]from M);rw[AY e0.symm]
end
section
variable{fd ep j:Nat}
def afB a (h:j<4):(w7 Z a).drop j=(-a j,.seq Lt (aG<|ja (Z j).ak))::(w7 Z a).drop (j+1):=by
 match j,h with
 |0,_|1,_|2,_|3,_=>rfl
def aco a (h:j<4):(cL a)[j]?=Y (bI j,rf (a j)):=by
 match j,h with
 |0,_|1,_|2,_|3,_=>rfl
def asg(hz:∀k<4,(Z k).ak.length<2^20):∀(m j:Nat)(a:Nat->Nat),j+m=4->(ym (vx p) p fd Z ep j a).Holds w:=by
 cases _ with
 |zero=>intro j a h;obtain rfl:j=4:=h;rw[X.ap (F:=1500) (nt:=λV N=>.v [0,2,2] (tU p.it fd (cL<|nr Z) ep) [1,4] [] λV=>.g [6] [0,1,2,3,4] [[.b 0],[]] {y0 with n:=a}) aF rfl λV V=>pU rfl mP λV V=>pF rfl ⟨λV V=>rfl,rfl⟩]
 |succ m i=>
  intro j a h;let c:=ahV h
  let(d,M,l):=((by
    let e:∀r,r∈(Z j).R->r∈oh Z:=λr m=>by revert m;rw[lt4 j c (λm=>Ao _ m) (λm=>Aq _<|Ao _ m) (λm=>Aq _<|Aq _<|Ao _ m) λm=>Aq _ (Aq _<|Aq _ m)]
    rw[(e _ aE,e _ ce,λq m=>e _<|.tail _<|.tail _ m)]):A3 ((Z j).f1∈oh Z) ((Z j).i1∈oh Z) (∀q∈nj (Z j).ak,q∈oh Z))
  rw[X.ap (afA (oe:=ib (Z j).ak As) c) rfl λV N=>pU rfl (mO<|aco _ c) λV V=>pU rfl (e7<|eZ w _ _ _ _<|mL _ c) λA V=>pO rfl (Ao _ d)<|pO rfl (Ao _ M)<|pU rfl (alh (hz j c) M λq B=>l _<|Av (f:=λq:It×Nat=>(-q.2,gS q.1)) B) λV V=>pU rfl (i (j+1) _<|ahW h) λx H=>pF rfl ⟨λk b=>?_,?_⟩]
  .rw[(H.1 k<|B9 b).trans<|afy _ _<|DA b]
  .let e:=(H.1 j<|B6 _).trans<|kC _ _ _;show(A.t 1+1+902,_)::x.y.r 0=(w7 Z x.y.n).drop j;rw[H.2,afB _ c,<-e]
def alj:(vw F L ns xs).aw (ra 1) w l:=X.av (F:=1500) (nt:=λQ N=>.v [0,1,0] (lfC ns xs) [2] [] λx=>.f [2,2] [0,1,2,3] [J,O,J,J] [[.b 0],[.b 1],[.b 2],[.b 3]] x.y) aF rfl λQ Q=>pU rfl (X.ap (F:=1500) (nt:=(alg ns xs)) aF rfl λQ N=>pU rfl (asf w _ _) λx Q=>pU rfl (alf w _ _) λn Q=>pO rfl (AT vX aE) (pU rfl (asd ⟨λQ k=>⟨rfl,rfl⟩,λk=>⟨Bd _,Bd _⟩⟩) λc h=>pF rfl (by
  let(Z,H,d,m):=h;rw[(Z,λk b=>?_,d,m)]
  let e:∀k<4,(match k with|4=>N+7|i=>c.y.n i)=c.y.n k:=λk b=>by
   rcases k with _|_|_|_|k
   .rfl
   .rfl
   .rfl
   .rfl
   .rw[amZ b]
  rw[(e k b).trans<|ZW H k]))) λQ h=>pF rfl h
end
structure Lw where
 F:Nat
 L:AL
 ns:Nat
 fd:Nat
 gd:Nat
 rw :Nat
 rg:Option Nat
 hl:Nat
 du:Nat
 d:Nat->Nat
def yo(v:Lw):List<|SV×SV:=sD v.L v.ns++[(sS "rounds",rf v.rw),(sS "ring",sr v.rg)]
def gX(v:Lw):List<|SV×SV:=yo v++[(sS "held",rf v.hl),(sS "due",rf v.du)]
def sF(v:Lw):Rd:=[(v.F+903,aJ v.fd),(v.F+904,aJ v.gd)]
def nv(d:Nat->Nat):SO:=.seq Lt [rf<|d 0,rf<|d 1,rf<|d 2,rf<|d 3,rf<|d 4]
def rdW(v:Lw)(γs:!Ge)(ab:Option<|!U)(G:List<|!U)(s0:List<|Option SV):X:=(rdN v.gd γs ab G).wf v.F (sD v.L v.ns) (λQ=>sD v.L v.ns) s0
def vz(v:Lw)(γs:!Ge)(ab:Option<|!U)(G:List<|!U):X:={ec:=.am<|fj v.F,ai:=890,pre:=(-v.F,aI (sD v.L v.ns) [])::sF v,aj:=[[(-v.gd,aM<|lx γs)],ml γs],ab:=λQ=>.au .next,post:=λy=>[aI (yo {v with rw :=y.n 1,rg:=jE ab<|y.n 2}) y.u.x.sl,aJ v.fd,aJ v.gd],af:=λy=>[[(-v.gd,aM<|lx γs)],ml γs,y.r 0],pure:=(vj 0 v.gd γs ab G).pure}
def vD(v:Lw)(s0:List<|Option SV):X:={ec:=.am<|fj v.F,ai:=890,pre:=(-v.F,aI (yo v) s0)::sF v,ab:=λQ=>.au .next,post:=λy=>[aI (gX {v with hl:=y.n 6,du:=y.n 5}) y.u.x.sl,aJ v.fd,aJ v.gd],ao:=λy=>[-y.n 0,-y.n 1,-y.n 2,-y.n 3,-y.n 4,-y.n 5,-y.n 6],al:=λy=>[.seq Lt [],.seq Lt [],.seq Lt [],.seq Lt [],.seq Lt [],nv y.n,.seq Lt []]}
section
def alk(H:∀e∈γs,e.ps.length<=2)(hl:γs.length<=10)(L:vk (c7 (cF γs) []) ab G)(c:∀q,ab=Y q->q≠[]/\q.length<1000)(d:G.length<9):(vz v γs ab G).aw (ra 3) w<|Y l:=X.av (F:=1500) (nt:=λQ Q=>.use [0,3,0] (rdW v γs ab G []) (Y [bz v.F]) [0] [J] [[0],[1]] [] λb=>.ob [[],[],[],[],[0,4,4,4,0,4,4],[4,4,4,4,0,4,4],[4,4,4,4,0,4,4]] (-b.y.n 0) (.seq Tt [rf<|b.y.n 1,sr<|jE ab<|b.y.n 2])<|.f [4,4,6,1,1,1,1] [0,1,2] [O,J,J] [[.b 0],[.b 1],[.b 2]] {b.y with u:={b.y.u with x:={b.y.u.x with sl:=nU b (-v.F) 2 b.y.u.x.sl}}}) (by induction ab<;>rw[aF]) rfl λQ Q=>⟨trivial,iJ (K:=rdN v.gd γs ab G) (λQ Q=>⟨rfl,rfl,rfl,rfl,rfl,id⟩) rfl (acm v.F)<|X.aB (F:=1500) (nt:=λQ N=>.use [0,0,1,1] (vj N v.gd γs ab G) (Y []) [0] [O] [[0],[1]] [] λx=>.g [] [] [[.b 0],[.b 1],[.b 2]] x.y) aF rfl λQ Q=>⟨trivial,ar0 H hl L c d,λQ h=>pF rfl h⟩,λb h=>pO rfl (by
 let(ts,_,e):=h;rw[AT iW ?_];rw[e,]
 rw[aE]) (pF rfl h)⟩
end
def zS:Ea:=mf [35,5]
def aiU(p:Cp):Env:=⟨pJ<|scC zS,-p.L,3,[(S "graph",p.F+904)],S "law.<locals>.",As,.ref 900,Y<| -p.F,0⟩
def pK(k:Nat)(p:Cp):BC:=.compLoop zS k (.ref<| -p.it) (.ref<| -p.ac)<|aiU p
def ash(k:Nat)(p:Cp):BC:=.compStart zS k (.ref<| -p.it) (.ref<| -p.ac)<|aiU p
def yp(n:Option SV)(u:Option U):SO:=.ns tA<|zj "name" n++zj "used" (u.map .str)
noncomputable def lj:!U->Option U->Option U
 |[],o=>o
 |s::l,_=>lj l<|Y s
def yq(c:BC)(p:Cp)(nm:U)(ik j:Nat)(u b:Option U)(ys d:!U)(B:Rd):X:={ec:=.am c,ai:=450,pre:=[(-p.L,yp (Y<|.str nm) u),(-p.it,pw ik j),(-p.ac,.seq Lt<|aG ys)],aj:=[B],ab:=λQ=>.au .next,post:=λy=>[yp (Y<|.str nm) b,.fld (.type "list_iterator")<|y.l 1,.seq Lt<|aG d],af:=λQ=>[B]}
def jj(W:Nat->!U)(a:Nat->Nat):Rd:=[(-a 0,.seq Lt<|aG<|W 0),(-a 1,.seq Lt<|aG<|W 1),(-a 2,.seq Lt<|aG<|W 2),(-a 3,.seq Lt<|aG<|W 3)]
noncomputable def qX(W:Nat->!U):Nat->Nat->!U
 |0,_=>[]
 |m+1,j=>W j++qX W m (j+1)
noncomputable def w9(W:Nat->!U):Nat->Nat->Option U->Option U
 |0,_,u=>u
 |m+1,j,u=>w9 W m (j+1)<|lj (W j) u
def xa(c:BC)(p:Cp)(fd gd:Nat)(b a:Nat->Nat)(W:Nat->!U)(ep j:Nat)(u d:Option U)(ys e:!U):X:={ec:=.am c,ai:=470,pre:=[(-p.L,yp (yl j) u),(-p.it,cJ kU (rf fd) j 4 ep),(-p.ac,.seq Lt<|aG ys),(p.F+904,aJ gd),(-fd,dct (cL b) ep),(-gd,aM<|cL a)],aj:=[jj W a],ab:=λQ=>.au .next,post:=λy=>[yp (yl 4) d,cJ kU .none 4 4 ep,.seq Lt<|aG e,aJ gd,dct (cL b) ep,aM<|cL a],af:=λQ=>[jj W a]}
def diX(d:Nat)(l:DL)(ep:Nat):Ct:={xA (-d) l with al:=λQ=>[cJ kU (rf d) 0 l.length ep],Pre:=λh=>∃o,h.get? (-d)=Y o/\DP l ep o,Post:=λQ Q Q=>True}
def zT(d:Nat)(l:DL)(ep:Nat):X:=(diX d l ep).kt.wth (-d)<|dct l ep
def afC{w:AW}{d:Nat}{l:DL}{ep:Nat}:(zT d l ep).Holds w:=di (C:=diX d l ep) (λA c s ec i H St b nd af j=>BK (aip w (-d) l (by simp) A c s ec i H St b nd af (by
  let(o,g,q):=j
  rw[(o,g,q.so)])) λr m ⟨k,y,P⟩=>by
 let(o,g,q):=j;let(I,G,Q):=P.ext;clear ec i H b nd af;cases g.symm.trans G;let e:y.n 1=ep:=by clear g G;let(es,rfl,_):=q;let(E,e,_):=Q;cases e;rfl
 rw[(k,y,P.ab,P.post,P.lp,?_,rfl,P.fresh,P.nd,trivial)];rw[<-e]
 rw[P.al]) (λx h=>h) λx h=>let⟨o,g,q⟩:=h;⟨o,g,fq.mp q⟩
section
def uiI(p:Cp)(nm:U)(ik j:Nat)(u b:Option U)(ys d:!U)(B:Rd)(ns:!Nat)(bs:!Bool):Nt:=.u ns (yq (pK 1 p) p nm ik j u b ys d B) [0,1,2] bs [[0]] λx=>.g [] [0,1,2] [[.b 0]] x.y
def ahe:aG (ys++[s])=aG ys++[.str s]:=AE
def jb(h:ys.length<2^20):(hN As "list.append" [.ref<| -a,.str s] (-a) (.seq Lt<|aG ys) (.seq Lt<|aG<|ys++[s])<|.ok .none).Holds w:=by rw[ahe,];rw[aP w _ _ _ (by delta aG;rw[Ap,];rw[h])]
def asi(m:(-ik,SO.seq Lt (aG ws))∈B):∀(k:!U)(j:Nat)(u:Option U)(ys:!U),ws.drop j=k->ys.length+k.length<2^20->(yq (pK 1 p) p nm ik j u (lj k u) ys (ys++k) B).Holds w:=by
 cases _ with
 |nil=>
  intro j u ys c _;let h:(aG ws)[j]?=As:=by delta aG;rw[AG,<-Bp j,<-Bb,c];rfl
  rw[Az,];rw[X.ap (F:=900) (nt:=λx x=>.v [0,2,2] ((tP p.it ik j<|aG ws).inB B) [1] [[0]] λx=>.g [4] [0,1,2] [[.b 0]] {y0 with l:=λx=>[.none,.int j]}) aF rfl λx x=>pU rfl (acn h m) λx x=>pF rfl Z9]
 |cons s k i=>
  intro j u ys c z;let H:(aG ws)[j]?=Y (.str s):=by delta aG;rw[AG,<-Bp j,<-Bb,c];rfl
  rw[AI]at z;let i:(yq (pK 1 p) p nm ik (j+1) (Y s) (lj k<|Y s) (ys++[s]) (ys++[s]++k) B).Holds w:=i (j+1) _ (ys++[s]) (by rw[<-BU,c];rfl) (by rw[py,];rw[lF z]);rw[AD]at i;rw[X.ap (F:=900) (nt:=λx x=>.v [0,2,2] ((tg p.it ik j (aG ws)<|.str s).inB B) [1] [[0]] λx=>.v [1,1,1,3] (hN As "list.append" [.ref<| -p.ac,.str s] (-p.ac) (.seq Lt<|aG ys) (.seq Lt<|aG<|ys++[s])<|.ok .none) [2] [] λx=>uiI p nm ik (j+1) (Y s) (lj (Bc s k) u) (ys++[s]) (instHAppendOfAppend.hAppend ys<|Bc s k) B [] [O,J,J]) (by induction u<;>rw[aF]) rfl λx x=>pU rfl (mM H m) λx x=>pU rfl (jb<|lE z) λx x=>pU rfl i λx x=>pF rfl Z9]
end
section
variable{fd gd ep j:Nat}
noncomputable def zU:!Nat:=[0,1,2,3,4,5]
noncomputable def zV:!Bool:=[J,J,J,J,J,J]
def uoI(p:Cp)(fd gd:Nat)(b a:Nat->Nat)(W:Nat->!U)(ep j:Nat)(u c:Option U)(ys d:!U)(ns:!Nat):Nt:=.use ns (xa (pK 0 p) p fd gd b a W ep j u c ys d) As zU zV [[0]] [] λx=>.f [] zU zV [[.b 0]] x.y
def afD(c:j<4)(d:j=0->u=As):aR w (xa (pK 0 p) p fd gd b a W ep j u e ys h) 1500 λQ N=>
  .v [0,2,2] (tT p.it fd (cL b) ep j<|.str<|bI j) [1,4] [] λQ=>
  .v (dg 8 0x66661411) (hM As "dict.__getitem__" [rf gd,.str<|bI j] (-gd) (aM<|cL a)<|.ok<|rf<|a j) [5] [] λn=>
  .ob [[],[],[]] (-a j) (.seq Lt<|aG<|W j)
  (.u [0,7] (yq (ash 1 ⟨p.L,p.F,n.t 1,p.ac⟩) ⟨p.L,p.F,n.t 1,p.ac⟩ (bI j) (a j) 0 u (lj (W j) u) ys (ys++W j)<|jj W a) [0,6,2] [O,O,J] [[0]] λQ=>
  uoI p fd gd b a W ep (j+1) (lj (W j) u) e (ys++W j) h []):=by
 revert d;rw[lt4 j c (λd=>?_) (λQ=>?_) (λQ=>?_) λQ=>?_]
 .cases d rfl;rw[aF]
 all_goals induction u<;>rw[aF]
def jK(h:j<4):(-a j,SO.seq Lt (aG<|W j))∈jj W a:=by
 match j,h with
 |0,_=>rw[aE]
 |1,_=>rw[ce]
 |2,_=>rw[iW]
 |3,_=>rw[q9]
def asj:∀(m j:Nat)(u:Option U)(ys:!U),j+m=4->(j=0->u=As)->ys.length+(qX W m j).length<2^20->(xa (pK 0 p) p fd gd b a W ep j u (w9 W m j u) ys<|ys++qX W m j).Holds w:=by
 cases _ with
 |zero=>intro j u ys h _ _;obtain rfl:j=4:=h;rw[show ys++qX W 0 4=ys from Az _,];rw[X.ap (F:=1500) (nt:=λx x=>.v [0,2,2] (tU p.it fd (cL b) ep) [1,4] [] λx=>.f [7] zU zV [[.b 0]] y0) aF rfl λx x=>pU rfl mP λx x=>pF rfl Z9]
 |succ m i=>
  intro j u ys h d z;let c:j<4:=ahV h;let E:ys.length+(W j++qX W m (j+1)).length<2^20:=z;rw[Ay]at E;let i:(xa (pK 0 p) p fd gd b a W ep (j+1) (lj (W j) u) (w9 W m (j+1)<|lj (W j) u) (ys++W j)<|ys++W j++qX W m (j+1)).Holds w:=i (j+1) _ _ (ahW h) (λe=>nomatch e) (by rw[Ay,];rw[anu E]);rw[AD]at i
  rw[X.ap (afD c d) rfl λx x=>pU rfl (mO<|aco _ c) λx x=>pU rfl (bp<|eZ w _ _ _ _<|mL _ c) λn x=>pO rfl (Ao _<|jK c) (pU rfl (X.ap (F:=900) (nt:=λγ x=>uiI {L:=p.L,F:=p.F,it:=n.t 1,ac:=p.ac} (bI j) (a j) 0 u (lj (W j) u) ys (instHAppendOfAppend.hAppend ys<|W j) (jj W a) (match γ with|true=>[0]|false=>[0,2,2,2,0,2]) [J,J,J]) lW rfl λγ x=>match γ with
    |true|false=>pU rfl (asi (jK c) (W j) 0 u ys rfl<|anv E) λx x=>pF rfl Z9) λx x=>pU rfl i λx x=>pF rfl Z9)]
end
noncomputable def sG(s:U):SV->Bool
 |.str t=>t==s
 |_=>O
def vE(a:Nat)(xs:!SV)(s:U)(b:Bool)(B:!Rd):X:={ec:=.bi "list.__contains__" [rf a,.str s] [],ai:=400,un:=8000,pre:=[(-a,.seq Lt xs)],aj:=B,ab:=λQ=>.ok<|.bool b,post:=λQ=>[.seq Lt xs],af:=λQ=>B}
def sH(h:∀x∈xs,(∃t,x=.str t)\/dK λp ys=>x=rf p/\(-p,SO.seq Tt ys)∈B.flatten)(j:xs.any (sG s)=b):(vE a xs s b B).Holds w:=by
 intro A c I n;let(u,rfl):=aS n.ec;let(i1,N,H,C):=cp<|n.hs _<|Ao _ aE;rw[bk (by decide+kernel) EW (G2 (-a) i1 N As #[] (.str s<|u 1) λy=>sG s<|aC y) ⟨H,λy d=>?_,?_⟩]
 .let m:aC y∈xs:=by rw[<-C];rw[Av (by simpa using d)]
  rcases h _ m with⟨t,e⟩|⟨p,ys,e,k⟩
  .clear d m;let(l,rfl):=bA e;rw[Iz _ _ _ _]
  .clear d m;let(l,rfl):=bA e;let(i,r,_):=mE<|n.hs _<|Aq _ k;rw[KN s (u 1) r (by let e:IW=9900:=rfl;rw[anw<|n.un.resolve_left (by show¬((8000:Nat)=0);decide)])]
 .let E:(vE a xs s b B).led y0++((vE a xs s b B).af y0).flatten=[(-a,SO.seq Lt xs)]++B.flatten:=rfl;rw[(Kp.refl,⟨(λQ h=>nomatch h),by rintro b ⟨_,h,_⟩;rw[nomatch h]⟩,y0,?_,rfl,rfl,?_,?_,(λQ h=>nomatch h),λa G=>.inl<|.inr G,trivial)]
  .rw[<-j,<-C,GL,<-Gm];rfl
  .rw[E,];rw[n.hs]
  .rw[E,];rw[n.nd]
def zW:Bool->!U
 |true=>[bI 4]
 |false=>[]
def tV(v:Lw)(s0:List<|Option SV)(c a:Nat->Nat)(W:Nat->!U)(ep:Nat)(b:Bool):X:={ec:=.am<|fj v.F,ai:=890,un:=700,pre:=[(-v.F,aI (gX v) s0)]++sF v++[(-v.fd,dct (cL c) ep),(-v.gd,aM<|cL a),(-v.du,nv v.d),(-v.d 0,.seq Lt [])],aj:=[jj W a],ab:=λQ=>.au .next,post:=λQ=>[aI (gX v) s0,aJ v.fd,aJ v.gd,dct (cL c) ep,aM<|cL a,nv v.d,.seq Lt<|aG<|zW b],af:=λQ=>[jj W a]}
section
variable{ep:Nat}
noncomputable def ix7:!Nat:=[0,1,2,3,4,5,6]
noncomputable def tr7:!Bool:=[J,J,J,J,J,J,J]
noncomputable def p5(v:Lw)(x:aQ):Cp:=⟨x.t 1+1,v.F,x.y.n 0,x.t 1⟩
def afE:dW (ra 5) w (tV v s0 c a W ep b) 1500 λQ Q=>.v [2,4,4,4] (zT v.fd (cL c) ep) [3] [] λx=>.u [8] (xa (ash 0<|p5 v x) (p5 v x) v.fd v.gd c a W ep 0 As u [] ws) [9,7,8,2,3,4] [O,J,O,J,J,J] [[0]] λQ=>.v (match u with|none=>[10,10,10,10,9,9,9]|some _=>[10,10,10,10,10,10,9,9,9]) (vE (x.t 1) (aG ws) (bI 4) b []) [8] [] λQ=>match b with
  |false=>.f [] ix7 tr7 [[.b 0]] y0
  |true=>.v [1,6,6,6,6,0,6,7,7,7,7,7] (hN As "list.append" [rf<|v.d 0,.str<|bI 4] (-v.d 0) (.seq Lt<|aG []) (.seq Lt<|aG<|[]++[bI 4])<|.ok .none) [6] [] λQ=>.f [] ix7 tr7 [[.b 0]] y0:=by
 induction u<;>induction b<;>rw[aF]
def alm(z:(qX W 4 0).length<2^20)(h:aZ (qX W 4 0) (bI 4)=b):(tV v s0 d a W ep b).aw (ra 5) w l:=by
 let H:∀c:aQ,(vE (c.t 1) (aG<|qX W 4 0) (bI 4) b []).Holds w:=λc=>sH (λx m=>.inl (by
  let(t,_,e):=AM.mp m
  rw[(t,e.symm)])) (by
  rw[<-h];delta aG aZ;rw[GL,]
  rfl)
 rw[X.av (afE (u:=w9 W 4 0 As) (ws:=qX W 4 0)) rfl λQ Q=>pU rfl afC λc Q=>pU rfl (X.ap (F:=1500) (nt:=λγ Q=>uoI (p5 v c) v.fd v.gd d a W ep 0 As (w9 W 4 0 As) Ck (qX W 4 0) (match γ with|true=>[0]|false=>[0,2,2,2,0,2])) lW rfl λγ Q=>match γ with
   |true|false=>pU rfl (asj 4 0 As [] rfl (λQ=>rfl) (by rw[BJ,Bh];rw[z])) λQ Q=>pF rfl Z9) λQ Q=>pU rfl (H c) λQ Q=>?_]
 clear h H;cases b with
 |false=>rw[pF rfl Z9]
 |true=>rw[pU rfl (jb (by decide)) λQ Q=>pF rfl Z9]
end
noncomputable def mQ:!Int->Int->Int
 |[],b=>b
 |x::r,b=>mQ r (match decide (x>b)with
  |true=>x
  |false=>b)
noncomputable def inO:Option Int->!SV
 |none=>[]
 |some b=>[.int b,.int b]
def yr(it S l j:Nat)(xs:!Int)(b:Option Int)(e:Int):X:={ec:=.bi "max.loop" [rf it,.none,rf S] [],ai:=420,pre:=[(-it,pw l j),(-S,.seq Lt<|inO b),(-l,.seq Lt<|cG xs)],ab:=λQ=>.ok<|.int e,post:=λy=>[.fld (.type "list_iterator")<|y.l 0,.seq Lt<|y.l 1,.seq Lt<|cG xs]}
def mxK(l:Nat)(xs:!Int)(e:Int):X:={ec:=.bi "max" [rf l] [],ai:=430,pre:=[(-l,.seq Lt<|cG xs)],ab:=λQ=>.ok<|.int e,post:=λQ=>[.seq Lt<|cG xs]}
section
variable{it S l j:Nat}
def zX(it S l j:Nat)(xs:!Int)(b:Option Int)(e:Int)(ns:!Nat)(k:Bool)(qs:!Prop):Nt:=.use ns (yr it S l j xs b e) As [0,1,2] [J,k,J] [] qs λx=>.g [] [0,1,2] [] x.y
def zY(it l j:Nat)(xs:!Int)(x:Int)(nx:Nt):Bool->Nat->Nt:=λQ Q=>.v [0,2,1,1] (sy l (cG xs)<|tg it l j (cG xs)<|.int x) [0,2] [] λQ=>nx
def afF:aR w (yr it S l j xs As e) 900<|zY it l j xs x<|zX it S l (j+1) xs (Y x) e [2,2,2] O []:=aF
def afG(h:xs[j]?=Y x):(cG xs)[j]?=Y (.int x):=by delta cG;rw[AG,h];rfl
def asl:∀(k:!Int)(j:Nat)(b:Int),xs.drop j=k->(yr it S l j xs (Y b)<|mQ k b).Holds w:=by
 cases _ with
 |nil=>
  intro j b c;let d:(cG xs)[j]?=As:=by delta cG;rw[AG,<-Bp j,<-Bb,c];rfl
  rw[X.ap (F:=900) (nt:=λV V=>.v [0,2,1,1] (sy l (cG xs)<|tP it l j<|cG xs) [0,2] [] λV=>.f [4,2,2,2] [0,1,2] [J,O,J] [] {y0 with l:=λi=>match i with|0=>[.none,.int j]|_=>[]}) aF rfl λV V=>pU rfl (dh (fL w _ _ _ _ _ d) (λV h=>h) λV h=>h) λV V=>pF rfl Z9]
 |cons x k I=>
  intro j b c;let E:xs.drop (j+1)=k:=by rw[<-BU,c];rfl
  let ln:=dh (d7 w (-it) (-l) Lt (cG xs) j _<|afG (by rw[<-Bp j,<-Bb,c];rfl)) (λV h=>h) λV h=>h
  unfold mQ;cases H:decide (x>b)with
  |true=>rw[X.ap (F:=900) (nt:=(zY it l j xs x<|zX it S l (j+1) xs (Y x) (mQ k x) [12,1,2,2,2] O [decide (x>b)=J])) aF rfl λV V=>pU rfl ln λV V=>pV rfl ⟨H,trivial⟩ (I (j+1) x E) λV V=>pF rfl Z9]
  |false=>rw[X.ap (F:=900) (nt:=(zY it l j xs x<|zX it S l (j+1) xs (Y b) (mQ k b) [12,0] J [decide (x>b)=O])) aF rfl λV V=>pU rfl ln λV V=>pV rfl ⟨H,trivial⟩ (I (j+1) b E) λV V=>pF rfl Z9]
def asm:(mxK l (x::xs)<|mQ xs x).Holds w:=X.ap (F:=900) (nt:=λQ N=>.u [0,1,1,1,0,2] (yr N (N+1) l 0 (Bc x xs) As<|mQ xs x) [1,2,0] [O,O,J] [] λx=>.g [] [0] [] y0) aF rfl λQ Q=>pU rfl (X.ap (afF (x:=x)) rfl λQ Q=>pU rfl (dh (d7 w _ _ _ _ _ _<|afG (xs:=x::xs) (j:=0) rfl) (λQ h=>h) λQ h=>h) λQ Q=>pU rfl (asl xs 1 x rfl) λQ Q=>pF rfl Z9) λQ Q=>pF rfl Z9
end
def rcE:Ea:=(vc 9<|e0 (ep<|e0 (ep<|e0 (ep<|(iL<|bf [35,6,2,1] PW.main.body).getD Bs).q).e).q).getD Bs
def yu:Cm:=⟨rcE,"law.<locals>.",900⟩
noncomputable def bR:!bu->!Int
 |[]=>[]
 |.ask _ _ n::R=>(n.length:Int)::bR R
 |_::R=>bR R
def yv(c:BC)(p:Cp)(ik j:Nat)(xs:!SV)(o oe:Option SV)(ys d:!Int)(B:Rd):X:={ec:=.am c,ai:=450,pre:=[(-p.L,ni "row" o),(-p.it,pw ik j),(-p.ac,.seq Lt<|cG ys),(-ik,.seq Lt xs)],aj:=[B],ab:=λQ=>.au .next,post:=λy=>[ni "row" oe,.fld (.type "list_iterator")<|y.l 1,.seq Lt<|cG d,.seq Lt xs],af:=λQ=>[B]}
section
variable{R:!bu}
def zZ(p:Cp)(ik j:Nat)(xs:!SV)(o oe:Option SV)(ys d:!Int)(B:Rd)(ns:!Nat)(bs:!Bool):Nt:=.u ns (yv (yu.lp p) p ik j xs o oe ys d B) [0,1,2,3] bs [[0]] λx=>.g [] [0,1,2,3] [[.b 0]] x.y
def rcN(p:Cp)(ik j:Nat)(xs:!SV)(x:Nat)(so:SO)(l:List<|!Nat)(nx:Nt):Bool->Nat->Nt:=λQ Q=>.v [0,2,2] (sy ik xs<|tg p.it ik j xs<|rf x) [1,3] [] λQ=>.ob l (-x) so nx
def z0(q:Nat)(n:!U)(B:Rd):X:=(ug "len" [rf q] (-q) (.seq Lt<|n.map .str)<|.ok<|.int n.length).kt.inB B
def afH(h:n.length<2^63)(m:(-q,SO.seq Lt (n.map .str))∈B):(z0 q n B).Holds w:=by let z:=iH w (-q) (n.map .str) (by rw[Ap,];rw[h]);rw[Ap]at z;rw[fg (di z (λQ h=>h) λQ h=>h) m]
noncomputable def kF:!SV->Option SV->Option SV
 |[],o=>o
 |x::l,_=>kF l<|Y x
def asn(e:∀a l n,bu.ask a l n∈R->n.length<100):∀(R':!bu)(k:!SV)(j:Nat)(o:Option SV)(ys:!Int),xs.drop j=k->aV B k R'->(∀r∈R',r∈R/\r≠.opn)->ys.length+R'.length<2^20->(yv (yu.lp p) p ik j xs o (kF k o) ys (ys++bR R') B).Holds w:=by
 cases _ with
 |nil=>
  cases _ using A8 with
  |nil=>
   intro j o ys d _ _ _;let e:xs[j]?=As:=by rw[<-Bp j,<-Bb,d];rfl
   rw[show ys++bR []=ys from Az _,];rw[X.ap (F:=900) (nt:=λV V=>.v [0,2,2] (sy ik xs<|tP p.it ik j xs) [1,3] [] λV=>.g [5] [0,1,2,3] [[.b 0]] {y0 with l:=λV=>[.none,.int j]}) (by induction o<;>rw[aF]) rfl λV V=>pU rfl (dh (fL w _ _ _ _ _ e) (λV h=>h) λV h=>h) λV V=>pF rfl Z9]
  |cons _ _=>intro _ _ _ _ h _ _;cases h
 |cons r R' i=>
  cases _ using A8 with
  |nil=>intro _ _ _ _ h _ _;cases h
  |cons v k=>
   intro j o ys d I A z;let(H,b):=I;let E:xs.drop (j+1)=k:=by rw[<-BU,d];rfl
   let ln:=dh (d7 w (-p.it) (-ik) Lt xs j _ (by rw[<-Bp j,<-Bb,d];rfl)) (λV h=>h) λV h=>h
   rw[AI]at z;let c:=λr m=>A r<|.tail _ m
   cases r with
   |opn=>rw[ZZ rfl (A _ aE).2]
   |tok x l=>let(_,a,rfl,M):=H;rw[X.ap (F:=900) (nt:=(rcN p ik j xs a (.seq Tt [x,.str l]) [[1,1,0,0,1,0],[],[0]]<|zZ p ik (j+1) xs (Y<|rf a) (kF (Bc (rf a) k) o) ys (instHAppendOfAppend.hAppend ys<|bR<|Bc (bu.tok x l) R') B [0] [O,J,J,J])) (by induction o<;>rw[aF]) rfl λV V=>pU rfl ln λV V=>pO rfl (Ao _ M)<|pU rfl (i k (j+1) _ ys E b c<|nA z) λV V=>pF rfl Z9]
   |ask a l n=>
    let(x,q,rfl,M,L):=H;let i:=i k (j+1) (Y<|rf x) (ys++[(n.length:Int)]) E b c (by rw[py,];rw[lF z]);rw[AD]at i;let N:cG (ys++[(n.length:Int)])=cG ys++[.int n.length]:=AE
    rw[X.ap (F:=900) (nt:=(rcN p ik j xs x (.seq Tt [.str a,.str l,rf q]) [[1,1,0,0,1,0],[],[0],[0,0,0,1],[],[],[],[0]]<|.v [] (z0 q n B) [] [[0]] λV=>.v [3] (hN As "list.append" [.ref<| -p.ac,.int n.length] (-p.ac) (.seq Lt<|cG ys) (.seq Lt<|cG<|ys++[(n.length:Int)])<|.ok .none) [2] [] λV=>zZ p ik (j+1) xs (Y<|rf x) (kF (Bc (rf x) k) o) (ys++[(n.length:Int)]) (instHAppendOfAppend.hAppend ys<|bR<|Bc (bu.ask a l n) R') B [] [O,J,J,J])) (by induction o<;>rw[aF]) rfl λV V=>pU rfl ln λV V=>pO rfl (Ao _ M) (pU rfl (afH (Dj (e a l n (A _ aE).1) (by decide)) L) λV V=>pU rfl (by
     rw[N,]
     rw[aP w _ _ _ (by delta cG;rw[Ap,];rw[lE z])]) λV V=>pU rfl i λV V=>pF rfl Z9)]
def aln(c:∀a l n,bu.ask a l n∈R->n.length<100)(h:aV B xs R)(i:bu.opn∉R)(z:R.length<2^20):(yv (yu.st p) p ik 0 xs As (kF xs As) [] (bR R) B).Holds w:=X.ap (F:=900) (nt:=λγ Q=>zZ p ik 0 xs As (kF xs As) Ck (bR R) B (match γ with|true=>[0]|false=>[0,2,2,2,0,2]) [J,J,J,J]) lW rfl λγ Q=>match γ with
 |true|false=>pU rfl (asn c R xs 0 As [] rfl h (λr m=>⟨m,λe=>i (e▸m)⟩) (by rw[BJ,Bh];rw[z])) λQ Q=>pF rfl Z9
end
def cW(F it:Nat):BC:=hU [35,6] (.ref<| -it)<|bz F
def gY(d:Nat->Nat)(D:Nat->!U):Rd:=[(-d 0,.seq Lt<|aG<|D 0),(-d 1,.seq Lt<|aG<|D 1),(-d 2,.seq Lt<|aG<|D 2),(-d 3,.seq Lt<|aG<|D 3),(-d 4,.seq Lt<|aG<|D 4)]
def xb:Option (Cd×U×Nat)->!(SV×SV)
 |none=>[]
 |some t=>[(sS "name",.str t.2.1),(sS "rows",rf t.2.2)]
def xe(nm:U):Option (Cd×U×Nat)->!(SV×SV)
 |none=>[(sS "name",.str nm)]
 |some t=>[(sS "name",.str nm),(sS "rows",rf t.2.2)]
noncomputable def uy:Option (Cd×U×Nat)->Option Cd
 |none=>As
 |some t=>Y t.1
def oj(fs:!Fi):DL:=nh<|fs.map (·.f)
def uz(fs:!Fi):Nat:=flE<|fs.map (·.f)
def tbQ(y:aW):Option (Cd×U×Nat)->!SO
 |none=>[cv<|Y y.cd]
 |some t=>[cv<|Y t.1,lg t.1]
def vF(v:Lw)(fs:!Fi)(it j:Nat)(o:Option<|Cd×U×Nat)(s0:List<|Option SV)(H:!U)(D:Nat->!U)(h:!U)(d:Nat->!U):X:={ec:=.am<|cW v.F it,ai:=870,un:=1400,fr:=[bz v.F],pre:=[(-v.F,aI (gX v++xb o) s0),(-it,cJ kU (rf v.fd) j (oj fs).length<|uz fs),(v.F+903,aJ v.fd),(-v.fd,iw fs)]++tbR (uy o)++[(-v.hl,.seq Lt<|aG H),(-v.du,nv v.d)],aj:=[fh fs,gY v.d D],ab:=λQ=>.au .next,post:=λy=>[aI (gX v++xb (Y (y.cd,y.s 0,y.n 5))) y.u.x.sl,cJ kU .none (oj fs).length (oj fs).length<|uz fs,aJ v.fd,iw fs]++tbQ y o++[.seq Lt<|aG h,nv v.d],af:=λQ=>[fh fs,gY v.d d]}
def jk(fd:Nat)(fs:!Fi)(nm:U)(R:!bu)(c:Option Cd):X:={tM fd (fs.map (·.f)) nm R c with aj:=[fh fs],af:=λy=>[fh fs,y.r 0]}
def au8(v:Lw)(fs:!Fi)(nm:U)(R:!bu)(o:Option<|Cd×U×Nat)(sl:List<|Option SV):X:=(jk v.fd fs nm R<|uy o).wf v.F (gX v++xe nm o) (λQ=>gX v++xe nm o) sl
def aso(d:Nat->Nat)(D:Nat->!U)(k:Nat)(nm:U):X:={ec:=.bi "list.append" [rf<|d k,.str nm] [],ai:=400,aj:=[gY d D],ab:=λQ=>.ok .none,af:=λQ=>[gY d<|upd D k<|D k++[nm]]}
def om(nm:U)(r:Nat):List<|SV×SV:=[(sS "name",.str nm),(sS "rows",rf r)]
def lqN(v:Lw)(fs:!Fi)(it j:Nat)(o:Option<|Cd×U×Nat)(s0:List<|Option SV)(nm:U):X:={ec:=.am<|cW v.F it,ai:=860,fr:=[bz v.F],pre:=[(-v.F,aI (gX v++xb o) s0),(-it,cJ kU (rf v.fd) j (oj fs).length<|uz fs),(-v.fd,iw fs)],ab:=λQ=>.au .next,post:=λy=>[aI (gX v++xe nm o) y.u.x.sl,cJ kU (rf v.fd) (j+1) (oj fs).length<|uz fs,iw fs]}
def z5(v:Lw)(fs:!Fi)(it:Nat)(o:Option<|Cd×U×Nat)(s0:List<|Option SV)(nm:U)(R:!bu):X:={ec:=.am<|cW v.F it,ai:=860,fr:=[bz v.F],pre:=(-v.F,aI (gX v++xe nm o) s0)::(v.F+903,aJ v.fd)::(jk v.fd fs nm R<|uy o).pre,aj:=[fh fs],ab:=λQ=>.au .next,post:=λy=>aI (gX v++om nm (y.n 0)) y.u.x.sl::aJ v.fd::(jk v.fd fs nm R<|uy o).post y,ao:=(jk v.fd fs nm R<|uy o).ao,al:=(jk v.fd fs nm R<|uy o).al,af:=λy=>[fh fs,y.r 0],pure:=(jk v.fd fs nm R<|uy o).pure}
def lqL(v:Lw)(it:Nat)(s0:List<|Option SV)(nm:U)(r:Nat):X:={ec:=.am<|cW v.F it,ai:=860,fr:=[bz v.F],pre:=[(-v.F,aI (gX v++om nm r) s0)],ab:=λQ=>.ok<|rf r,post:=λQ=>[aI (gX v++om nm r) s0]}
def lqR(v:Lw)(fs:!Fi)(it:Nat)(s0:List<|Option SV)(f:Fl)(r:Nat)(R:!bu):X:={ye v.fd fs f R with ec:=.am<|cW v.F it,ai:=860,fr:=[bz v.F],pre:=[(-v.F,aI (gX v++om f.nm r) s0),(v.F+903,aJ v.fd),(-v.fd,iw fs)],post:=λQ=>[aI (gX v++om f.nm r) s0,aJ v.fd,iw fs]}
def lqS(v:Lw)(it:Nat)(s0:List<|Option SV)(nm:U)(r:Nat)(xs:!SV)(B:Rd)(H h:!U)(D d:Nat->!U):X:={ec:=.am<|cW v.F it,ai:=860,un:=1400,fr:=[bz v.F],pre:=[(-v.F,aI (gX v++om nm r) s0),(-r,.seq Lt xs),(-v.hl,.seq Lt<|aG H),(-v.du,nv v.d)],aj:=[B,gY v.d D],ab:=λQ=>.au .next,post:=λQ=>[aI (gX v++om nm r) s0,.seq Lt xs,.seq Lt<|aG h,nv v.d],af:=λQ=>[B,gY v.d d]}
section
def ahf:dW (wk 0) w (z5 v fs it o s0 nm R) 900 λQ Q=>.use [0,2,1,0] (au8 v fs nm R o s0) (Y [bz v.F]) (match o with|none=>[0,2,3]|some _=>[0,2,3,4]) (match o with|none=>[J,J,J]|some _=>[J,J,J,J]) [[0]] [] λb=>.f [1,1] [0,1,2,3,4,5] [O,J,J,J,J,J] [[.b 0],[.b 1]] {b.y with u:={b.y.u with x:={b.y.u.x with sl:=nU b (-v.F) (gX v++xe nm o).length b.y.u.x.sl}}}:=by let(_,_,_,_,_,_,C,_,_,_):=v;induction C<;>rcases o with _|⟨c,nm,r⟩<;>rw[aF]
noncomputable def pQ8(v:Lw)(x:aQ):Cp:=⟨x.t 1+3,v.F,x.t 1+1,x.t 1+2⟩
end
def xf(fs:!Fi):Rd:=fs.flatMap λF=>F.rd.tail
theorem kH:∀fs:!Fi,(kW (fs.map (·.f))++xf fs).Perm (fh fs)
 |[]=>.refl _
 |F::fs=>by
  rw[bP λq=>?_]
  let z:=(kH fs).count_eq q;show BO q (((-F.f.a,F.f.so)::kW (fs.map (·.f)))++(F.rd.tail++xf fs))=BO q (((-F.f.a,F.f.so)::F.rd.tail)++fh fs);rw[AQ]at z;simp only[AQ,B4];rw[anx z]
section
def ahg(h:(tM fd (fs.map (·.f)) nm R c).aq w []<|Y l):(jk fd fs nm R c).aq w []<|Y l:=by
 rw[X.perm (xf fs) h rfl rfl (AA _) (.inr rfl) (bP λq=>?_) λy a b c=>⟨y,rfl,b,c,bP λq=>?_,a⟩]
 .let z:=(kH fs).count_eq q;show BO q (((jk fd fs nm R _).pre++(kW (fs.map (·.f))++[]))++xf fs)=BO q ((jk fd fs nm R _).pre++(fh fs++[]));rw[AQ]at z;simp only[AQ,CJ];rw[anz z]
 .let z:=(kH fs).count_eq q;show BO q ((jk fd fs nm R _).led y++(fh fs++(y.r 0++[])))=BO q (((jk fd fs nm R _).led y++(kW (fs.map (·.f))++(y.r 0++[])))++xf fs);rw[AQ]at z;simp only[AQ,CJ];rw[anA z]
@[elab_as_elim] theorem lt5{motive:Nat->Prop} j (h:j<5)(a:motive 0)(b:motive 1)(c:motive 2)(d:motive 3)(e:motive 4):motive j:=by
 cases j with
 |zero=>rw[a]
 |succ j=>rw[lt4 (motive:=λj=>motive<|j+1) j (Nat.lt_of_succ_lt_succ h) b c d e]
def ahh(b:k<5)(h:(D k).length<2^20):(aso d D k nm).Holds w:=by revert h;rw[lt5 k b (λh=>gR (R0:=[]) (L:=[]) (R1:=(gY d D).drop 1)<|jb (s:=nm) h) (λh=>gR (R0:=(gY d D).take 1) (L:=[]) (R1:=(gY d D).drop 2)<|jb (s:=nm) h) (λh=>gR (R0:=(gY d D).take 2) (L:=[]) (R1:=(gY d D).drop 3)<|jb (s:=nm) h) (λh=>gR (R0:=(gY d D).take 3) (L:=[]) (R1:=(gY d D).drop 4)<|jb (s:=nm) h) λh=>gR (R0:=(gY d D).take 4) (L:=[]) (R1:=[])<|jb (s:=nm) h]
def asp{D:Rd}(ae:!mc):(∀q∈ae.flatMap dE,q∈D)->(∀x m,bu.tok x m∈ae.map (·.1)->pA x)->aV D (ae.map cV) (ae.map (·.1)):=by
 cases ae with
 |nil=>rw[λQ Q=>Z9]
 |cons w ae i=>
  intro h l;let(r,p,q):=w;let H:=λz m=>h z<|Ao _ m
  rw[(?_,i (λz m=>h z<|Aq _ m) λx m b=>l x m<|.tail _ b)];cases r with
  |opn=>rfl
  |tok x m=>rw[(l x m aE,p,rfl,H _ aE)]
  |ask a m n=>rw[(p,q,rfl,H _ aE,H _ ce)]
def asq{D L:Rd}(c:∀q∈L,q∈D)(ae:!mc):(∀q∈ae.flatMap mz,q∈D)->(∀r∈ae,qq L r)->(∀x m,bu.tok x m∈ae.map (·.1)->pA x)->aV D (ae.map cV) (ae.map (·.1)):=by
 cases ae with
 |nil=>rw[λQ Q Q=>Z9]
 |cons w ae i=>
  intro h b l;let(r,p,q):=w;let H:=λz m=>h z<|Ao _ m
  rw[(?_,i (λz m=>h z<|Aq _ m) (λr m=>b r<|.tail _ m) λx m d=>l x m<|.tail _ d)];cases r with
  |opn=>rfl
  |tok x m=>rw[(l x m aE,p,rfl,H _ aE)]
  |ask a m n=>rw[(p,q,rfl,H _ aE,c _<|b _ aE)]
def aV.mem{D:Rd}{xs:!SV}{R:!bu}(h:aV D xs R){x:SV}(m:x∈xs):∃r∈R,i7 D x r:=by let(j,e):=List.mem_iff_getElem?.mp m;let(r,a,b):=h.at j x e;rw[(r,Br a,b)]
def i7.cs{D:Rd}{x:SV}{r:bu}(h:i7 D x r):(r=.opn/\∃t,x=.str t)\/dK λp ys=>x=rf p/\(-p,SO.seq Tt ys)∈D:=by
 cases r with
 |opn=>rw[.inl ⟨rfl,_,h⟩]
 |tok=>let(_,p,e,h):=h;rw[.inr ⟨p,_,e,h⟩]
 |ask=>let(p,_,e,h,_):=h;rw[.inr ⟨p,_,e,h⟩]
def aV.item{D:Rd}{xs:!SV}{R:!bu}(h:aV D xs R)(x:SV)(m:x∈xs):(∃t,x=.str t)\/dK λp ys=>x=rf p/\(-p,SO.seq Tt ys)∈D:=by let(_,_,h):=h.mem m;rw[h.cs.imp And.right id]
noncomputable def dN:!bu->Bool
 |[]=>O
 |.opn::_=>J
 |_::R=>dN R
theorem aV.opn{D:Rd}{xs:!SV}{R:!bu}(h:aV D xs R):xs.any (sG<|S "open")=dN R:=
 h.ind rfl λv vs r rs a i=>by
  cases r with
  |opn=>cases a;rfl
  |tok y m=>let(_,p,rfl,h):=a;rw[i]
  |ask y m n=>let(p,q,rfl,h,_):=a;rw[i]
def abk{R:!bu}(h:dN R=O):bu.opn∉R:=by
 cases R with
 |nil=>rw[nofun]
 |cons r R i=>
  cases r with
  |opn=>rw[nomatch h]
  |_=>rw[λm=>(Ar.mp m).elim (λe=>nomatch e)<|i h]
end
section
variable{r k:Nat}
def asr(h:(oj fs)[j]?=Y (nm,u)):(lqN v fs it j o s0 nm).aw y8 w<|Y l:=X.av (F:=900) (nt:=λQ Q=>.cx λc=>.v [2,2] (tT it v.fd (oj fs) (uz fs) j<|.str nm) [1,2] [] λQ=>.f [1,1] [0,1,2] [O,J,J] [] {y0 with u:={y0.u with x:={sl:=nU c (-v.F) (gX v++xb o).length s0}}}) (by
 let(_,_,_,_,_,_,C,_,_,_):=v
 induction C<;>rcases o with _|⟨c,nm,r⟩<;>rw[aF]) rfl λQ Q=>pX rfl λQ=>pU rfl (mO h) λQ Q=>pF rfl Z9
theorem ie:∀R:!bu,(bR R).length<=R.length
 |[]=>AA _
 |.opn::R=>Bz<|ie R
 |.tok ..::R=>Bz<|ie R
 |.ask ..::R=>BY<|ie R
def afI xs:∀(o:Option SV),xs≠[]->∃x∈xs,kF xs o=Y x:=by
 cases xs with
 |nil=>rw[λQ h=>ZZ rfl h]
 |cons x xs i=>
  intro o _;cases xs using A8 with
  |nil=>rw[(x,aE,rfl)]
  |cons y xs=>let(z,m,e):=i (Y x) (λh=>nomatch h);rw[(z,.tail _ m,e)]
def alo{d:Nat->Nat}(b:k<5):[rf<|d 0,rf (d 1),rf (d 2),rf (d 3),rf (d 4)][k]?=Y (rf<|d k):=by rw[lt5 k b rfl rfl rfl rfl rfl]
def alp(b:k<5):(-d k,SO.seq Lt (aG<|D k))∈gY d D:=by
 match k,b with
 |0,_=>rw[aE]
 |1,_=>rw[ce]
 |2,_=>rw[iW]
 |3,_=>rw[q9]
 |4,_=>rw[vX]
def alq(c:aV B xs R)(i:dN R=O)(j:xs≠[])(A:∀a l n,bu.ask a l n∈R->n.length<100)(z:R.length<2^20)(d:k<5)(C:mQ (bR R) 0=(k:Int))(E:(D k).length<2^20):(lqS v it s0 nm r xs B H H D<|upd D k<|D k++[nm]).aw (wk 2) w<|Y l:=by
 let(q,G):=((by
   let(x,m,e):=afI xs As j;let(r,M,h):=c.mem m;rcases h.cs with⟨z,_⟩|⟨p,_,h,_⟩
   .rw[ZZ (z▸M) (abk i)]
   .rw[(p,by rw[e,h])]):∃q,kF xs As=Y (rf q))
 let L:=ie R
 rw[X.av (F:=1500) (nt:=λQ Q=>.v [1,2,2,2] (vE r xs (S "open") O [B]) [1] [[0]] λb=>
    .u [1,0,0,1,2,2,2,0,6] (yv (yu.st<|pQ8 v b) (pQ8 v b) r 0 xs As (Y<|rf q) [] (bR R) B) [7,5,6,1] [O,O,O,J] [[0]] λQ=>
    .u [8,8,8,5,7,5,5] (zh As (-b.t 1) (b.t 1+2+902) [.int 0]<|cG<|bR R).kt [4,6] [O,J] [] λI=>
    .v [] (mxK (I.y.n 0) (0::bR R) k.cast) [8] [] λQ=>
    .v [4,4,4,4] (hM As "list.__getitem__" [rf v.du,.int k.cast] (-v.du) (nv v.d)<|.ok<|rf<|v.d k) [3] [] λQ=>
    .ob [[],[],[],[],[1]] (-v.d k) (.seq Lt<|aG<|D k) (.v [] (aso v.d D k nm) [] [[1]] λQ=>.g [] [0,1,2,3] [[.b 0],[.b 1]] y0)) aF rfl λQ Q=>pU rfl (sH (λx m=>(c.item x m).imp id λ⟨p,N,e,h⟩=>⟨p,N,e,Ao _ h⟩)<|c.opn.trans i) λb Q=>pU rfl ((λb=>G▸aln A c (abk i) z) b) λQ Q=>pU rfl (dX (r5 As w _ _ _ _ (by
  show 1+((bR R).map _).length<=2^24;rw[Ap,]
  rw[am0 z L])) (λQ h=>h) λQ=>Z9) λQ Q=>pU rfl (C▸asm) λQ Q=>pU rfl (bp<|oQ w _ _ _ _ (BH k) (am1 d)<|alo d) λQ Q=>pO rfl (AT ce<|alp d)<|pU rfl (ahh d E) λQ Q=>pF rfl Z9]
end
def ass:Gc:=(bf [35,6] PW.main.body).getD Bs
def au9:Ea:=e0 (sp ass).e
def mR(i:Nat):Gc:=(bf [35,6,i] PW.main.body).getD Bs
def sI(right:Bool):Ea:=match right with
 |true=>e0 (ep<|e0 (sp<|mR 1).e).e
 |false=>e0 (ep<|e0 (sp<|mR 1).e).q
def ava:Pos:=match mR 1 with
 |.If (.Compare _ _ _ p) _ _ _=>p
 |_=>Bs
def avb:!Gc:=match mR 1 with
 |.If _ b _ _=>b
 |_=>[]
def avc:Pos:=match mR 1 with
 |.If _ _ _ p=>p
 |_=>Bs
def avd:Gc:=.If (.Compare (sI O) [.NotEq] [sI J] ava) avb [] avc
def ig F it:cW F it=.forLoop au9 (.ref<| -it) [mR 0,avd,mR 2] [] (bz F):=by kernel_rfl
def ast F it:(cW F it).cUnits=0:=by kernel_rfl
def avJ F it:wk 2 (cW F it)=BD (bm [mR 2]<|bz F) λfl=>Bw (.done fl):=by rw[ig,];rfl
def ave F it:tC O 1 (cW F it)=gM (sI O) (bz F):=by rw[ig,];rfl
def avf F it:tC J 1 (cW F it)=gM (sI J) (bz F):=by rw[ig,];rfl
def ahi(H:HS s.heap D)(G:bh s.heap a<|.seq Lt xs)(i:bh s.heap b<|.seq Lt ys)(d:aV D xs ae)(r2:aV D ys ae)(h:A.units<=8000):Kh A s (.ref a) (.ref b) O:=by
 let(i1,k,C):=d0 G;let(L,l,I):=d0 i;let e:IW=9900:=rfl;let m:i1.size=L.size:=by rw[<-Ba,<-Ba,<-Ap (f:=aC) (as:=i1.toList),<-Ap (f:=aC) (as:=L.toList),C,I,d.len,r2.len]
 let z:=K3 (A:=A) (s:=s) (e:=λ_=>J) k l m (am2 h) λj Q n=>by let(x,t,w,B,_):=ut C Q;let(y,u,E,M,_):=ut I n;let(r,N,V):=d.at j x w;let(r',c,ry):=r2.at j y E;rw[N]at c;cases c;rw[B,M];rw[ak9 H H (by rw[amI h]) V ry t u]
 rw[fW]at z;rw[z]
section
def lwT(o:Option<|Cd×U×Nat)(y:aW):Cd:=match o with
 |none=>y.cd
 |some t=>t.1
def cm(F:Fl):bu:=.tok .none<|aO F.nm<|1+(cZ (T F.tx) (S "\n"):Int)
def z6(v:Lw)(H:!U):Rd:=[(-v.hl,.seq Lt<|aG H),(-v.du,nv v.d)]
def sJ(v:Lw)(fs:!Fi)(it j:Nat):Rd:=[(-it,cJ kU (rf v.fd) j (oj fs).length<|uz fs)]
def yw(c:Cd):Rd:=[(879,cv<|Y c),(-c.K,lg c)]
def asu{α:Type}{f i c d:α}{t h F G:!α}:((([f,i,c,d]++t)++h)++(F++(G++[]))).Perm<|([f,i,d]++[])++(c::(t++(h++(F++G)))):=Tr.pmE [[f],[i],[c],[d],t,h,F,G] 0x12801c060100128c020000148100398a400c0200000
def asv{α:Type}{f i c d:α}{t h F G:!α}:((([f,i,d]++[])++[])++(c::(t++(h++(F++G))))).Perm<|((f::c::d::t)++(F++[]))++([i]++(h++G)):=Tr.pmE [[f],[i],[d],[c],t,h,F,G] 0x49c0300500310050080002500380c02802120c0200000
variable{w:AW}{v:Lw}{fs:!Fi}{it j:Nat}{o:Option (Cd×U×Nat)}{s0:!(Option SV)}{H H' He:!U}{D D' De:Nat->!U}{nm:U}{R:!bu}{l:!Env}{u:SV}{F:Fi}
def asw{α:Type}{f c d x:α}{F B C I h G:!α}:(([f,c,d]++(F++(x::(B++C))))++(I++(h++G))).Perm<|([f,c,d]++(F++[]))++([x]++(B++(C++(I++(h++G))))):=Tr.pmE [[f],[c],[d],[x],F,B,C,I,h,G] 0x5a8090200701401300830080002d4048107014060106010000
def asx{α:Type}{f c d:α}{F Q:!α}:(([f,c,d]++(F++[]))++Q).Perm<|([f]++[])++(c::d::(F++Q)):=Tr.pmE [[f],[c],[d],F,Q] 0xc50100300440018250106010000
def asy{α:Type}{f c d:α}{F Q:!α}:((([f]++[])++[])++(c::d::(F++Q))).Perm<|([f,c,d]++(F++[]))++Q:=Tr.pmE [[f],[c],[d],F,Q] 0x304a020c0200006280801802110000
def asz{α:Type}{f c d n x h e:α}{F B C I G E b r:!α}:((([f,c,d]++[n])++(F++(b++(r++(E++[])))))++([x]++(B++(C++(I++([h,e]++G)))))).Perm<|([f,x,h,e]++(B++(G++[])))++([c,d]++(F++(C++(I++([n]++(b++(r++E))))))):=Tr.pmE [[f],[c],[d],[n],[x],[h],[e],F,b,r,E,B,C,I,G] 0x18b0280503c0e0240418001801a041c060080004107001e0701a03002c02c0a0240520c0200000
def asA{α:Type}{f c d i b k2 x h e:α}{F B G Jq9:!α}:((([f,x,h,e]++[])++(B++(G++[])))++([c,d]++(F++([b,k2]++([i]++Jq9))))).Perm<|((([f,i,c,d]++[b,k2])++[h,e])++(F++(G++[])))++([x]++(B++Jq9)):=Tr.pmE [[f],[x],[h],[e],[c],[d],[b],[k2],[i],B,G,F,Jq9] 0x72c0300580680a4025003980a008000000e50128001a0398000b00b004a400c0200000
def adl{B D:Rd}(h:∀q∈B,q∈D){xs:!SV}{R:!bu}(k:aV B xs R):aV D xs R:=
 k.ind Z9 λv vs r rs a i=>by
  rw[(?_,i)];cases r with
  |opn=>rw[a]
  |tok y m=>let(z,p,e,q):=a;rw[(z,p,e,h _ q)]
  |ask y m n=>let(p,q,e,Q,b):=a;rw[(p,q,e,h _ Q,h _ b)]
def asB{α:Type}{a b c d k k2 e h:α}{F G Jq9:!α}:(([a,b,c,d,k,k2,e,h]++(F++(G++[])))++Jq9).Perm<|([a,b,c,d,k,e,h]++(F++(G++[])))++(k2::Jq9):=Tr.pmE [[a],[b],[c],[d],[k],[k2],[e],[h],F,G,Jq9] 0x18700560501280180501003008000302b02809400e0300a02006010000
structure afJ(w:AW)(v:Lw)(fs:!Fi)(l:!Env)(F:Fi)(R0:!bu):Prop where
 rd:∀c,(tM v.fd (fs.map (·.f)) F.f.nm (R0++[cm F.f,cm F.f]) c).aq w []<|Y<|bz v.F::l
 du:(ye v.fd fs F.f R0).Holds w
 leaf:∀x m,bu.tok x m∈R0->pA x
theorem ahj(h:∀x m,bu.tok x m∈R0->pA x):∀x m,bu.tok x m∈R0++[cm F.f,cm F.f]->pA x:=λx m i=>by
 rcases AB.mp i with i|i
 .rw[h x m i]
 .rcases Ar.mp i with e|i
  .clear h i;cases e;rw[.inl rfl]
  .clear h;cases Au.mp i;rw[.inl rfl]
def lqM(v:Lw)(fs:!Fi)(it j:Nat)(H:!U)(D:Nat->!U)(nm:U)(c:Cd)(r:Nat)(xs:!SV)(B:Rd)(sl:List<|Option SV):Rd:=([(-v.F,aI (gX v++om nm r) sl),(v.F+903,aJ v.fd),(-v.fd,iw fs)]++(fh fs++[]))++([(-r,SO.seq Lt xs)]++(B++(yw c++(sJ v fs it (j+1)++(z6 v H++gY v.d D)))))
theorem acp{R0:!bu}(hF:(oj fs)[j]?=Y (F.f.nm,u))(ok:afJ w v fs l F R0)
  (hS:∀s0 r xs B,aV B xs (R0++[cm F.f,cm F.f])->(lqS v it s0 F.f.nm r xs B H H' D D').aw (wk 2) w (Y l))
  (ih:∀t s1,(vF v fs it (j+1) (Y t) s1 H' D' He De).aq w [bz v.F]<|Y l):(vF v fs it j o s0 H D He De).aq w [bz v.F]<|Y l:=by
 refine_lift let K:=vF v fs it j o s0 H D He De;?_;show K.aq w [bz v.F]<|Y l;rw[X.am (d:=cW v.F it) rfl λA s nd=>?_]
 let I:A.depth+870<jc:=nd.ai;let un:A.units<=1400:=nd.un.resolve_left (by show¬((1400:Nat)=0);decide)
 rw[aec (ig v.F it) (by kernel_rfl)
  (R1:=λs1=>∃k,aK K (Y l) s s1<|((z5 v fs it o k F.f.nm<|R0++[cm F.f,cm F.f]).pre++(z5 v fs it o k F.f.nm<|R0++[cm F.f,cm F.f]).aj.flatten)++(sJ v fs it (j+1)++(z6 v H++gY v.d D)))
  (R2:=λN=>lG λc r k Jq9=>(∀E,o=Y E->c=E.1)/\aK K (Y l) s N (((vF v fs it (j+1) (Y (c,F.f.nm,r)) k H' D' He De).pre++(vF v fs it (j+1) (Y (c,F.f.nm,r)) k H' D' He De).aj.flatten)++Jq9))
  ?_ (?_) (?_)]
 .rw[aK.go (asr (w:=w) (v:=v) (fs:=fs) (it:=it) (o:=o) (s0:=s0) (l:=l) hF) nd ((aK.of nd).perm asu) rfl nd.hd nd.fs (by rw[nD I]) (.inl rfl) λr C y er _ M=>?_]
  rw[(ch er,y.u.x.sl,M.perm asv)]
 .rintro s1 ⟨k,M1⟩;rw[cD (R1:=λN=>uH λc r xs B k=>A3 (∀E,o=Y E->c=E.1) (aV B xs<|R0++[cm F.f,cm F.f])<|aK K (Y l) s N<|lqM v fs it j H D F.f.nm c r xs B k) ?_ ?_]
  .rw[<-((by rw[ig,];rfl):wk 0 (cW v.F it)=BD (bm [mR 0]<|bz v.F) λfl=>Bw<|.done fl)];rw[aK.go (X.av ahf rfl λ_ _=>⟨trivial,iJ (K:=jk v.fd fs F.f.nm (instHAppendOfAppend.hAppend R0<|Bc (cm F.f)<|Bc (cm F.f) Ck)<|uy o) (λ_ _=>⟨rfl,rfl,rfl,rfl,rfl,id⟩) rfl (acm v.F)<|ahg<|ok.rd _,λ_ hx=>pF rfl hx⟩) nd M1 rfl nd.hd nd.fs (by rw[nD I]) (.inl rfl) λr C y er pu M=>?_]
   obtain⟨e1,e2,e3⟩:A3 (y.l 0=y.u.g.ae.map cV) (y.r 0=y.u.g.ae.flatMap dE) (y.u.g.ae.map (·.1)=R0++[cm F.f,cm F.f]):=pu
   rw[(ch er,lwT o y,y.n 0,y.l 0,y.r 0,y.u.x.sl,(λE e=>by rw[e,];rfl),?_,(M.perm ((bP λq=>by
     clear er;cases o with
     |none=>show BO q (([(-v.F,aI (gX v++om F.f.nm (y.n 0)) y.u.x.sl),(v.F+903,aJ v.fd),(-v.fd,iw fs),(879,cv<|Y y.cd)]++[(-y.n 0,SO.seq Lt<|y.l 0),(-y.cd.K,lg y.cd)])++(fh fs++(y.r 0++[])))=BO q ([(-v.F,aI (gX v++om F.f.nm (y.n 0)) y.u.x.sl),(v.F+903,aJ v.fd),(-v.fd,iw fs)]++(fh fs++((-y.n 0,SO.seq Lt<|y.l 0)::(y.r 0++[(879,cv<|Y y.cd),(-y.cd.K,lg y.cd)]))));simp only[AQ,B4,CJ];rw[am3]
     |some t=>
      show BO q (([(-v.F,aI (gX v++om F.f.nm (y.n 0)) y.u.x.sl),(v.F+903,aJ v.fd),(-v.fd,iw fs),(879,cv<|Y t.1),(-t.1.K,lg t.1)]++[(-y.n 0,SO.seq Lt<|y.l 0)])++(fh fs++(y.r 0++[])))=BO q ([(-v.F,aI (gX v++om F.f.nm (y.n 0)) y.u.x.sl),(v.F+903,aJ v.fd),(-v.fd,iw fs)]++(fh fs++((-y.n 0,SO.seq Lt<|y.l 0)::(y.r 0++[(879,cv<|Y t.1),(-t.1.K,lg t.1)]))));simp only[AQ,B4,CJ]
      rw[am4]).append_right _)).perm asw)]
   rw[e1,<-e3];rw[asp _ (λq m=>e2▸m) λx m hm=>ahj ok.leaf x m (e3▸hm)]
  .rintro N ⟨c,r,xs,B,h,Q,hr,G⟩
   rw[aaZ (R1:=λV=>∃Jq9,aK K (Y l) s V<|(([(-v.F,aI (gX v++om F.f.nm r) h),(-r,SO.seq Lt xs),(-v.hl,.seq Lt<|aG H),(-v.du,nv v.d)]++(B++(gY v.d D++[])))++([(v.F+903,aJ v.fd),(-v.fd,iw fs)]++(fh fs++(yw c++(sJ v fs it (j+1)++Jq9))))))
    (ac2 (by
      let e:Gk .NotEq (sI J)=O:=by kernel_rfl
      delta CI
      rw[e,])
     (R1:=λa C=>a=.ref (-r)/\aK K (Y l) s C (lqM v fs it j H D F.f.nm c r xs B h))
     (R2:=λa b C=>a=.ref (-r)/\∃y:aW,A3 (b=.ref (-y.n 0)) (duP F.f R0 y)<|aK K (Y l) s C<|([(-v.F,aI (gX v++om F.f.nm r) h),(v.F+903,aJ v.fd),(-v.fd,iw fs)]++[(-y.n 0,SO.seq Lt<|y.l 0)])++(fh fs++(y.r 0++(y.r 1++([(-y.n 1,nZ F.f),jh (y.n 2) [F.f.nm]]++[]))))++([(-r,SO.seq Lt xs)]++(B++(yw c++(sJ v fs it (j+1)++(z6 v H++gY v.d D))))))
     (R3:=λV=>∃Jq9,aK K (Y l) s V<|(([(-v.F,aI (gX v++om F.f.nm r) h),(-r,SO.seq Lt xs),(-v.hl,.seq Lt<|aG H),(-v.du,nv v.d)]++(B++(gY v.d D++[])))++([(v.F+903,aJ v.fd),(-v.fd,iw fs)]++(fh fs++(yw c++(sJ v fs it (j+1)++Jq9))))))
     ?_ ?_ ?_ ?_) ?_]
   .rw[c5 ?_];let M3:=G.perm asx;rw[aK.go (X.av (F:=900) (nt:=λ_ _=>.g [1] [0] [] y0) aF rfl λ_ _=>pF rfl Z9:(lqL v it h F.f.nm r).aw (tC O 1) w<|Y l) nd M3 rfl nd.hd nd.fs (by rw[nD I]) (.inl rfl) λr' C y er _ M=>?_]
    let er:a0 r'=.ok (rf r):=er;clear G Q;let(t,rfl):=iK er;rw[(_,rfl,rfl,M.perm asy)]
   .clear G Q;rintro a C ⟨rfl,M3⟩;rw[c5 ?_];rw[aK.go (X.av (F:=900) (nt:=λ_ _=>.v [0,2,1,0] (ye v.fd fs F.f R0) [2] [[0]] λx0=>.g [] [0,1,2,3] [[.b 0],[.b 1],[.b 2],[.b 3]] x0.y) aF rfl λ_ _=>pU rfl ok.du λ_ hx=>pF rfl hx:(lqR v fs it h F.f r R0).aw (tC J 1) w<|Y l) nd M3 rfl nd.hd nd.fs (by rw[nD I]) (.inl rfl) λr' s'' y er pu M=>?_]
    let er:a0 r'=.ok (rf<|y.n 0):=er;let(t,rfl):=iK er;rw[(_,rfl,rfl,y,rfl,pu,M)]
   .clear G Q;rintro a b C ⟨rfl,y,rfl,⟨e1,e2,e3,e4⟩,M4⟩;rw[(ahi (xs:=xs) (ys:=y.l 0) (ae:=R0++[cm F.f,cm F.f]) (D:=B++(y.r 0++(y.r 1++[(-y.n 1,nZ F.f),jh (y.n 2) [F.f.nm]]))) (λq m=>M4.hs q ?_) (M4.hs (-r,SO.seq Lt xs) ?_) (M4.hs (-y.n 0,SO.seq Lt<|y.l 0) ?_) (adl (λq m=>Ao _ m) hr) ?_ ?_,_,M4.perm asz)]
    .rcases AB.mp m with m|m
     .rw[Aq _<|Aq _<|Ao _ m]
     .rw[Ao _<|Aq _<|Aq _ ?_];rcases AB.mp m with m|m
      .rw[Ao _ m]
      .rw[Aq _ ?_];rcases AB.mp m with m|m
       .rw[Ao _ m]
       .rw[Aq _<|Ao _ m]
    .rw[Aq _ aE]
    .rw[Ao _<|Ao _<|Aq _ aE]
    .rw[e1,<-e3];let me:∀q∈[(-y.n 1,nZ F.f),jh (y.n 2) [F.f.nm]],q∈B++(y.r 0++(y.r 1++[(-y.n 1,nZ F.f),jh (y.n 2) [F.f.nm]])):=λq m=>Aq _<|Aq _<|Aq _ m
     rw[(asq (L:=jh (y.n 2) [F.f.nm]::y.r 1) (λq m=>?_) _ (λq m=>?_) e4 λx m hm=>ok.leaf x m (e3▸hm)).app ?_]
     .rcases Ar.mp m with rfl|m
      .rw[me _ ce]
      .rw[Aq _<|Aq _<|Ao _ m]
     .rw[<-e2]at m;rw[Aq _<|Ao _ m]
     .rw[(⟨.inl rfl,_,rfl,me _ aE⟩,⟨.inl rfl,_,rfl,me _ aE⟩,trivial)]
    .rw[am5 un]
   .rw[λV r3=>AH<|Aw ⟨rfl,r3⟩]
   .rintro V ⟨Jq9,M5⟩;rw[aed ?_];rw[aK.go (hS h r xs B hr) nd M5 rfl nd.hd nd.fs (by rw[nD I]) (.inr un) λr' C y er _ M=>?_]
    rw[(ch er,c,r,h,_,Q,M.perm asA)]
 .rintro N ⟨c,r,k,Jq9,Q,G⟩;rw[BK ((ih (c,F.f.nm,r) k) A _ N<|aK.need nd G rfl nd.hd nd.fs (by rw[I])<|.inr un) λr' V g=>?_]
  let(y,er,pu,lp,ln,M):=aK.run nd G g;clear G g ln lp pu;cases o with
  |none=>rw[aK.fin nd M (y:={y with n:=λi=>(match i with|1=>c.K|2=>c.k1|3=>c.k2|4=>c.k3|i=>y.n i),z:=λ_=>c.z}) (Jq9:=(-c.K,lg c)::Jq9) asB er rfl rfl Z9]
  |some E=>obtain rfl:=Q E rfl;rw[aK.fin nd M (y:=y) (Jq9:=Jq9) (.refl _) er rfl rfl Z9]
end
def qw(W:Fi->!bu)(F:Fi):!bu:=W F++[cm F.f,cm F.f]
noncomputable def fx(W:Fi->!bu):!Fi->!U->(Nat->!U)->!U×(Nat->!U)
 |[],H,D=>(H,D)
 |F::r,H,D=>match dN (qw W F)with
  |true=>fx W r (H++[F.f.nm]) D
  |false=>fx W r H<|upd D (mQ (bR<|qw W F) 0).toNat<|D (mQ (bR<|qw W F) 0).toNat++[F.f.nm]
structure pM(w:AW)(v:Lw)(fs:!Fi)(l:!Env)(W:Fi->!bu):Prop where
 t:∀F∈fs,afJ w v fs l F<|W F
 asks:∀F∈fs,∀a m n,bu.ask a m n∈qw W F->n.length<100
 len:∀F∈fs,(qw W F).length<2^20
 top:∀F∈fs,dN (qw W F)=O->∃k<5,mQ (bR<|qw W F) 0=((k:Nat):Int)
theorem asC(ok:pM w v fs l W):∀(b:!Fi)(j:Nat)(o:Option<|Cd×U×Nat)(s0:List<|Option SV)(H:!U)(D:Nat->!U),fs.drop j=b->j+b.length=fs.length->(b=[]->o≠As)->H.length+b.length<2^20->(∀k,(D k).length+b.length<2^20)->(vF v fs it j o s0 H D (fx W b H D).1 (fx W b H D).2).aq w [bz v.F] (Y l):=by
 cases _ with
 |nil=>
  intro j o s0 H D _ d i _ _;let(t,rfl):=Option.ne_none_iff_exists'.mp<|i rfl
  obtain rfl:j=(oj fs).length:=by rw[((by
    delta oj nh
    rw[Ap,Ap]):(oj fs).length=fs.length),];rw[d]
  rw[X.aB (F:=900) (nt:=λ_ _=>.v [0,2,2] (tU it v.fd (oj fs)<|uz fs) [1,3] [] λ_=>.g [9] [0,1,2,3,4,5,6,7] [[.b 0],[.b 1]] {y0 with s:=λ_=>t.2.1,n:=λ_=>t.2.2,u:={y0.u with x:={sl:=s0}}}) aF rfl λ_ _=>pU rfl mP λ_ _=>pF rfl Z9]
 |cons F b L=>
  intro j o s0 H D N d _ E c;let Q:fs[j]?=Y F:=by rw[<-Bp j,<-Bb,N];rfl
  let M:=Br Q;let V:(oj fs)[j]?=Y (F.f.nm,rf F.f.a):=by delta oj nh;rw[AG,AG,Q];rfl
  let A:fs.drop (j+1)=b:=by rw[<-BU,N];rfl
  rw[AI]at d E;let c:=c;cases i:dN (qw W F)with
  |true=>
   let e:fx W (F::b) H D=fx W b (H++[F.f.nm]) D:=by rw[fx,i]
   rw[e,];rw[acp V (ok.t F M) (λs0 r xs B C=>(X.av (F:=900) (nt:=λ_ _=>.v [1,2,2,2] (vE r xs (S "open") J [B]) [1] [[0]] λ_=>.v [1,3,3,3,3,1,3] (hN As "list.append" [rf v.hl,.str F.f.nm] (-v.hl) (.seq Lt<|aG H) (.seq Lt<|aG<|H++[F.f.nm])<|.ok .none) [2] [] λ_=>.g [] [0,1,2,3] [[.b 0],[.b 1]] y0) aF rfl λ_ _=>pU rfl (sH (λx m=>(C.item x m).imp id λ⟨p,ys,e,h⟩=>⟨p,ys,e,Ao _ h⟩)<|C.opn.trans i) λ_ _=>pU rfl (jb<|lE E) λ_ _=>pF rfl Z9)) λt G=>L (j+1) (Y t) G _ D A (ahR d) (λ_ h=>nomatch h) (by rw[py,];rw[lF E]) λk=>by have:=c k;rw[nA this]]
  |false=>
   let(k,hk,he):=ok.top F M i;let e:fx W (F::b) H D=fx W b H (upd D k<|D k++[F.f.nm]):=by rw[fx,i,he];rfl
   rw[e,]
   rw[acp V (ok.t F M) (λs0 r xs B C=>alq C i (λe=>by
     let z:=C.len;rw[e,Ay]at z
     rw[nomatch z]) (ok.asks F M) (ok.len F M) hk he (by have:=c k;rw[lE this])) λt G=>L (j+1) (Y t) G H _ A (ahR d) (λ_ h=>nomatch h) (nA E) λI=>by
    by_cases h:I=k
    .subst h;rw[kC,py];have:=c I;rw[lF this]
    .rw[afy _ _ h,];have:=c I;rw[nA this]]
def vG(v:Lw)(fs:!Fi)(s0:List<|Option SV)(H:!U)(D:Nat->!U)(h:!U)(d:Nat->!U):X:={ec:=.am<|fj v.F,ai:=890,un:=700,pre:=[(-v.F,aI (gX v) s0),(v.F+903,aJ v.fd),(-v.fd,iw fs),(879,cv As),(-v.hl,.seq Lt<|aG H),(-v.du,nv v.d)],aj:=[fh fs,gY v.d D],ab:=λQ=>.au .next,post:=λy=>[aI (gX v++xb (Y (y.cd,y.s 0,y.n 5))) y.u.x.sl,aJ v.fd,iw fs,cv<|Y y.cd,.seq Lt<|aG h,nv v.d],af:=λQ=>[fh fs,gY v.d d]}
def rtE:Ea:=(iL<|bf [35,7] PW.main.body).getD Bs
def uA(i:Nat):Ea:=(ep rtE).e.getD i Bs
def tW:Ea:=e0 (ep<|uA 0).e
def z7:Cm:=⟨tW,"law.<locals>.",900⟩
structure Du where
 p:Nat
 ws:!U
def avY(ds:!Du):Rd:=ds.map λd=>(-d.p,.seq Lt<|aG d.ws)
def fY(ds:!Du):!SV:=ds.map λd=>rf d.p
def soB(l:Nat)(c:!U)(B:Rd):X:=({x8 "list" l c with pre:=[],post:=λQ=>[]}:X).inB B
def z8(c:BC)(p:Cp)(ik j:Nat)(xs:!SV)(o oe:Option SV)(ys:!SV)(B:Rd)(Q:aW->Prop):X:={ec:=.am c,ai:=450,pre:=[(-p.L,ni "group" o),(-p.it,pw ik j),(-p.ac,.seq Lt ys),(-ik,.seq Lt xs)],aj:=[B],ab:=λx=>.au .next,post:=λy=>[ni "group" oe,.fld (.type "list_iterator")<|y.l 1,.seq Lt<|y.l 0,.seq Lt xs],af:=λy=>[B,y.r 0],pure:=Q}
section
def vJ(p:Cp)(ik j:Nat)(xs:!SV)(o oe:Option SV)(ys:!SV)(B:Rd)(Q:aW->Prop)(ns:!Nat)(bs:!Bool)(nx:aQ->Nt):Nt:=.u ns (z8 (z7.lp p) p ik j xs o oe ys B Q) [0,1,2,3] bs [[0]] nx
def asD(x:aQ):Nt:=.g [] [0,1,2,3] [[.b 0],[.b 1]] x.y
def asE(p:Cp)(ik j:Nat)(xs:!SV)(x:Nat)(c:!U)(lo:List<|!Nat)(nx:Nt):Bool->Nat->Nt:=λQ Q=>.v [0,2,2] (sy ik xs<|tg p.it ik j xs<|rf x) [1,3] [] λQ=>.ob lo (-x) (.seq Lt<|aG c) nx
end
noncomputable def wa:!Du->!!U
 |[]=>[]
 |⟨_,[]⟩::r=>wa r
 |⟨_,a::s⟩::r=>(a::s)::wa r
def uB(ys:!SV)(G:List<|!U)(y:aW):Prop:=∃ts:!Rw,A3 (ts.length=G.length) (y.l 0=ys++ts.map (λp=>rf p.t))<|y.r 0=sv G ts
def asF(M:∀d∈ds,(-d.p,SO.seq Lt (aG d.ws))∈B)(hl:∀d∈ds,d.ws.length<64):∀(k:!Du)(j:Nat)(o:Option SV)(ys:!SV),ds.drop j=k->ys.length+k.length<2^20->(z8 (z7.lp p) p ik j (fY ds) o (kF (fY k) o) ys B<|uB ys<|wa k).Holds w:=by
 cases _ with
 |nil=>
  intro j o ys H _;let A:(fY ds)[j]?=As:=by delta fY;rw[AG,<-Bp j,<-Bb,H];rfl
  rw[X.ap (F:=900) (nt:=λ_ _=>.v [0,2,2] (sy ik (fY ds)<|tP p.it ik j<|fY ds) [1,3] [] λ_=>.g [5] [0,1,2,3] [[.b 0],[]] {y0 with l:=λi=>match i with|0=>ys|_=>[.none,.int j]}) (by induction o<;>rw[aF]) rfl λ_ _=>pU rfl (dh (fL w _ _ _ _ _ A) (λ_ h=>h) λ_ h=>h) λ_ _=>pF rfl ⟨[],rfl,(Az _).symm,rfl⟩]
 |cons C k I=>
  let(x,ws):=C;intro j o ys H z;let e:ds[j]?=Y ⟨x,ws⟩:=by rw[<-Bp j,<-Bb,H];rfl
  let G:(fY ds)[j]?=Y (rf x):=by delta fY;rw[AG,e];rfl
  let m:=Br e;let E:ds.drop (j+1)=k:=by rw[<-BU,H];rfl
  let ln:=dh (d7 w (-p.it) (-ik) Lt (fY ds) j _ G) (λ_ h=>h) λ_ h=>h
  rw[AI]at z;cases ws using A8 with
  |nil=>rw[X.ap (F:=900) (nt:=(asE p ik j (fY ds) x [] [[1,1,1],[],[0],[],[0]]<|vJ p ik (j+1) (fY ds) (Y<|rf x) (kF (fY<|Bc {p:=x,ws:=Ck} k) o) ys B (uB ys<|wa<|Bc {p:=x,ws:=Ck} k) [] [O,J,J,J] asD)) (by induction o<;>rw[aF]) rfl λ_ _=>pU rfl ln λ_ _=>pO rfl (Ao _<|M _ m)<|pU rfl (I (j+1) (Y<|rf x) ys E<|nA z) λ_ h=>pF rfl h]
  |cons a c=>
   let L:=hl _ m;rw[X.ap (F:=900) (nt:=(asE p ik j (fY ds) x (a::c) [[1,1,1],[]]<|.v [] (z0 x (a::c) B) [] [[0]] λ_=>.v [0,0,1] (soB x (a::c) B) [] [[0]] λn=>.v [3] (hN As "list.append" [.ref<| -p.ac,rf<|n.t 1] (-p.ac) (.seq Lt ys) (.seq Lt<|ys++[rf<|n.t 1])<|.ok .none) [2] [] λ_=>vJ p ik (j+1) (fY ds) (Y<|rf x) (kF (fY<|Bc {p:=x,ws:=Bc a c} k) o) (ys++[rf<|n.t 1]) B ((λn=>uB (instHAppendOfAppend.hAppend ys<|Bc (rf<|n.t 1) Ck)<|wa k) n) [] [O,J,J,J] λb=>.g [] [0,1,2,3] [[.b 0],[.l 4,.b 1,.b 2]] {b.y with r:=λ_=>(-n.t 1,.seq Tt [.bool J,rf<|n.y.n 0])::((-n.y.n 0,.seq Lt<|aG<|d9<|a::c)::b.y.r 0)})) (by induction o<;>rw[aF]) rfl λ_ _=>pU rfl ln λ_ _=>pO rfl (Ao _<|M _ m)<|pU rfl (afH (Dj L (by decide))<|M _ m) λ_ _=>pU rfl (fg (K:={x8 "list" x (Bc a c)with pre:=[],post:=λ_=>[]}) (afg w (.inl rfl) x (Bc a c) L)<|M _ m) λn _=>pU rfl (aP w _ _ _<|lE z) λ_ _=>pU rfl (I (j+1) (Y<|rf x) (ys++[rf<|n.t 1]) E (by rw[py,];rw[lF z])) λb h=>pF rfl ?_]
   let(ts,N,V,t3):=h;rw[(⟨n.t 1,n.y.n 0⟩::ts,Z8 (·+1) N,?_,?_)]
   .show b.y.l 0=_;rw[V,AD];rfl
   .show _::(_::b.y.r 0)=_;rw[t3,];rfl
def kI(w:AW)(S:Nat)(ks:!U)(n:Nat)(R:Rd):Prop:=∃z:Ze,R=z.R S/\z.o.SetObjOf (strKind PW w) (λk=>decide<|k∈ks) n
noncomputable def eh:!U->!U->Nat->!U×Nat
 |[],h,n=>(h,n)
 |k::r,h,n=>eh r (k::h) (if k∈h then n else n+1)
def wb(S it ik j:Nat)(q:!U)(R:Rd)(Q:Rd->Prop):X:={ec:=.bi "set.update.loop" [rf S,rf it] [],ai:=450,pre:=[(-it,pw ik j),(-ik,.seq Lt<|aG q)],aj:=[R],ab:=λx=>.ok .none,post:=λy=>[.fld (.type "list_iterator")<|y.l 1,.seq Lt<|aG q],af:=λy=>[y.r 0],pure:=λy=>Q<|y.r 0}
def z9(S it ik j:Nat)(q:!U)(k:U):X:={ec:=.bi "set.update.loop" [rf S,rf it] [],ai:=440,pre:=[(-it,pw ik j),(-ik,.seq Lt<|aG q)],ab:=λQ=>.ok<|.str k,post:=λQ=>[pw ik<|j+1,.seq Lt<|aG q]}
def Aa(S it ik j:Nat)(q:!U):X:={ec:=.bi "set.update.loop" [rf S,rf it] [],ai:=440,pre:=[(-it,pw ik j),(-ik,.seq Lt<|aG q)],ab:=λQ=>.au .next,post:=λQ=>[.fld (.type "list_iterator") [.none,.int j],.seq Lt<|aG q]}
noncomputable def sdK(R:Rd)(Q:Rd->Prop):X:={ec:=.bi "set.add" [] [],ai:=400,aj:=[R],ab:=λx=>.ok .none,af:=λy=>[y.r 0],pure:=λy=>Q<|y.r 0}
section
variable{S it ik j:Nat}
def adm{A:CB}{s:AJ}{z:Ze}{G:AJ->Prop}(hz:z.o.SetObjOf (strKind PW w) (λk=>decide (k∈ks)) n)(x:n+1<scanBound)(g:s.heap.get? (-S)=Y z.o)
  (h:∀l,(sdK (z.R S)<|kI w S (k::ks) (if k∈ks then n else n+1)).ax As s (.ok<|.ret .none) l->G l):A0 (AN PW w) A (LH (-S)<|.str k t) (λ_ l=>G l) (λ_ _=>False) s:=by
 rw[BP ?_];rw[Al<|(strKind PW w).pyHash (k:=k) (show(Value.str k t).isStrOf k=J from by simp[Ey]) ?_];rw[G0 (s:={s with toks:=s.toks+1}) (k:=k) (show(Value.str k t).isStrOf k=J from by simp[Ey]) rfl (hz.setOf g<|IU x) x λh' H B=>h _ ?_]
 let(C,V,E):=B.objOf;let ef:(λi=>decide (i∈ks)||decide (i=k))=λi=>decide<|i∈k::ks:=by funext i;rw[Jv,];simp only[D7,ZV,Ar];rw[(λh=>h.symm,λh=>h.symm)]
 rw[ef]at E
 let en:(if decide (k∈ks)=J then n else n+1)=if k∈ks then n else n+1:=by
  by_cases m:k∈ks
  .rw[Z0 m,Z0<|ZT m]
  .rw[Z7 m,Z7 (by rw[ZU m,];rw[A9])]
 rw[en]at E;obtain⟨I,rfl⟩:∃z:Ze,C=z.o:=by let(hex,es,ep,t,L,_):=E;let(c,d,da,sl):=C;let(M,N,Q):=hex;dsimp only at M N Q L;subst M N Q L;rw[(⟨es,ep,t⟩,rfl)]
 rw[(⟨λb o e q=>(λb o e q=>(H.2 b q).trans e) b o e λe=>q<|.inl<|.inr (by rw[e,];rw[aE]),AY H.1.symm,rfl,rfl,rfl⟩,⟨(λ_ h=>nomatch h),by rintro b ⟨_,h,_⟩;rw[nomatch h]⟩,{y0 with r:=λ_=>I.R S},rfl,rfl,rfl,λq hq=>?_,AC.mpr ⟨BF,AS⟩,(λ_ h=>nomatch h),λb hb=>?_,I,rfl,E)]
 .cases Au.mp (show q∈[(-S,SO.am I.o)]from hq);rw[(_,V,rfl)]
 .cases Au.mp (show b∈[-S]from hb);rw[.inl<|.inr aE]
def asG:∀(b:!U)(j:Nat)(ks:!U)(n:Nat)(z:Ze),q.drop j=b->z.o.SetObjOf (strKind PW w) (λk=>decide (k∈ks)) n->n+b.length<64->(wb S it ik j q (z.R S)<|kI w S (eh b ks n).1 (eh b ks n).2).Holds w:=by
 cases _ with
 |nil=>
  intro j ks n z i B _;intro A c s nd;let(_,rfl):=aS nd.ec;let hn:(aG q)[j]?=As:=by delta aG;rw[AG,<-Bp j,<-Bb,i];rfl
  let C:aK _ As s s<|((Aa S it ik j q).pre++(Aa S it ik j q).aj.flatten)++z.R S:=(aK.of nd).perm<|.refl _;let H:(Aa S it ik j q).aw xz w As:=X.av (F:=900) (nt:=λ_ _=>.v [1,1] (sy ik (aG q)<|tP it ik j<|aG q) [0,1] [] λ_=>.g [3] [0,1] [] y0) aF rfl λ_ _=>pU rfl (dh (fL w _ _ _ _ _ hn) (λ_ h=>h) λ_ h=>h) λ_ _=>pF rfl Z9
  rw[aae rfl (R1:=λ_ _=>False) (H.use (aK.need nd C rfl nd.hd nd.fs (by have:=nd.ai;let e:(wb S it ik j q (z.R S)<|kI w S (eh [] ks n).1 (eh [] ks n).2).dt=450:=rfl;rw[am6 this e])<|.inl rfl) λr d g=>?_) λ_ _ z=>z.elim]
  let(y,er,_,_,_,M):=aK.run nd C g;rw[.inl ⟨ch er,aK.fin nd M (Jq9:=[]) (y:={y0 with l:=λ_=>[.none,.int j],r:=λ_=>z.R S}) (.refl _) rfl rfl rfl ⟨z,rfl,B⟩⟩]
 |cons k b E=>
  intro j ks n z i B N;intro A c s nd;let(_,rfl):=aS nd.ec;let hx:(aG q)[j]?=Y (.str k):=by delta aG;rw[AG,<-Bp j,<-Bb,i];rfl
  rw[AI]at N;let m:=nd.ai;let m:A.depth+450<jc:=m;let C:aK _ As s s<|((z9 S it ik j q k).pre++(z9 S it ik j q k).aj.flatten)++z.R S:=(aK.of nd).perm<|.refl _;let H:(z9 S it ik j q k).aw xz w As:=X.av (F:=900) (nt:=λ_ _=>.v [1,1] (sy ik (aG q)<|tg it ik j (aG q)<|.str k) [0,1] [] λ_=>.g [] [0,1] [] y0) aF rfl λ_ _=>pU rfl (dh (d7 w _ _ _ _ _ _ hx) (λ_ h=>h) λ_ h=>h) λ_ _=>pF rfl Z9
  rw[aae rfl (R1:=λv d=>(∃t,v=.str k t)/\aK (wb S it ik j q (z.R S)<|kI w S (eh (k::b) ks n).1 (eh (k::b) ks n).2) As s d ([(-it,pw ik<|j+1),(-ik,.seq Lt<|aG q)]++z.R S)) (H.use (aK.need nd C rfl nd.hd nd.fs (by rw[am7 m])<|.inl rfl) λr d g=>?_) λv d ⟨⟨t,hv⟩,M⟩=>?_]
  .let(y,er,_,_,_,M):=aK.run nd C g;let er:=er;let(t,rfl):=iK er;rw[.inr ⟨_,rfl,⟨t,rfl⟩,M⟩]
  .subst hv;let M:=M.perm CG;rw[adm B (Dj (show n+1<65 by rw[am8 N]) (by decide)) (mr (show HS d.heap (z.R S++[(-it,pw ik<|j+1),(-ik,.seq Lt<|aG q)])from M.hs)) λG g=>?_]
   let(y,_,(I,ez,L),_,_,x):=aK.run (D:=sdK (z.R S)<|kI w S (k::ks) (if k∈ks then n else n+1)) nd M g;let E:=E (j+1) (k::ks) (if k∈ks then n else n+1) I (by rw[<-BU,i];rfl) L (by split<;>omega);let x:aK _ As s G<|(([]:Rd)++(y.r 0++[]))++[(-it,pw ik<|j+1),(-ik,.seq Lt<|aG q)]:=x;rw[ez]at x
   let Q:aK _ As s G<|((wb S it ik (j+1) q (I.R S)<|kI w S (eh b (k::ks) (if k∈ks then n else n+1)).1 (eh b (k::ks) (if k∈ks then n else n+1)).2).pre++(wb S it ik (j+1) q (I.R S)<|kI w S (eh b (k::ks) (if k∈ks then n else n+1)).1 (eh b (k::ks) (if k∈ks then n else n+1)).2).aj.flatten)++[]:=x.perm (by
    rw[Lp (CG (l₁:=I.R S)) (.of_eq ?_)]
    rfl)
   rw[BK (E A _ G<|aK.need nd Q rfl nd.hd nd.fs m<|.inl rfl) λr s3 g=>?_]
   let(y,er,pu,_,_,M):=aK.run nd Q g;rw[aK.fin nd M (Jq9:=[]) (y:=y) (.refl _) er rfl rfl pu]
end
structure Ri where
 rg:Nat
 gd:Nat
 hl:Nat
 a:Nat->Nat
 W:Nat->!U
 q:!U
 H:!U
def Ab:Ea:=(iL<|bf [34,1] PW.main.body).getD Bs
def avg:Jj:=(ep Ab).sc
def aiV(p:Cp):Env:=⟨pJ avg,-p.L,3,[(S "ring",p.F+903),(S "held",p.F+905),(S "graph",p.F+904)],S "_law_ring.<locals>.",As,.ref 895,Y<| -p.F,0⟩
def vK(p:Cp):BC:=.compLoop Ab 0 (.ref<| -p.it) (.ref<| -p.ac)<|aiV p
def avh(p:Cp):BC:=.compStart Ab 0 (.ref<| -p.it) (.ref<| -p.ac)<|aiV p
def Ri.R(v:Ri)(F:Nat):Rd:=[(F+903,aJ v.rg),(F+904,aJ v.gd),(F+905,aJ v.hl),(-v.rg,.seq Lt<|aG v.q),(-v.gd,aM<|cL v.a),(-v.hl,.seq Lt<|aG v.H)]
noncomputable def Ri.S(v:Ri):!SO:=[aJ v.rg,aJ v.gd,aJ v.hl,.seq Lt<|aG v.q,aM<|cL v.a,.seq Lt<|aG v.H]
def yx(c:BC)(p:Cp)(v:Ri)(j m:Int)(o oe:Option SV)(ys d:!Int):X:={ec:=.am c,ai:=450,pre:=[(-p.L,ni "i" o),(-p.it,j3 j m 1),(-p.ac,.seq Lt<|cG ys)]++v.R p.F,aj:=[jj v.W v.a],ab:=λQ=>.au .next,post:=λy=>[ni "i" oe,.fld (.type "range_iterator")<|y.l 1,.seq Lt<|cG d]++v.S,af:=λQ=>[jj v.W v.a]}
def yy(a:Nat)(c:!U)(s:U)(b:Bool):X:={ec:=.bi "list.__contains__" [rf a,.str s] [],ai:=400,pre:=[(-a,.seq Lt<|aG c)],ab:=λQ=>.ok<|.bool b,post:=λQ=>[.seq Lt<|aG c]}
def ciK(a:Nat)(c:!U)(s:U)(B:Rd):X:=({yy a c s J with pre:=[],post:=λQ=>[]}:X).inB B
def afK(i:aZ d s=b):(yy a d s b).Holds w:=by
 intro A c j n;let(u,rfl):=aS n.ec;let(i1,N,H,C):=cp<|n.hs _ aE;rw[bk (by decide+kernel) EW (G2 (-a) i1 N As #[] (.str s<|u 1) λy=>sG s<|aC y) ⟨H,λy B=>?_,?_⟩]
 .let m:aC y∈aG d:=by rw[<-C];rw[Av (by simpa using B)]
  let(t,_,e):=AM.mp m;let(k,rfl):=bA e.symm;rw[Iz _ _ _ _]
 .rw[(Kp.refl,⟨(λQ h=>nomatch h),by rintro b ⟨_,h,_⟩;rw[nomatch h]⟩,y0,?_,rfl,rfl,n.hs,n.nd,(λQ h=>nomatch h),(λQ h=>nomatch h),trivial)];let e:(aG d).any (sG s)=aZ d s:=by delta aG aZ;rw[GL,];rfl
  rw[<-i,<-e,<-C,GL,<-Gm];rfl
section
noncomputable def o9:!Nat:=[0,1,2,3,4,5,6,7,8]
noncomputable def Ac:!Bool:=[J,J,J,J,J,J,J,J,J]
def rgI(p:Cp)(v:Ri)(j m:Int)(o oe:Option SV)(ys d:!Int)(ns:!Nat)(bs:!Bool):Nt:=.use ns (yx (vK p) p v j m o oe ys d) As o9 bs [[0]] [] λx=>.f [] o9 Ac [[.b 0]] x.y
def xg(v:Ri)(i:Int)(x:U):X:=hM As "list.__getitem__" [rf v.rg,.int i] (-v.rg) (.seq Lt<|aG v.q)<|.ok<|.str x
def mS{i:Nat}(hl:v.q.length<100)(h:v.q[i]?=Y x):(xg v i x).Holds w:=bp (oQ w _ _ _ _ (BH i) (by
 have:i<v.q.length:=by
  rcases Nat.lt_or_ge i v.q.length with M|M
  .rw[M]
  .rw[D9 M]at h;rw[nomatch h]
 rw[am9 hl this]) (by
   delta aG;rw[AG,h]
   rfl))
def acq(h:s∈c):aZ c s=J:=Ff.mpr ⟨s,h,ZY s⟩
def alr(h:s∈c)(m:(-a,SO.seq Lt (aG c))∈B):(ciK a c s B).Holds w:=fg (K:={yy a c s J with pre:=[],post:=λQ=>[]}) (afK<|acq h) m
structure vL(v:Ri):Prop where
 len:v.q.length<100
 held:∀x∈v.q,x∈v.H
 nm:∀x∈v.q,∃k<4,x=bI k
 use:∀i x k,v.q[i]?=Y x->v.q[i+1]?=Y (bI k)->k<4->x∈v.W k
noncomputable def ii(a:Int):Nat->!Int
 |0=>[]
 |n+1=>a::ii (a+1) n
noncomputable def qY(a:Int):Nat->Option SV->Option SV
 |0,o=>o
 |n+1,_=>qY (a+1) n<|Y<|.int a
def als(ok:vL v):∀(m i:Nat)(o:Option SV)(ys:!Int),(m=0\/i+1+m=v.q.length)->ys.length+m<2^20->(yx (vK p) p v ((i+1:Nat):Int) m o (qY ((i+1:Nat):Int) m o) ys<|ys++ii ((i+1:Nat):Int) m).Holds w:=by
 cases _ with
 |zero=>intro i o ys _ _;rw[show ys++ii ((i+1:Nat):Int) 0=ys from Az _,];rw[X.ap (F:=900) (nt:=λx x=>.f [0,2,2,0,2,2,2,11] o9 Ac [[.b 0]] {y0 with l:=λx=>[.int<|(instHAdd.hAdd i 1).cast,.int 0,.int 1]}) (by induction o<;>rw[aF]) rfl λx x=>pF rfl Z9]
 |succ m I=>
  intro i o ys h z;let h:i+1+(m+1)=v.q.length:=h.resolve_left<|Jh m;let H:v.q[i+1]?=Y (v.q[i+1]'(ana (by assumption))):=Cc _;let c:v.q[i]?=Y (v.q[i]'(rE (by assumption))):=Cc _;let(k,b,r):=ok.nm _<|Br H;rw[r]at H;let I:=I (i+1) (Y<|.int ((i+1:Nat):Int)) (ys++[((i+1:Nat):Int)]) (.inr<|anb (by assumption)) (by rw[py,];rw[lF z]);let E:((m+1:Nat):Int)-1=(m:Nat):=nC;let e:((i+1:Nat):Int)-1=(i:Nat):=nC;let j:cG (ys++[((i+1:Nat):Int)])=cG ys++[.int ((i+1:Nat):Int)]:=AE;rw[AD]at I;let P:=((by rw[lt4 k b ?_ ?_ ?_ ?_]<;>induction o<;>rw[aF]):aR w (yx (vK p) p v ((i+1:Nat):Int) ((m+1:Nat):Int) o (qY ((i+1:Nat):Int) (m+1) o) ys<|ys++ii ((i+1:Nat):Int) (m+1)) 1500 λx x=>.v [0,2,2] (zJ p.it ((i+1:Nat):Int) ((m+1:Nat):Int)) [1] [] λx=>.v [1,1,4,1,7,7,7,7] (xg v ((i+1:Nat):Int)<|bI k) [6] [] λx=>.v [6,9,9,9] (yy v.hl v.H (bI k) J) [8] [] λx=>.v [4,1,0,7,7,7,7] (xg v (((i+1:Nat):Int)-1)<|v.q[i]'(rE (by assumption))) [6] [] λx=>.v [5,4,1,7,7,7,7] (xg v ((i+1:Nat):Int)<|bI k) [6] [] λx=>.v [8,8,8,8] (hM As "dict.__getitem__" [rf v.gd,.str<|bI k] (-v.gd) (aM<|cL v.a)<|.ok<|rf<|v.a k) [7] [] λx=>.ob [[],[],[]] (-v.a k) (.seq Lt<|aG<|v.W k)<|.v [] (ciK (v.a k) (v.W k) (v.q[i]'(rE (by assumption)))<|jj v.W v.a) [] [[0]] λx=>.v [1,3] (hN As "list.append" [.ref<| -p.ac,.int ((i+1:Nat):Int)] (-p.ac) (.seq Lt<|cG ys) (.seq Lt<|cG<|ys++[((i+1:Nat):Int)])<|.ok .none) [2] [] λx=>rgI p v (((i+1:Nat):Int)+1) (((m+1:Nat):Int)-1) (Y<|.int ((i+1:Nat):Int)) (qY ((i+1:Nat):Int) (m+1) o) (ys++[((i+1:Nat):Int)]) (ys++ii ((i+1:Nat):Int) (m+1)) [] [O,J,J,J,J,J,J,J,J])
  rw[X.ap P rfl λx x=>pU rfl (pv nB) λx x=>pU rfl (mS ok.len H) λx x=>pU rfl (afK<|acq<|ok.held _<|Br H) λx x=>pU rfl (by rw[e,];rw[mS ok.len c]) λx x=>pU rfl (mS ok.len H) λx x=>pU rfl (bp<|eZ w _ _ _ _<|mL _ b) λx x=>pO rfl (Ao _<|jK b) (pU rfl (alr (ok.use _ _ _ c H b)<|jK b) λx x=>pU rfl (by
   rw[j,]
   rw[aP w _ _ _ (by delta cG;rw[Ap,];rw[lE z])]) λx x=>pU rfl (by rw[(aD [i] 0x1111111111400111111400a0:((i+1:Nat):Int)+1=((i+1+1:Nat):Int)),E];rw[I]) λx x=>pF rfl Z9)]
end
def ij(F:Nat):Env:=⟨bd [34],-F,3,[(S "held",F+905),(S "graph",F+904),(S "ring",F+903)],S "_law_ring.<locals>.",Y 896,.ref 895,Y<| -F,0⟩
def gq(F:Nat):BC:=iM [34]<|ij F
def n4:Gc:=(bf [34,0] PW.main.body).getD Bs
def rgT(i:Nat):Gc:=(bf [34,i] PW.main.body).getD Bs
def Ad:Ea:=e0 (ep<|e0 (sp n4).e).e
def xh(right:Bool):Ea:=match n4 with
 |.If (.BoolOp _ [_,.Compare l _ (r::_) _] _) _ _ _=>(match right with
  |true=>r
  |false=>l)
 |_=>Bs
def rgU:Ea:=e0 (ep<|e0 (sp<|(sp n4).k.headD Bs).e).e
def xj(right:Bool):Ea:=match n4 with
 |.If _ [.Return (Y (.BoolOp _ [_,.Compare l _ (r::_) _] _)) _] _ _=>(match right with
  |true=>r
  |false=>l)
 |_=>Bs
def we(i:Nat):Pos:=match n4 with
 |.If (.BoolOp _ [_,.Compare _ _ _ b] r) [.Return (Y (.BoolOp _ [_,.Compare _ _ _ w] k)) l] _ p5=>[b,r,w,k,l,p5].getD i b
 |_=>Bs
def aiW(F:Nat):gq F=.func [.If (.BoolOp .Or [Ad,.Compare (xh O) [.Eq] [xh J] (we 0)] (we 1)) [.Return (Y (.BoolOp .And [rgU,.Compare (xj O) [.Eq] [xj J] (we 2)] (we 3))) (we 4)] [] (we 5),rgT 1,rgT 2] (ij F):=by kernel_rfl
def iR(F:Nat)(R:SV)(hl:Nat)(H:!U):Rd:=[(-F,.ns Fr []),(F+903,.cell tH<|Y R),(F+905,aJ hl),(-hl,.seq Lt<|aG H)]
def qZ(F:Nat)(R:SV)(hl:Nat)(H:!U)(r:EE):X:={ec:=.am<|gq F,ai:=460,pre:=iR F R hl H,ab:=λQ=>r,post:=λQ=>[.ns Fr [],.cell tH<|Y R,aJ hl,.seq Lt<|aG H]}
def yz(F:Nat)(R:SV)(hl:Nat)(H:!U):X:={qZ F R hl H (.ok .none)with ab:=λy=>.ok<|rf<|y.n 0,ao:=λy=>[-y.n 0],al:=λQ=>[.seq Lt []]}
section
variable{w:AW}{F rg hl st:Nat}{R:SV}{H:!U}{v:Ri}
end
def zF(w:AW):Ze:=⟨#[],0,.fresh 0 0<|wJ w⟩
def nwK(w:AW)(rg:Nat):X:={ec:=.bi "set.__new__" [.ty "set",rf rg] [],ai:=400,ab:=λy=>.ok<|rf<|y.n 0,af:=λy=>[(zF w).R<|y.n 0]}
def stK(w:AW)(rg:Nat)(q:!U):X:={ec:=.bi "type.__call__" [.ty "set",rf rg] [],ai:=470,pre:=[(-rg,.seq Lt<|aG q)],ab:=λy=>.ok<|rf<|y.n 0,post:=λQ=>[.seq Lt<|aG q],af:=λy=>[y.r 0],pure:=λy=>kI w (y.n 0) (eh q [] 0).1 (eh q [] 0).2 (y.r 0)}
def lsN(S n:Nat)(R:Rd):X:={ec:=.bi "len" [rf S] [],ai:=400,aj:=[R],ab:=λQ=>.ok<|.int n,af:=λQ=>[R]}
section
variable{w:AW}{F rg hl st:Nat}{R:SV}{H:!U}{v:Ri}{q:!U}{m:Nat}{x:U}
def alu{S n:Nat}{ks:!U}{R:Rd}(h:kI w S ks n R)(i:n<100):(lsN S n R).Holds w:=by
 intro A c s nd;let(_,rfl):=aS nd.ec;let(z,rfl,hex,es,ep,t,j,_,_,k,C):=h;subst k;rw[AZ (id:="len") J7 ?_];rw[BN (wpAny_len_body_set (Q:=λr d=>r=.int es.size (s.toks+1)/\d={s with toks:=s.toks+1+1}) (mr (show HS s.heap (z.R S++[])from nd.hs)) hex j C (Int.lt_of_lt_of_le (Gy.mpr i) (by decide)) ⟨rfl,rfl⟩) (λfin d z=>?_) λV V h=>h]
 let(r,rfl,rfl,rfl):=z;rw[(⟨λb o e V=>e,AA _,rfl,rfl,rfl⟩,⟨(λV h=>nomatch h),by rintro b ⟨_,h,_⟩;rw[nomatch h]⟩,y0,rfl,rfl,rfl,nd.hs,nd.nd,(λV h=>nomatch h),λa l=>.inl<|.inr l,trivial)]
def q0(F:Nat)(v:Ri)(m:Nat):X:={ec:=.am<|gq F,ai:=500,pre:=(-F,.ns Fr [])::v.R F,aj:=[jj v.W v.a],ab:=λQ=>.au .next,post:=λy=>.ns Fr [(sS "steps",rf<|y.n 0)]::v.S,ao:=λy=>[-y.n 0],al:=λQ=>[.seq Lt<|cG<|ii 1 m],af:=λQ=>[jj v.W v.a]}
def tX(F:Nat)(v:Ri)(m st:Nat):X:={ec:=.am<|gq F,ai:=500,pre:=(-F,.ns Fr [(sS "steps",rf st)])::v.R F++[(-st,.seq Lt<|cG<|ii 1 m)],aj:=[jj v.W v.a],ab:=λQ=>.ok<|.bool J,post:=λQ=>.ns Fr [(sS "steps",rf st)]::v.S++[.seq Lt<|cG<|ii 1 m],af:=λQ=>[jj v.W v.a]}
def Ae(a:Nat)(xs:!SV)(L:Int):X:=hM As "len" [rf a] (-a) (.seq Lt xs)<|.ok<|.int L
def gnQ(v:Ri)(x:U):X:=hM As "list.__getitem__" [rf v.rg,.int<|-1] (-v.rg) (.seq Lt<|aG v.q)<|.ok<|.str x
noncomputable def Af(F:Nat)(x:aQ):Cp:=⟨x.t 1+3,F,x.t 1+1,x.t 1+2⟩
def afL(i:1<=m/\m<=5):dW (ra 1) w (q0 F v m) 1500 λQ Q=>.v [0,0,0,0,2] (Ae v.rg (aG v.q) ((m+1:Nat):Int)) [4] [] λb=>.u [0,0,8,8,8,0,8,8,8,8,0,8,8,8,9] (yx (avh<|Af F b) (Af F b) v 1 m As (qY 1 m As) []<|ii 1 m) [10,8,9,1,2,3,4,5,6] [O,O,O,J,J,J,J,J,J] [[0]] λQ=>.f [1,1,11,11,11] [0,1,2,3,4,5,6,9] [O,J,J,J,J,J,J,J] [[.b 0]] (yA [b.t 1+2]):=by
 match m,i with
 |1,_|2,_|3,_|4,_|5,_=>rw[aF]
 |0,h=>rw[ZZ h.1 (by decide)]
 |m+6,h=>rw[ZZ h.2<|Ce<|BI 6 m]
def afM(i:1<=m/\m<=5):dW (ra 2) w (tX F v m st) 1500 λQ Q=>.v [0,0,1] (Ae st (cG<|ii 1 m) ((m:Nat):Int)) [7] [] λQ=>.v [0,0,2] (Ae v.rg (aG v.q) ((m+1:Nat):Int)) [4] [] λQ=>.v [0,0,0,0,0,0,2] (stK w v.rg v.q) [4] [] λb=>.v [] (lsN (b.y.n 0) m<|b.y.r 0) [] [[1]] λQ=>.v [0,2,5,5,5,5] (xg v 0 x) [4] [] λQ=>.v [2,0,5,5,5,5] (gnQ v x) [4] [] λQ=>.fin [5,1] [0,1,2,3,4,5,6,7] [J,J,J,J,J,J,J,J] [[.b 0]] y0 [bq x x=J]:=by
 match m,i with
 |1,_|2,_|3,_|4,_|5,_=>rw[aF]
 |0,h=>rw[ZZ h.1 (by decide)]
 |m+6,h=>rw[ZZ h.2<|Ce<|BI 6 m]
def iS(F hl:Nat):X:={qZ F .none hl [] (.ok<|.bool J)with ai:=520,un:=2100}
def gt(F:Nat)(v:Ri):X:={ec:=.am<|gq F,ai:=520,un:=2100,pre:=(-F,.ns Fr [])::v.R F,aj:=[jj v.W v.a],ab:=λQ=>.ok<|.bool J,post:=λy=>.ns Fr [(sS "steps",rf<|y.n 0)]::v.S,af:=λQ=>[jj v.W v.a]}
def avi(F:Nat):(gq F).cUnits=3:=by kernel_rfl
def gV{b:Bool}{r:BL}(h:a0 r=.ok (.bool b)):r=.ok (.ret<|.bool b):=have⟨_,e⟩:=iK h;e
def iT{a:Nat}{r:BL}(h:a0 r=.ok (rf a)):r=.ok (.ret<|.ref<| -a):=have⟨_,e⟩:=iK h;e
def abl{A:CB}{s:AJ}{a b:AL}{H:!U}(G:bh s.heap a<|.seq Lt<|aG H)(k:bh s.heap b<|.seq Lt [])(d:A.units<IW):JN A s (.ref a) (.ref b) H.isEmpty:=by
 let(i1,h,C):=d0 G;let(L,c,I):=d0 k;let i:L.size=0:=by rw[<-Ba,<-Ap (f:=aC) (as:=L.toList),I];rfl
 let r:i1.size=H.length:=by rw[<-Ba,<-Ap (f:=aC) (as:=i1.toList),C];rw[Ap ..]
 cases H with
 |nil=>
  let z:=Gu (A:=A) (s:=s) (e:=λV=>J) h c (r.trans i.symm) d λj Q V=>ZZ Q (by rw[r,];rw[Nat.not_lt_zero j])
  rw[fW]at z;rw[z]
 |cons x l=>rw[J5 h c (by rw[r,i];rfl) d]
def alv:(iS F hl).Holds w:=by
 rw[X.am (K:=iS F hl) (d:=gq F) rfl λA s nd=>?_]
 let V:A.depth+520<jc:=nd.ai;let un:A.units<=2100:=nd.un.resolve_left (by show¬((2100:Nat)=0);decide);let hu:(A.under<|gq F).units<IW:=by rw[ahS un]
 let C:aK (iS F hl) As s s<|iR F .none hl []:=(aK.of nd).perm<|.of_eq<|Az _;let nx:∀{r:EE}{c:AJ},aK (iS F hl) As s c (iR F .none hl [])->aK (iS F hl) As s c (((qZ F .none hl [] r).pre++(qZ F .none hl [] r).aj.flatten)++[]):=λM=>M.perm<|.refl _
 let i:∀{D:X}{c:AJ},D.ec=.am (gq F)->D.hd=As->D.dt=460->D.un=0->D.fr=[]->aK (iS F hl) As s c ((D.pre++D.aj.flatten)++[])->D.aA w D.fr As A (gq F) c:=λ{D c} e1 e2 e3 e4 e5 M=>aK.need nd M e1.symm (nd.hd.trans e2.symm) (λ_ h=>nomatch h) (by rw[e3,];rw[anf V])<|.inl e4;rw[gL (aiW F) ?_];rw[AR<|Bk (Q:=λf j=>∃v,f=.ret v/\(iS F hl).ax As s (.ok<|.ret v) j) ?_ (λf j ⟨v,e,g⟩=>?_) λ_ _ z=>z]
 .rw[aax J (R1:=λc=>aK (iS F hl) As s c<|iR F .none hl []) (R2:=λ_=>True) (aee ?_) (λh=>nomatch h) (λ_ c B=>?_) λh=>nomatch h]
  .let H:(qZ F .none hl []<|.ok<|.bool J).aw (λ_=>xy Ad<|ij F) w As:=X.av (F:=900) (nt:=λ_ _=>.g [2] [0,1,2,3] [] y0) aF rfl λ_ _=>pF rfl Z9
   rw[H.use (i rfl rfl rfl rfl rfl<|nx C) λr j g=>?_]
   let(y,er,_,_,_,M):=aK.run nd (nx C) g;rw[(J,gV er,rfl,M.perm<|.refl _)]
  .rw[AR (Bk (aak (abU (R1:=λG=>aK (iS F hl) As s G<|iR F .none hl []) (c5 ?_) λG I=>abT (R1:=λa l=>a=.ref (-hl)/\aK (iS F hl) As s l (iR F .none hl [])) (R2:=λa b l=>a=.ref (-hl)/\∃n,b=.ref (-n)/\aK (iS F hl) As s l (iR F .none hl []++[(-n,.seq Lt [])])) (R3:=λv l=>(iS F hl).ax As s (.ok<|.ret v) l) (by
    let e:Gk .Eq (xj J)=O:=by kernel_rfl
    delta CI
    rw[e,]) (λ_ _=>rfl) (c5 ?_) (λa l ⟨E,k⟩=>c5 ?_) λa b l ⟨E,n,eb,k⟩=>?_)) (λf j ⟨v,e,g⟩=>?_) λ_ _ z=>z)]
   .let H:(qZ F .none hl []<|.ok<|.bool J).aw (λ_=>gM rgU<|ij F) w As:=X.av (F:=900) (nt:=λ_ _=>.g [2] [0,1,2,3] [] y0) aF rfl λ_ _=>pF rfl Z9
    rw[H.use (i rfl rfl rfl rfl rfl<|nx B) λr j g=>?_]
    let(y,er,_,_,_,M):=aK.run nd (nx B) g;rw[(_,gV er,rfl,M.perm<|.refl _)]
   .let H:(qZ F .none hl []<|.ok<|rf hl).aw (λ_=>gM (xj O)<|ij F) w As:=X.av (F:=900) (nt:=λ_ _=>.g [3] [0,1,2,3] [] y0) aF rfl λ_ _=>pF rfl Z9
    rw[H.use (i rfl rfl rfl rfl rfl<|nx I) λr j g=>?_]
    let(y,er,_,_,_,M):=aK.run nd (nx I) g;rw[(_,iT er,rfl,M.perm<|.refl _)]
   .let H:(yz F .none hl []).aw (λ_=>gM (xj J)<|ij F) w As:=X.av (F:=900) (nt:=λ_ N=>.f [] [0,1,2,3,4] [J,J,J,J,O] []<|yA [N]) aF rfl λ_ _=>pF rfl Z9
    let L:=k.perm<|.refl _;rw[aK.gn H nd (i rfl rfl rfl rfl rfl L) L λr j y er _ M=>?_]
    rw[(_,iT er,E,y.n 0,rfl,M.perm<|.refl _)]
   .subst E eb;let z:=abl (A:=A.under<|gq F) (H:=[]) (k.hs (-hl,.seq Lt []) q9) (k.hs (-n,.seq Lt []) vX) hu;rw[z _ w _ _<|aK.fin nd k (y:=y0) (Jq9:=[(-n,.seq Lt [])]) (.refl _) rfl rfl rfl Z9]
   .subst e;rw[AH<|Aw ⟨v,rfl,g⟩]
 .subst e;rw[AH<|Aw ⟨v,rfl,g⟩]
def asH{α:Type}{f M Q c r g h:α}{G:!α}:(([f,M,Q,c,r,g,h]++(G++[]))).Perm<|[f,M,c,h]++([Q,r,g]++G):=Tr.pmE [[f],[M],[Q],[c],[r],[g],[h],G] 0x49cc020008280601000148107018050100300800
def asI{α:Type}{f M Q c r g h n:α}{G:!α}:(([f,M,c,h]++[n])++([Q,r,g]++G)).Perm<|([f,M,Q,c,r,g,h]++(G++[]))++[n]:=Tr.pmE [[f],[M],[c],[h],[n],[Q],[r],[g],G] 0x305402a4080100700c020000a4a007000c52006010000
def asJ{α:Type}{f M Q c r g h st:α}{G:!α}:(([f,M,Q,c,r,g,h,st]++(G++[]))++[]).Perm<|([f,M,Q,c,r,g,h]++(G++[]))++[st]:=Tr.pmE [[f],[M],[Q],[c],[r],[g],[h],[st],G] 0x4854041c060140400c02000010a809400e0300a02006010000
def alw{t:!U}(ok:vL v)(hq:v.q=x::t++[x])(G:(x::t).Nodup)(C:t.length<=4):(gt F v).Holds w:=by
 rw[X.am (K:=gt F v) (d:=gq F) rfl λA s nd=>?_]
 let un:A.units<=2100:=nd.un.resolve_left (by show¬((2100:Nat)=0);decide);let hu:(A.under<|gq F).units<IW:=by rw[ahS un]
 let hm:1<=t.length+1/\t.length+1<=5:=ang C;let L:v.q.length=t.length+1+1:=by rw[hq,Ay];rfl
 let I:v.q[0]?=Y x:=by rw[hq,];rfl
 let hH:v.H.isEmpty=O:=by
  let m:=ok.held x<|Br I;cases e:v.H with
  |nil=>rw[e]at m;rw[nomatch m]
  |cons=>rfl
 refine_lift let Jq9:Rd:=[(F+904,aJ v.gd),(-v.rg,.seq Lt<|aG v.q),(-v.gd,aM<|cL v.a)]++jj v.W v.a;?_;let M0:aK (gt F v) As s s<|iR F (rf v.rg) v.hl v.H++Jq9:=(aK.of nd).perm asH;let nx:∀{r:EE}{c:AJ},aK (gt F v) As s c (iR F (rf v.rg) v.hl v.H++Jq9)->aK (gt F v) As s c (((qZ F (rf v.rg) v.hl v.H r).pre++(qZ F (rf v.rg) v.hl v.H r).aj.flatten)++Jq9):=λM=>M.perm<|.of_eq<|Z8 (·++Jq9) (Az _).symm
 let nb:∀{r:EE}{c:AJ}{y:aW},aK (gt F v) As s c (((qZ F (rf v.rg) v.hl v.H r).led y++((qZ F (rf v.rg) v.hl v.H r).af y).flatten)++Jq9)->aK (gt F v) As s c (iR F (rf v.rg) v.hl v.H++Jq9):=λM=>M.perm<|.refl _
 let i:∀{D:X}{c:AJ}{R0:Rd},D.ec=.am (gq F)->D.hd=As->D.dt<=500->D.un=0->D.fr=[]->aK (gt F v) As s c ((D.pre++D.aj.flatten)++R0)->D.aA w D.fr As A (gq F) c:=λ{D c R0} e1 e2 e3 e4 e5 M=>aK.need nd M e1.symm (nd.hd.trans e2.symm) (λ_ h=>nomatch h) (anh nd.ai e3)<|.inl e4;rw[gL (aiW F)<|aaZ (R1:=λc=>aK (gt F v) As s c<|((q0 F v<|t.length+1).pre++(q0 F v<|t.length+1).aj.flatten)++[]) ?_ λc Q=>cD (R1:=λs2=>∃st,aK (gt F v) As s s2<|((tX F v (t.length+1) st).pre++(tX F v (t.length+1) st).aj.flatten)++[]) ?_ λs2 ⟨st,M2⟩=>agv ?_]
 .rw[aax O (R1:=λc=>aK (gt F v) As s c<|iR F (rf v.rg) v.hl v.H++Jq9) (R2:=λc=>aK (gt F v) As s c<|((q0 F v<|t.length+1).pre++(q0 F v<|t.length+1).aj.flatten)++[]) (aee ?_) (λ_ c Q=>ac3 (R1:=λa E=>a=.ref (-v.hl)/\aK (gt F v) As s E (iR F (rf v.rg) v.hl v.H++Jq9)) (R2:=λa b E=>a=.ref (-v.hl)/\∃n,b=.ref (-n)/\aK (gt F v) As s E ((iR F (rf v.rg) v.hl v.H++[(-n,.seq Lt [])])++Jq9)) (by
   let e:Gk .Eq (xh J)=O:=by kernel_rfl
   delta CI
   rw[e,]) (c5 ?_) (λa E ⟨ea,V⟩=>c5 ?_) ?_) (λh=>nomatch h) λ_ s2 M2=>AH<|Aw ⟨rfl,M2⟩]
  .let H:(qZ F (rf v.rg) v.hl v.H<|.ok<|.bool O).aw (λ_=>xy Ad<|ij F) w As:=X.av (F:=900) (nt:=λ_ _=>.g [2] [0,1,2,3] [] y0) aF rfl λ_ _=>pF rfl Z9
   rw[H.use (i rfl rfl (by show 460<=500;decide) rfl rfl<|nx M0) λr s' g=>?_]
   let(y,er,_,_,_,M):=aK.run nd (nx M0) g;rw[(O,gV er,rfl,nb M)]
  .let H:(qZ F (rf v.rg) v.hl v.H<|.ok<|rf v.hl).aw (λ_=>gM (xh O)<|ij F) w As:=X.av (F:=900) (nt:=λ_ _=>.g [3] [0,1,2,3] [] y0) aF rfl λ_ _=>pF rfl Z9
   rw[H.use (i rfl rfl (by show 460<=500;decide) rfl rfl<|nx Q) λr s' g=>?_]
   let(y,er,_,_,_,M):=aK.run nd (nx Q) g;rw[(_,iT er,rfl,nb M)]
  .let H:(yz F (rf v.rg) v.hl v.H).aw (λ_=>gM (xh J)<|ij F) w As:=X.av (F:=900) (nt:=λ_ N=>.f [] [0,1,2,3,4] [J,J,J,J,O] []<|yA [N]) aF rfl λ_ _=>pF rfl Z9
   let M4:aK (gt F v) As s E<|((yz F (rf v.rg) v.hl v.H).pre++(yz F (rf v.rg) v.hl v.H).aj.flatten)++Jq9:=V.perm<|.of_eq<|Z8 (·++Jq9) (Az _).symm;rw[aK.gn H nd (i rfl rfl (by show 460<=500;decide) rfl rfl M4) M4 λr s' y er _ M=>?_]
   rw[(_,iT er,ea,y.n 0,rfl,M.perm<|.refl _)]
  .rintro a b E ⟨ea,n,eb,V⟩;subst ea eb;let z:=abl (A:=A.under<|gq F) (H:=v.H) (V.hs (-v.hl,.seq Lt<|aG v.H) q9) (V.hs (-n,.seq Lt []) vX) hu;rw[hH]at z;rw[(z,((V.perm asI).less).perm<|.of_eq (Az _).symm)]
 .let H:(q0 F v<|t.length+1).aw (ra 1) w As:=X.av (afL hm) rfl λ_ _=>pU rfl (by
   let z:=iH w (-v.rg) (aG v.q) (by delta aG;rw[Ap,L];rw[ahT C]);unfold aG at z;rw[Ap,L]at z
   rw[bp z]) λj _=>pU rfl (X.ap (F:=900) (nt:=λγ _=>rgI (Af F j) v 1 (t.length+1).cast As (qY 1 (t.length+1) As) Ck (ii 1<|t.length+1) (match γ with|true=>[0]|false=>[0,2,2,2,0,2]) Ac) lW rfl λγ _=>match γ with
     |true|false=>pU rfl (als ok (t.length+1) 0 As [] (.inr<|anc<|ahU L) (by have:=ok.len;rw[BJ,];rw[and (ahU L) this])) λ_ _=>pF rfl Z9) λ_ _=>pF rfl Z9
  rw[aK.gn H nd (i rfl rfl (AA _) rfl rfl Q) Q λr s' y er _ M=>?_]
  rw[(ch er,y.n 0,M.perm<|.refl _)]
 .let H:(tX F v (t.length+1) st).aw (ra 2) w As:=X.av (afM (x:=x) hm) rfl λ_ _=>pU rfl (by
   let le:∀(n:Nat)(a:Int),(cG<|ii a n).length=n:=λn=>by
    cases n with
    |zero=>rw[λ_=>rfl]
    |succ n ih=>rw[λa=>Z8 (·+1) (ih<|a+1)]
   let z:=iH w (-st) (cG<|ii 1<|t.length+1) (by rw[le,];rw[ani C]);rw[le]at z;rw[bp z]) λ_ _=>pU rfl (by
   let z:=iH w (-v.rg) (aG v.q) (by delta aG;rw[Ap,L];rw[ahT C]);unfold aG at z;rw[Ap,L]at z
   rw[bp z]) λ_ _=>pU rfl (X.ap (F:=900) (nt:=λ_ _=>.v [0] (nwK w v.rg) [] [] λj=>.ob [[],[],[],[],[0],[]] (-j.y.n 0) (.am (zF w).o)<|.u [1,1,1,1,1,1,0,2] (wb (j.y.n 0) (j.t 1) v.rg 0 v.q ((zF w).R<|j.y.n 0)<|kI w (j.y.n 0) (eh v.q [] 0).1 (eh v.q [] 0).2) [1,0] [O,J] [[0]] λx1=>.g [] [0] [[.b 0]] {yA [j.y.n 0]with r:=x1.y.r}) aF rfl λ_ _=>pU rfl (X.ap (F:=900) (nt:=λ_ N=>.g [0] [] [[.l 0]]<|yA [N]) aF rfl λ_ _=>pF rfl Z9) λj _=>pO rfl aE (pU rfl (asG v.q 0 [] 0 (zF w) rfl (by
     let z:=JS (knd:=strKind PW w) (wJ w)
     rw[z]) (ane<|anj C L)) λx1 h=>pF rfl h)) λx2 k=>pU rfl (alu (n:=t.length+1) (by
    let k:kI w (x2.y.n 0) (eh v.q [] 0).1 (eh v.q [] 0).2 (x2.y.r 0):=k;rw[hq]at k
    rw[((by
      let go:∀(l B:!U)(n:Nat),l.Nodup->(∀y∈l,y∉B)->x∈B->(eh (l++[x]) B n).2=n+l.length:=by
       intro l;cases l with
       |nil=>intro B n _ _ hx;show(if x∈B then n else n+1)=n;rw[Z0 hx,]
       |cons y l ih=>intro B n G hd hx;let(h1,k):=AC.mp G;show(eh (l++[x]) (y::B) (if y∈B then n else n+1)).2=_;rw[Z7<|hd y aE,ih (y::B) (n+1) k (λz hz m=>(Ar.mp m).elim (λe=>h1 (e▸hz))<|hd z<|.tail _ hz)<|.tail _ hx,AI];rw[tp]
      let(h1,k):=AC.mp G;show(eh (t++[x]) [x] (if x∈[]then 0 else 0+1)).2=_;rw[Z7 (λG=>nomatch G),go t [x] (0+1) k (λy hy m=>h1 (Au.mp m▸hy)) aE]
      rw[aD [t.length] 0x1111111404111010020]):(eh (x::t++[x]) [] 0).2=t.length+1)]at k
    rw[k]) (ank C)) λ_ _=>pU rfl (mS ok.len I) λ_ _=>pU rfl (bp (abZ w _ _ As (.str x) (by
     delta aG;rw[hq,AE]
     rw[Hl]))) λ_ _=>pG rfl ⟨(by rw[ZY _]),trivial⟩ Z9
  rw[aK.gn H nd (i rfl rfl (AA _) rfl rfl M2) M2 λr s' y er _ M=>?_]
  rw[(_,gV er,aK.fin nd M (y:=yA [st]) (Jq9:=[(-st,.seq Lt<|cG<|ii 1<|t.length+1)]) asJ rfl rfl rfl trivial)]
def asK(gd hl:Nat):X:={ec:=.call (.ref 896) [.none,rf gd,rf hl] [],ai:=530,un:=1400,pre:=[(-hl,.seq Lt [])],ab:=λQ=>.ok<|.bool J,post:=λQ=>[.seq Lt []]}
def tY(v:Ri):X:={ec:=.call (.ref 896) [rf v.rg,rf v.gd,rf v.hl] [],ai:=530,un:=1400,pre:=[(-v.rg,.seq Lt<|aG v.q),(-v.gd,aM<|cL v.a),(-v.hl,.seq Lt<|aG v.H)],aj:=[jj v.W v.a],ab:=λQ=>.ok<|.bool J,post:=λQ=>[.seq Lt<|aG v.q,aM<|cL v.a,.seq Lt<|aG v.H],af:=λQ=>[jj v.W v.a]}
def ahk(ok:vL v)(h:v.q=x::t++[x])(c:(x::t).Nodup)(b:t.length<=4):(tY v).Holds w:=X.ap (F:=900) (nt:=λQ N=>.u [0,0,5,5,6,6,7,7] (gt N v) [3,4,5,6,0,1,2] [O,O,O,O,J,J,J] [[0]] λQ=>.g [] [0,1,2] [[.b 0]] y0) aF rfl λQ Q=>pU rfl (alw ok h c b) λQ Q=>pF rfl Z9
end
def yB:Ea:=match uA 0 with
 |.Compare l _ _ _=>l
 |_=>Bs
def tZ(i:Nat):Pos:=[(ep<|uA 0).p,(ep rtE).p,(sp<|(bf [35,7] PW.main.body).getD Bs).p].getD i Bs
def rtS:Gc:=(bf [35,7] PW.main.body).getD Bs
def avK:rtS=.Return (Y<|.BoolOp .And [.Compare yB [.Eq] [tW]<|tZ 0,uA 1]<|tZ 1) (tZ 2):=by kernel_rfl
def ahl env:CI .Eq tW (eval tW env)=eval tW env:=by
 let e:Gk .Eq tW=O:=by kernel_rfl
 delta CI;rw[e,]
def uC(v:Lw)(nm:U)(r:Nat):List<|SV×SV:=gX v++om nm r
def Ag(v:Lw)(nm:U)(r:Nat)(s0:List<|Option SV):X:={ec:=.am<|fj v.F,ai:=860,pre:=[(-v.F,aI (uC v nm r) s0)],ab:=λQ=>.ok<|rf v.rw,post:=λQ=>[aI (uC v nm r) s0]}
def Ah(v:Lw)(nm:U)(r:Nat)(s0:List<|Option SV)(D:Nat->!U)(Q:aW->Prop):X:={ec:=.am<|fj v.F,ai:=860,pre:=[(-v.F,aI (uC v nm r) s0),(-v.du,nv v.d)],aj:=[gY v.d D],ab:=λy=>.ok<|rf<|y.n 0,post:=λx=>[aI (uC v nm r) s0,nv v.d],ao:=λy=>[-y.n 0],al:=λy=>[.seq Lt<|y.l 0],af:=λy=>[gY v.d D,y.r 0],pure:=Q}
def rcC(v:Lw)(nm:U)(r:Nat)(s0:List<|Option SV)(K:X):X:={ec:=.am<|fj v.F,ai:=860,un:=700,pre:=[(-v.F,aI (uC v nm r) s0),(v.F+904,aJ v.gd)]++K.pre,aj:=K.aj,ab:=λQ=>.ok<|.bool J,post:=λy=>[aI (uC v nm r) s0,aJ v.gd]++K.post y,af:=K.af}
noncomputable def yC(d:Nat->Nat)(D:Nat->!U):!Du:=[⟨d 0,D 0⟩,⟨d 1,D 1⟩,⟨d 2,D 2⟩,⟨d 3,D 3⟩,⟨d 4,D 4⟩]
section
noncomputable def pD8(v:Lw)(x:aQ):Cp:=⟨x.t 1+2,v.F,x.t 1,x.t 1+1⟩
end
def avj{α:Type}{f c g n L t:α}:((([f,L]++[n])++[])++[c,g,t]).Perm<|([f,c,n]++[])++[g,L,t]:=Tr.pmE [[f],[L],[n],[c],[g],[t]] 0xe3018012140200007300a00906200000
def avk{α:Type}{f c g n L t d:α}{A b e A3:!α}:((([f,c,n]++[d])++(A++(b++(e++(A3++[])))))++[g,L,t]).Perm<|([f,c,g,d]++((A++(b++(e++A3)))++[]))++[n,L,t]:=Tr.pmE [[f],[c],[n],[d],[g],[L],[t],A,b,e,A3] 0x1070100162c0a024002980300800020e03002c02c0a0240520c0200000
def avl{α:Type}{f c g n L t d e:α}{A b h A3 G:!α}:((([f,c,g,d]++[e])++((A++(b++(h++A3)))++(G++[])))++[n,L,t]).Perm<|([f,c,g]++([e]++(G++[])))++([d,n,L,t]++(A++(b++(h++A3)))):=Tr.pmE [[f],[c],[g],[d],[e],[n],[L],[t],A,b,h,A3,G] 0x1ac02c0a02500380a0005c03008300800025003802e0358058140018a400c0200000
def avm{α:Type}{f c g e:α}{G R Jq9:!α}:((([f,c,g]++[])++([e]++(G++(R++[]))))++Jq9).Perm<|([f,c,g]++[])++([e]++(G++(R++Jq9))):=Tr.pmE [[f],[c],[g],[e],G,R,Jq9] 0x41c060140120c020000809c060140120c0200000
def avn{α:Type}{f c g e r b i x j du h d n L t:α}{G R A k l A3:!α}:((([f,c,g]++[r,b,i,x,j,du,h])++[])++([e]++(G++(R++([d,n,L,t]++(A++(k++(l++A3)))))))).Perm<|([f,c,g,d,e,du,r]++(G++[]))++([b,i,x,j,h,n,L,t]++(R++(A++(k++(l++A3))))):=Tr.pmE [[f],[c],[g],[r],[b],[i],[x],[j],[du],[h],[e],[d],[n],[L],[t],G,R,A,k,l,A3] 0x2d50501304810781c058120400e030001880aa0300d010030080005aa0a026083c0e03400902206002b50120400e0300a020c0200000
def avo{α:Type}{f c g e r b i x j du h d n L t:α}{G R A k l A3:!α}:((([f,c,g,d,e,du,r]++[])++(G++[]))++([b,i,x,j,h,n,L,t]++(R++(A++(k++(l++A3)))))).Perm<|([f,c,d,t,h,du]++((A++(k++(l++(A3++[]))))++([r,b,i,x,j]++[])))++([g,e,n,L]++(G++R)):=Tr.pmE [[f],[c],[g],[d],[e],[du],[r],[b],[i],[x],[j],[h],[n],[L],[t],G,R,A,k,l,A3] 0x25103dc0300800058b02809020000d81505013000ed0400500c0200016a82809824083c0e0340c02c0a024000c40141c060140400c0200000
def avp{α:Type}{f c d t h du g e n L:α}{A Uq9 G R:!α}:((([f,c,d,t,h,du]++[])++(A++(Uq9++[])))++([g,e,n,L]++(G++R))).Perm<|([f]++[])++([c,d,t,h,du,g,e,n,L]++(A++(Uq9++(G++R)))):=Tr.pmE [[f],[c],[d],[t],[h],[du],[g],[e],[n],[L],A,Uq9,G,R] 0x7b80d0300b50120400e0300a0200600044003dc05a809020000b40c004e60140400c0200000
def avq{α:Type}{f c d t h du g e n L:α}{A Uq9 G R:!α}:((([f]++[])++[])++([c,d,t,h,du,g,e,n,L]++(A++(Uq9++(G++R))))).Perm<|([f,du]++(Uq9++[]))++([c,d,t,h,g,e,n,L]++(A++(G++R))):=Tr.pmE [[f],[c],[d],[t],[h],[du],[g],[e],[n],[L],A,Uq9,G,R] 0x7b80c02d4048100300a020060005a03880003dc0681805a8090200701805010030002110000
def avr{α:Type}{f c d t h du g e n L b:α}{A Uq9 V G R:!α}:((([f,du]++[b])++(Uq9++(V++[])))++([c,d,t,h,g,e,n,L]++(A++(G++R)))).Perm<|([b]++(V++R))++([f,g,e,h]++(G++([c,L,t]++([d,du,n]++(Uq9++A))))):=Tr.pmE [[f],[du],[b],[c],[d],[t],[h],[g],[e],[n],[L],Uq9,V,A,G,R] 0x7b40b180c001d80280100214048040045c020011801e062c0a0240801c06014000b80d0106200000
def avs{α:Type}{f c g L t:α}:([f,c,g,L,t]++[]).Perm<|([f,L]++[])++[c,g,t]:=Tr.pmE [[f],[c],[g],[L],[t]] 0xc400c0128800004c50100300800
def avt{α:Type}{f g e h b c L t:α}{V R G Jq9:!α}:(([b]++(V++R))++([f,g,e,h]++(G++([c,L,t]++Jq9)))).Perm<|(([f,g]++[h])++[])++([c,L,t]++([e,b]++(V++(R++(G++Jq9))))):=Tr.pmE [[b],[f],[g],[e],[h],[c],[L],[t],V,R,G,Jq9] 0x6b00b0280228009400e0004c4180000352801c00600c5010030016a00800
def avu{α:Type}{f g e h b c L t x y q:α}{V W G Jq9:!α}:(([b]++(V++(x::y::(W++[q]))))++([f,g,e,h]++(G++([c,L,t]++Jq9)))).Perm<|(([f,g]++[q,e,h])++(G++[]))++([c,L,t]++([x,y,b]++(V++(W++Jq9)))):=Tr.pmE [[b],[x],[y],[q],[f],[g],[e],[h],[c],[L],[t],V,W,G,Jq9] 0x8380d008801800c58140005e04a00501cc00001062c0a001e04a007018002b80400c0d00800
def avv{α:Type}{f g h c L t:α}{Jq9:!α}:((([f,g,h]++[])++[])++([c,L,t]++Jq9)).Perm<|(([f,c,g,L,t]++[])++[])++(h::Jq9):=Tr.pmE [[f],[g],[h],[c],[L],[t],Jq9] 0x10400427300602804000008398050002120c0200000
def avw{α:Type}{f g e h q c L t:α}{Jq9 G:!α}:((([f,g,q,e,h]++[])++(G++[]))++([c,L,t]++Jq9)).Perm<|(([f,c,g,L,t]++[])++[])++([q,e,h]++(G++Jq9)):=Tr.pmE [[f],[g],[q],[e],[h],[c],[L],[t],G,Jq9] 0x16a018a0200010a500180e01000002d2801c000a8013140400c0200000
def vM(Z:Nat->Fz)(ep k:Nat):Fi:=⟨⟨bI k,(Z k).fa,(Z k).ia,(Z k).tx,(Z k).mo,ep⟩,(Z k).ak⟩
def dJ(Z:Nat->Fz)(ep:Nat):!Fi:=[vM Z ep 0,vM Z ep 1,vM Z ep 2,vM Z ep 3]
def d1(Z:Nat->Fz)(k:Nat):!U:=ja (Z k).ak
def yD(Z:Nat->Fz)(a:Nat->Nat):!Ge:=[⟨bI 0,a 0,d1 Z 0⟩,⟨bI 1,a 1,d1 Z 1⟩,⟨bI 2,a 2,d1 Z 2⟩,⟨bI 3,a 3,d1 Z 3⟩]
def db(fs:!Fi)(F:Fi):!bu:=cw fs 3 F [F.f.nm] F.ak
def lA(Z:Nat->Fz):Bool:=aZ (qX (d1 Z) 4 0)<|bI 4
def D0(b:Bool):Nat->!U
 |0=>zW b
 |_=>[]
noncomputable def vO:!(!U)->!!U
 |[]=>[]
 |[]::r=>vO r
 |(a::s)::r=>(a::s)::vO r
def uD(D:Nat->!U):List<|!U:=vO [D 0,D 1,D 2,D 3,D 4]
theorem pN:∀ds:!Du,wa ds=vO (ds.map (·.ws))
 |[]=>rfl
 |⟨_,[]⟩::r=>pN r
 |⟨_,a::s⟩::r=>Z8 (_::·)<|pN r
structure aiX(w:AW)(Z:Nat->Fz)(ab:Option<|!U)(gs:List<|!U)(H:!U)(D:Nat->!U):Prop where
 ak:∀k<4,(Z k).ak.length<2^20
 us:∀k<4,(d1 Z k).length<=2
 rn:∀a,vk (c7 (cF<|yD Z a) []) ab gs
 rq:∀q,ab=Y q->q≠[]/\q.length<1000
 gl:gs.length<9
 lp:∀v ep l,pM w v (dJ Z ep) l<|db<|dJ Z ep
 go:∀ep,fx (db<|dJ Z ep) (dJ Z ep) [] (D0<|lA Z)=(H,D)
 dl:∀k,(D k).length<64
 due:gs.map d9=(uD D).map d9
 no:ab=As->H=[]
 ring:∀q,ab=Y q->dK λx t=>A6 (q=x::t++[x]) ((x::t).Nodup) (t.length<=4) (∀y∈q,y∈H) (∀y∈q,∃k<4,y=bI k) (∀i y k,q[i]?=Y y->q[i+1]?=Y (bI k)->k<4->y∈d1 Z k)
def tj(i:Nat):Gc:=(bf [35,i] PW.main.body).getD Bs
def avx F:(fj F).cUnits=3:=by kernel_rfl
def aiY:∀{G:List<|!U}{ts:!Rw}{j:Nat}{p:Rw}{k:!U},ts[j]?=Y p->G[j]?=Y k->(-p.t,SO.seq Tt [.bool J,rf p.s])∈sv G ts/\(-p.s,SO.seq Lt (aG<|d9 k))∈sv G ts:=by
 cases _ with
 |nil=>intro _ _ _ _ _ h;cases h
 |cons _ G i=>
  cases _ using A8 with
  |nil=>intro _ _ _ h _;cases h
  |cons _ ts=>
   cases _ using BE with
   |zero=>intro p k H e;cases H;cases e;rw[(aE,ce)]
   |succ j=>intro p k H e;rw[(i (ts:=ts) H e).imp (λm=>.tail _<|.tail _ m) λm=>.tail _<|.tail _ m]
def adn(i:HS s.heap<|sv c ts)(k:HS s.heap<|sv G I)(Q:bh s.heap a<|.seq Lt<|ts.map λp=>rf p.t)(V:bh s.heap b<|.seq Lt<|I.map λp=>rf p.t)(l1:ts.length=c.length)(l2:I.length=G.length)(e:c.map d9=G.map d9)(d:A.units+20<IW):JN A s (.ref a) (.ref b) J:=by
 let(i1,g1,C):=d0 Q;let(L,g2,m):=d0 V;let l:c.length=G.length:=by rw[<-Ap (f:=d9),e,Ap]
 let sz:i1.size=L.size:=by rw[<-Ba,<-Ba,<-Ap (f:=aC) (as:=i1.toList),<-Ap (f:=aC) (as:=L.toList),C,m,Ap,Ap,l1,l2,l]
 let z:=Gu (A:=A) (s:=s) (e:=λ_=>J) g1 g2 sz (ann d) λj q1 q2=>by
  let(x,t,n,x2,_):=ut C q1;let(y,u,B,y2,_):=ut m q2;rw[AG]at n B;let(p,r,rfl):=Bj.mp n;let(p',h,rfl):=Bj.mp B;let lt:j<c.length:=by rw[<-l1];rw[(Dw.mp r).1]
  let w:c[j]?=Y c[j]:=Cc lt;let E:G[j]?=Y (G[j]'(l▸lt)):=Cc _
  let ek:d9 c[j]=d9 (G[j]'(l▸lt)):=by
   let z:(c.map d9)[j]?=(G.map d9)[j]?:=by rw[e,]
   rw[AG,AG,w,E]at z;rw[B3 z]
  let(m1,m2):=aiY r w;let(n1,N):=aiY h E;rw[x2,y2];rw[iO (i _ m1) (k _ n1) (by rw[ano d]) ⟨rfl,λj x y H M t u _ _=>?_⟩]
  match j with
  |0=>cases H;cases M;rw[Fw _]
  |1=>
   cases H;cases M;rw[<-ek]at N;rw[abj (i _ m2) (k _ N) (by rw[anp d])<|ko λx H=>?_]
   let(v,_,rfl):=AM.mp H;rw[.inr ⟨v,rfl⟩]
  |j+2=>cases H
 rw[fW]at z;rw[z]
section
variable{v:Lw}{k:Ri}
def asL:(Ag v nm r s0).aw (λQ=>gM yB (bz v.F)) w l:=X.av (F:=900) (nt:=λQ Q=>.g [1] [0] [] y0) (by
 let(_,_,_,_,_,_,C,_,_,_):=v
 induction C<;>rw[aF]) rfl λQ Q=>pF rfl Z9
def asM(hl:∀k,(D k).length<64):(Ah v nm r s0 D<|uB []<|uD D).aw (λQ=>gM tW (bz v.F)) w l:=X.av (F:=900) (nt:=λQ N=>.u [1,2,2,2,0,3] (z8 (z7.st ⟨N+2,v.F,N,N+1⟩) ⟨N+2,v.F,N,N+1⟩ v.du 0 (fY<|yC v.d D) As (Y<|rf<|v.d 4) [] (gY v.d D)<|uB Ck<|uD D) [4,2,3,1] [O,O,O,J] [[0]] λx=>.g [5,5,5] [0,1,3] [[.b 0],[.b 1]] {x.y with n:=λi=>N+1}) (by
 let(_,_,_,_,_,_,C,_,_,_):=v
 induction C<;>rw[aF]) rfl λQ N=>pU rfl (X.ap (F:=900) (nt:=λγ Q=>vJ {L:=instHAdd.hAdd N 2,F:=v.F,it:=N,ac:=instHAdd.hAdd N 1} v.du 0 (fY<|yC v.d D) As (Y<|rf<|v.d 4) Ck (gY v.d D) (uB Ck<|uD D) (match γ with|true=>[0]|false=>[0,2,2,2,0,2]) [J,J,J,J] asD) lW rfl λγ Q=>(by
 let z:=asF (w:=w) (p:=⟨N+2,v.F,N,N+1⟩) (ik:=v.du) (ds:=yC v.d D) (B:=gY v.d D) (λd m=>by
  rcases Ar.mp m with rfl|m
  .rw[aE]
  rcases Ar.mp m with rfl|m
  .rw[ce]
  rcases Ar.mp m with rfl|m
  .rw[iW]
  rcases Ar.mp m with rfl|m
  .rw[q9]
  cases Au.mp m;rw[vX]) (λd m=>by
  rcases Ar.mp m with rfl|m
  .rw[hl 0]
  rcases Ar.mp m with rfl|m
  .rw[hl 1]
  rcases Ar.mp m with rfl|m
  .rw[hl 2]
  rcases Ar.mp m with rfl|m
  .rw[hl 3]
  cases Au.mp m
  rw[hl 4]) (yC v.d D) 0 As [] rfl (by show 0+5<2^20;decide)
 rw[pN]at z;rw[match γ with
 |true|false=>pU rfl z λQ h=>pF rfl h])) λx h=>pF rfl h
def alx:(rcC {v with rg:=As} nm r s0<|asK v.gd v.hl).aw (λQ=>gM (uA 1)<|bz v.F) w l:=X.av (F:=900) (nt:=λQ Q=>.v [0,1,2,1,0] (asK v.gd v.hl) [2] [] λx=>.g [] [0,1,2] [] x.y) aF rfl λQ Q=>pU rfl (X.ap (F:=900) (nt:=λQ N=>.u [0,0,3,3,4,4,5,5] (iS N v.hl) [1,2,4,0] [O,O,O,J] [] λQ=>.g [] [0] [] y0) aF rfl λQ Q=>pU rfl alv λQ Q=>pF rfl Z9) λQ Q=>pF rfl Z9
def aly(h:(tY {k with rg:=g,gd:=v.gd,hl:=v.hl}).Holds w):(rcC {v with rg:=Y g} nm r s0<|tY {k with rg:=g,gd:=v.gd,hl:=v.hl}).aw (λQ=>gM (uA 1)<|bz v.F) w l:=X.av (F:=900) (nt:=λQ Q=>.v [0,1,2,1,0] (tY {k with rg:=g,gd:=v.gd,hl:=v.hl}) [2,3,4] [[0]] λx=>.g [] [0,1,2,3,4] [[.b 0]] x.y) aF rfl λQ Q=>pU rfl h λQ Q=>pF rfl Z9
end
def t0(F:Nat)(L:AL)(o:Obj):X:={ec:=.am<|fj F,ai:=900,un:=700,pre:=[(-F,aI (f0L L) []),(F+903,qW),(F+904,qW),(L,.am o),(879,cv As)],ab:=λQ=>.ok<|.bool J,post:=λy=>[aI (y.u.fs 0) y.u.x.sl,aJ<|y.n 5,aJ<|y.n 6,.am o,cv<|Y y.cd]}
section
noncomputable def lB(F:Nat)(L:AL)(ns fd gd rw :Nat)(rg:Option Nat)(hl du:Nat)(d:Nat->Nat):Lw:=⟨F,L,ns,fd,gd,rw,rg,hl,du,d⟩
def q4(tu:Nat)(G:List<|!U)(ts:!Rw)(ab:Option<|!U)(rw b:Nat):Rd:=(-tu,.seq Tt [rf rw,sr<|jE ab b])::(-rw,.seq Lt<|ts.map λp=>rf p.t)::(sv G ts++ya ab b)
def avL Z ep:fh (dJ Z ep)=(Z 0).R++((Z 1).R++((Z 2).R++((Z 3).R++[]))):=rfl
end
section
def jW5(d:Nat->Nat)(hl ns:Nat)(xs:!Int)(L:AL)(o:Obj):Rd:=[(-d 1,.seq Lt []),(-d 2,.seq Lt []),(-d 3,.seq Lt []),(-d 4,.seq Lt []),(-hl,.seq Lt []),(-ns,.seq Lt<|cG<|ck xs),(L,.am o),(879,cv As)]
def ahm(hx:xs.length<=63)(hi:I.toList.map aC=cG xs)(ok:∀Z:Nat->Fz,(λk=>(Z k).st)=lh 0 (ck xs) (λ_=>⟨[],[],J⟩)->lG λab gs H D=>aiX w Z ab gs H D):(t0 F L<|lO d I n sl).aq w []<|Y l:=by
 rw[X.am (d:=fj F) rfl λA s nd=>?_]
 let un:A.units<=700:=nd.un.resolve_left (by show¬((700:Nat)=0);decide);let hu:(A.under<|fj F).units+20<IW:=by rw[anr un]
 generalize ho:lO d I n sl=o at*;refine_lift let C:=t0 F L o;?_;let need:∀{D:X}{R0:Rd}{s1:AJ},D.ec=.am (fj F)->D.hd=As->D.dt<=890->(D.un=0\/700<=D.un)->D.fr=[]->aK C (Y l) s s1 ((D.pre++D.aj.flatten)++R0)->D.aA w D.fr (Y l) A (fj F) s1:=λ{D R0 s1} e1 e2 e3 e4 e5 M=>aK.need nd M e1.symm (nd.hd.trans e2.symm) (by rw[e5,];rw[nd.fs]) (ans nd.ai e3)<|e4.imp id λh=>Ax un h
 let M0:=(aK.of nd).perm avs;rw[gL ((by kernel_rfl):fj F=.func [tj 0,tj 1,tj 2,tj 3,tj 4,tj 5,tj 6,.Return (Y (.BoolOp .And [.Compare yB [.Eq] [tW] (tZ 0),uA 1] (tZ 1))) (tZ 2)] (bz F)) (cD (R1:=λs1=>∃ns,aK C (Y l) s s1<|((vw F L ns<|ck xs).pre++(vw F L ns<|ck xs).aj.flatten)++[(F+904,qW),(L,.am o),(879,cv As)]) ?_ λs1 ⟨ns,M1⟩=>cD (R1:=λs2=>dK λZ j=>(λk=>(Z k).st)=lh 0 (ck xs) (λ_=>⟨[],[],J⟩)/\aK C (Y l) s s2 (((vy F L ns j Z).pre++(vy F L ns j Z).aj.flatten)++[(-ns,.seq Lt<|cG<|ck xs),(L,.am o),(879,cv As)])) ?_ ?_)]
 .subst ho
  rw[aK.gn (X.av (F:=900) (nt:=λ_ N=>.u [1,2,3,2,2] (yn L (-N) (lO d I n sl) (cG xs)<|cG qv) [1,2] [J,O] [] λQ=>.u [4,4,4,4] (lsC As (nu Q.y 0) (-Q.t 1) (cG xs++cG qv) As (Y 14)<|cG<|ck xs).kt [3,4] [J,O] [] λx1=>.f [0,1,1] [0,1,5] [O,J,J] [] x1.y) aF rfl λ_ _=>pU rfl (ali hi (by
    show(xs.map _).length+_<=2^24;rw[Ap,show(cG qv).length=14 from rfl]
    rw[anl hx])) λ_ _=>pU rfl (dX (ae6 As w _ _ _ _ _ _ (by
    rw[Ay,];show(xs.map _).length+14<_;rw[Ap,]
    rw[anm hx]) λI e=>by
    rw[show(Y 14:Option Int)=Y ((14:Nat):Int)from rfl,slicePick_upto',FD,H4,e];delta ck cG
    rw[H4,AE]) (λ_ hx=>hx) λ_=>Z9) λ_ _=>pF rfl Z9:(au6 F L (lO d I n sl) xs).aw (ra 0) w<|Y l) nd (need rfl rfl (AA _) (.inl rfl) rfl M0) M0 λr E y er _ M=>?_]
  rw[(ch er,y.n 0,M.perm avj)]
 .rw[aK.gn alj nd (need rfl rfl (AA _) (.inl rfl) rfl M1) M1 λr E y er pu M=>?_]
  let(Z,z1,z2,z3):=pu;rw[(ch er,Z,y.n 4,z3,?_)];let e:cL y.n=cL (nr Z):=by delta cL;rw[z1 0 (by decide),z1 1 (by decide),z1 2 (by decide),z1 3 (by decide)];rfl
  let M:aK C (Y l) s E<|(([(-F,aI (sD L ns) []),(F+903,aJ<|y.n 4),(-ns,SO.seq Lt<|cG<|ck xs)]++[(-y.n 4,aM<|cL y.n)])++(y.r 0++(y.r 1++(y.r 2++(y.r 3++[])))))++[(F+904,qW),(L,.am o),(879,cv As)]:=M;rw[e,z2]at M;rw[M.perm avk]
 rintro s2 ⟨Z,j,hZ,M2⟩;let(ab,gs,H,D,K):=ok Z hZ;rw[cD (R1:=λs3=>n9 λG ep a=>aK C (Y l) s s3<|((vz (lB F L ns j G 0 As 0 0 a) (yD Z a) ab gs).pre++(vz (lB F L ns j G 0 As 0 0 a) (yD Z a) ab gs).aj.flatten)++([(-j,dct (cL<|nr Z) ep),(-ns,.seq Lt<|cG<|ck xs),(L,.am o),(879,cv As)]++((Z 0).R++((Z 1).R++((Z 2).R++(Z 3).R))))) ?_ ?_]
 .rw[aK.gn (X.av (F:=1500) (nt:=λ_ N=>.v [2,4,4,4] (diL j<|cL<|nr Z) [3] [] λQ=>.u [5] (ym (au7 ⟨Q.t 1+1,F,Q.y.n 0,Q.t 1⟩) ⟨Q.t 1+1,F,Q.y.n 0,Q.t 1⟩ j Z (Q.y.n 1) 0 λ_=>0) [6,4,5,1,3] [O,J,O,J,J] [[0]] λx1=>.f [7,7,7,3,3] [0,1,2,3,5] [J,J,O,J,J] [[.b 0],[.b 1]] {x1.y with n:=λi=>match i with|4=>Q.y.n 1|5=>Q.t 1|i=>x1.y.n i}) aF rfl λ_ _=>pU rfl (X.perm [] (l6 (aip w (-j) (cL<|nr Z) (by simp)) rfl (λ_ h=>h) (λ_ h=>h) λ_ _ _ h=>h) rfl rfl (AA _) (.inr rfl) (.of_eq rfl) λy a b c=>⟨y,rfl,rfl,rfl,.swap _ _ _,trivial⟩) λQ _=>pU rfl (X.ap (F:=1500) (nt:=λγ N=>gdI {L:=instHAdd.hAdd (Q.t 1) 1,F:=F,it:=Q.y.n 0,ac:=Q.t 1} j Z (Q.y.n 1) 0 (λx=>0) (match γ with|true=>[0]|false=>[0,2,2,2,0,2]) [J,J,J,J,J] λx=>.g [] [0,1,2,3,4] [[.b 0],[.b 1]] x.y) lW rfl λγ _=>match γ with
   |true|false=>pU rfl (asg K.ak 4 0 _ rfl) λx hx=>pF rfl hx) λx1 h=>pF rfl h.2:(vy F L ns j Z).aw (ra 2) w<|Y l) nd (need rfl rfl (AA _) (.inl rfl) rfl M2) M2 λr E y er pu M=>?_]
  rw[(ch er,y.n 5,y.n 4,y.n,?_)];let M:aK C (Y l) s E<|(([(-F,aI (sD L ns) []),(F+903,aJ j),(F+904,aJ<|y.n 5),(-j,dct (cL<|nr Z)<|y.n 4)]++[(-y.n 5,aM<|cL y.n)])++(((Z 0).R++((Z 1).R++((Z 2).R++(Z 3).R)))++(y.r 0++[])))++[(-ns,.seq Lt<|cG<|ck xs),(L,.am o),(879,cv As)]:=M;rw[pu]at M;rw[M.perm avl]
 rintro s3 ⟨G,ep,a,M3⟩;rw[cD (R1:=λs4=>uH λtu rw B ts sl=>ts.length=gs.length/\aK C (Y l) s s4 (((vD (lB F L ns j G rw (jE ab B) 0 0 a) sl).pre++(vD (lB F L ns j G rw (jE ab B) 0 0 a) sl).aj.flatten)++([(-G,aM<|cL a)]++(jj (d1 Z) a++(q4 tu gs ts ab rw B++([(-j,dct (cL<|nr Z) ep),(-ns,.seq Lt<|cG<|ck xs),(L,.am o),(879,cv As)]++((Z 0).R++((Z 1).R++((Z 2).R++(Z 3).R))))))))) ?_ ?_]
 .rw[(alk (v:=lB F L ns j G 0 As 0 0 a) (γs:=yD Z a) (λe m=>?_) (by show 4<=10;decide) (K.rn a) K.rq K.gl).use (need rfl rfl (AA _) (.inl rfl) rfl M3) λr E g=>?_]
  .clear M3;rcases Ar.mp m with rfl|m
   .rw[K.us 0 (by decide)]
   rcases Ar.mp m with rfl|m
   .rw[K.us 1 (by decide)]
   rcases Ar.mp m with rfl|m
   .rw[K.us 2 (by decide)]
   cases Au.mp m;rw[K.us 3 (by decide)]
  .let(y,er,(ts,t1,t2),_,_,M):=aK.run nd M3 g;rw[(ch er,y.n 0,y.n 1,y.n 2,ts,y.u.x.sl,t1,?_)];let M:aK C (Y l) s E<|(([(-F,aI (yo<|lB F L ns j G (y.n 1) (jE ab<|y.n 2) 0 0 a) y.u.x.sl),(F+903,aJ j),(F+904,aJ G)]++[])++([(-G,aM<|cL a)]++(jj (d1 Z) a++(y.r 0++[]))))++([(-j,dct (cL<|nr Z) ep),(-ns,.seq Lt<|cG<|ck xs),(L,.am o),(879,cv As)]++((Z 0).R++((Z 1).R++((Z 2).R++(Z 3).R)))):=M;rw[t2]at M;rw[M.perm avm]
 rintro s4 ⟨tu,rw,B,ts,sl,ht,M4⟩;rw[@cD PW w A s4 (tj 4) [tj 5,tj 6,.Return (Y<|.BoolOp .And [.Compare yB [.Eq] [tW]<|tZ 0,uA 1]<|tZ 1)<|tZ 2] (bz F) (fj F) (λs5=>lG λhl du d sl=>aK C (Y l) s s5<|((tV (lB F L ns j G rw (jE ab B) hl du d) sl (nr Z) a (d1 Z) ep<|lA Z).pre++(tV (lB F L ns j G rw (jE ab B) hl du d) sl (nr Z) a (d1 Z) ep<|lA Z).aj.flatten)++(jW5 d hl ns xs L o++(q4 tu gs ts ab rw B++((Z 0).R++((Z 1).R++((Z 2).R++(Z 3).R)))))) _ ?_ ?_]
 .rw[aK.gn (X.av (F:=1500) (nt:=λ_ N=>.cx λc=>.f (dg 35 0x1111eccbcc0ccccbcc0ccccbcc0ccc0bbbb) [0,1,2,3,4,5,6,7,8,9] [O,J,J,O,O,O,O,O,O,O] [] {y0 with n:=λi=>N+i,u:={y0.u with x:={sl:=nU c (-(lB F L ns j G rw (jE ab B) 0 0 a).F) 4 sl}}}) (by
   let(_,_,_,_,_,_,rg,_,_,_):=(lB F L ns j G rw (jE ab B) 0 0 a);clear K M3
   induction rg<;>rw[aF]) rfl λ_ _=>pX rfl λ_=>pF rfl Z9:(vD (lB F L ns j G rw (jE ab B) 0 0 a) sl).aw (ra 4) w (Y l)) nd (need rfl rfl (AA _) (.inl rfl) rfl M4) M4 λr E y er _ M=>?_]
  rw[(ch er,y.n 6,y.n 5,y.n,y.u.x.sl,M.perm avn)]
 rintro s5 ⟨hl,du,d,sl5,M5⟩;rw[cD (R1:=λs6=>aK C (Y l) s s6<|((vG (lB F L ns j G rw (jE ab B) hl du d) (dJ Z ep) sl5 [] (D0<|lA Z) H D).pre++(vG (lB F L ns j G rw (jE ab B) hl du d) (dJ Z ep) sl5 [] (D0<|lA Z) H D).aj.flatten)++([(F+904,aJ G),(-G,aM<|cL a),(-ns,.seq Lt<|cG<|ck xs),(L,.am o)]++(jj (d1 Z) a++q4 tu gs ts ab rw B))) ?_ λs6 M6=>?_]
 .let wl:(qX (d1 Z) 4 0).length<2^20:=by have:=K.us 0 (by decide);have:=K.us 1 (by decide);have:=K.us 2 (by decide);have:=K.us 3 (by decide);show(d1 Z 0++(d1 Z 1++(d1 Z 2++(d1 Z 3++[])))).length<_;simp only[Ay,BJ];rw[ant (by assumption) (by assumption) (by assumption) this]
  rw[aK.gn (alm wl rfl) nd (need rfl rfl (AA _) (.inr<|AA _) rfl M5) M5 λr E y er _ M=>?_]
  rw[(ch er,M.perm avo)]
 rw[cD (R1:=λs7=>lG λnm rr cd sl=>aK C (Y l) s s7<|((Ag (lB F L ns j G rw (jE ab B) hl du d) nm rr sl).pre++(Ag (lB F L ns j G rw (jE ab B) hl du d) nm rr sl).aj.flatten)++([(F+903,aJ j),(-j,iw<|dJ Z ep),(879,cv<|Y cd),(-hl,.seq Lt<|aG H),(-du,nv d),(F+904,aJ G),(-G,aM<|cL a),(-ns,.seq Lt<|cG<|ck xs),(L,.am o)]++(fh (dJ Z ep)++(gY d D++(jj (d1 Z) a++q4 tu gs ts ab rw B))))) ?_ ?_]
 .let hh:=(X.av (F:=900) (nt:=λ_ _=>.v [2,3,3,3] (zT (lB F L ns j G rw (jE ab B) hl du d).fd (oj<|dJ Z ep)<|uz<|dJ Z ep) [2] [] λQ=>.use [7] (vF (lB F L ns j G rw (jE ab B) hl du d) (dJ Z ep) (Q.y.n 0) 0 As sl5 [] (D0<|lA Z) ((fx (db<|dJ Z ep) (dJ Z ep) []<|D0<|lA Z).fst)<|(fx (db<|dJ Z ep) (dJ Z ep) []<|D0<|lA Z).snd) (Y [bz (lB F L ns j G rw (jE ab B) hl du d).F]) [0,6,1,2,3,4,5] [J,J,J,J,J,J,J] [[0],[1]] [] λx=>.g [] [0,1,2,3,4,5] [[.b 0],[.b 1]] x.y) aF rfl λ_ _=>pU rfl afC λQ _=>⟨trivial,asC (K.lp _ ep l) (dJ Z ep) 0 As sl5 [] (D0<|lA Z) rfl (Bh _) (λe=>ZZ e (λh=>nomatch h)) (by show 0+4<2^20;decide) (λk=>by
   match k with
   |0=>show(zW<|lA Z).length+4<2^20;cases lA Z<;>decide
   |k+1=>show 0+4<2^20;decide),λ_ _=>pF rfl trivial⟩:(vG (lB F L ns j G rw (jE ab B) hl du d) (dJ Z ep) sl5 [] (D0<|lA Z) (fx (db<|dJ Z ep) (dJ Z ep) []<|D0<|lA Z).1 (fx (db<|dJ Z ep) (dJ Z ep) []<|D0<|lA Z).2).aw (ra 6) w<|Y l)
  rw[K.go]at hh;rw[aK.gn hh nd (need rfl rfl (AA _) (.inr<|AA _) rfl M6) M6 λr E y er _ M=>?_]
  rw[(ch er,y.s 0,y.n 5,y.cd,y.u.x.sl,M.perm avp)]
 rintro s7 ⟨nm,rr,cd,sl7,M7⟩;refine_lift let v:=lB F L ns j G rw (jE ab B) hl du d;?_;refine_lift let C:=t0 F L o;?_;refine_lift let Jq9:Rd:=[(F+903,aJ j),(-j,iw<|dJ Z ep),(879,cv<|Y cd),(-hl,.seq Lt<|aG H),(F+904,aJ G),(-G,aM<|cL a),(-ns,.seq Lt<|cG<|ck xs),(L,.am o)]++(fh (dJ Z ep)++(jj (d1 Z) a++q4 tu gs ts ab rw B));?_;refine_lift let J9:Rd:=[(-j,iw<|dJ Z ep),(-du,nv d),(-ns,.seq Lt<|cG<|ck xs)]++(gY d D++fh (dJ Z ep));?_;refine_lift let R9:Nat->!SV->Rd->Rd:=λn ys V=>([(-n,.seq Lt ys)]++(V++q4 tu gs ts ab rw B))++([(-F,aI (uC v nm rr) sl7),(F+904,aJ G),(-G,aM<|cL a),(-hl,.seq Lt<|aG H)]++(jj (d1 Z) a++([(F+903,aJ j),(L,.am o),(879,cv<|Y cd)]++J9)));?_
 let gv:C.ax (Y l) s (.ok<|.ret<|.bool J)=C.ax (Y l) s (.ok<|.ret<|.bool J):=rfl
 rw[AR (Bk (aak (abU (R1:=λs9=>n9 λn ys V=>aK C (Y l) s s9<|R9 n ys V) (R2:=λv E=>C.ax (Y l) s (.ok<|.ret v) E) (abT
  (R1:=λb s8=>b=.ref (-rw)/\aK C (Y l) s s8 (((Ah v nm rr sl7 D<|uB []<|uD D).pre++(Ah v nm rr sl7 D<|uB []<|uD D).aj.flatten)++Jq9))
  (R2:=λb b' s9=>b=.ref (-rw)/\dK λn ts'=>A3 (b'=.ref (-n)) (ts'.length=(uD D).length)<|aK C (Y l) s s9<|R9 n (ts'.map λp=>rf p.t)<|sv (uD D) ts')
  (R3:=λb s9=>b=.bool J/\n9 λn ys V=>aK C (Y l) s s9<|R9 n ys V) (ahl _) (λ_ _=>rfl) (c5 ?_) (λb s8 ⟨eb,M8⟩=>c5 ?_) ?_) λs9 ⟨n,ys,V,M9⟩=>c5 ?_)) (?_) λ_ _ z=>z)]
 .rw[aK.gn asL nd (need rfl rfl (by show 860<=890;decide) (.inl rfl) rfl M7) M7 λr E y er _ M=>?_]
  rw[(_,iT er,rfl,M.perm avq)]
 .rw[aK.gn (asM K.dl) nd (need rfl rfl (by show 860<=890;decide) (.inl rfl) rfl M8) M8 λr E y er pu M=>?_]
  let(ts',t1,t2,t3):=pu;rw[(_,iT er,eb,y.n 0,ts',rfl,t1,?_)];let M:aK C (Y l) s E<|(([(-F,aI (uC v nm rr) sl7),(-du,nv d)]++[(-y.n 0,SO.seq Lt<|y.l 0)])++(gY d D++(y.r 0++[])))++Jq9:=M;rw[t2,t3]at M;rw[M.perm avr]
 .rintro b b' s9 ⟨eb,n,ts',eb',hl',M9⟩;clear M3 M4 M5 M6 M7;subst eb eb';let hs:=λq m=>M9.hs q<|Ao _<|.tail _<|Aq _<|Aq _ m
  let z:=adn (A:=A.under<|fj F) (a:=-rw) (b:=-n) (λq m=>hs q<|.tail _<|.tail _<|Ao _ m) (λq m=>M9.hs q<|Ao _<|.tail _<|Aq _<|Ao _ m) (hs (-rw,.seq Lt<|ts.map λp:Rw=>rf p.t) ce) (M9.hs (-n,.seq Lt<|ts'.map λp:Rw=>rf p.t) aE) ht hl' K.due hu;rw[z _ w _ _ ⟨rfl,n,_,_,M9⟩]
 .let fin:∀{J':Rd}{E:AJ}{fs:List<|SV×SV},aK C (Y l) s E (((([(-F,aI fs sl7),(F+903,aJ j),(F+904,aJ G),(L,.am o),(879,cv<|Y cd)]:Rd)++[])++[])++J')->C.ax (Y l) s (.ok<|.ret<|.bool J) E:=λ{J' E fs} M=>aK.fin nd M (y:={y0 with n:=λi=>(match i with|1=>cd.K|2=>cd.k1|3=>cd.k2|4=>cd.k3|5=>j|_=>G),z:=λ_=>cd.z,u:={y0.u with fs:=λ_=>fs,x:={sl:=sl7}}}) (.refl _) rfl rfl rfl Z9;clear M3 M4 M5 M6 M7;cases hres:ab with
  |none=>
   let eH:=K.no hres;clear K;subst hres eH;let M10:=M9.perm avt;rw[aK.gn (alx (v:=v) (nm:=nm) (r:=rr) (s0:=sl7)) nd (need rfl rfl (by show 860<=890;decide) (.inr (by show 700<=700;decide)) rfl M10) M10 λr E y er _ M=>?_]
   rw[(_,gV er,fin<|M.perm avv)]
  |some q=>
   let(x,t,hq,h1,h2,h3,h4,h5):=K.ring q hres;clear K;subst hres;let M10:=M9.perm avu
   let hk:=aly (w:=w) (v:=v) (nm:=nm) (r:=rr) (s0:=sl7) (l:=Y l) (g:=B) (k:=⟨B,G,hl,a,d1 Z,q,H⟩) (ahk (t:=t) ⟨by
    rw[hq,Ay,AI]
    rw[anq h2],h3,h4,h5⟩ hq h1 h2)
   rw[aK.gn hk nd (need rfl rfl (by show 860<=890;decide) (.inr (by show 700<=700;decide)) rfl M10) M10 λr E y er _ M=>?_]
   rw[(_,gV er,fin<|M.perm avw)]
 .rintro f E ⟨v,e,g⟩;clear K M3 M4 M5 M6 M7;subst e;rw[AH<|Aw ⟨v,rfl,g⟩]
end
def asN(L:AL)(o:Obj):X:={ec:=.call (.ref 901) [.ref L] [],ai:=905,un:=10,pre:=[(L,.am o),(879,cv As)],ab:=λQ=>.ok<|.bool J,post:=λy=>[.am o,cv<|Y y.cd]}
def aiZ:Prop:=∀(w:AW)(x:!Int)(Z:Nat->Fz),(λk=>(Z k).st)=lh 0 (ck x) (λQ=>⟨[],[],J⟩)->lG λb G H D=>aiX w Z b G H D
section
noncomputable def avy(o:Obj):Bool:=match o.cls with
 |.type n=>match decide (n="list")with
  |true=>O
  |false=>J
 |_=>J
noncomputable def sL(f:Obj->Bool):KT->Bool
 |.nil=>J
 |.node v l r=>(match v with
  |some o=>f o
  |none=>J)&&(sL f l&&sL f r)
theorem pP:∀{t:KT}{a:Nat}{o:Obj},t.get a=Y o->sL f t=J->f o=J
 |.nil,a,o,h,_=>by cases h
 |.node v l r,a,o,h,k=>by
  let(c,b):=iD k;let(b,k3):=iD b;rw[FX]at h;split at h
  .subst h;rw[c]
  .split at h
   .rw[pP h b]
   .rw[pP h k3]
def ahn(P:aiZ):uN:=by
 intro w s L o n c St G hg d I Q l hn;let(C,i,V,M):=o;obtain rfl:C=.type "list":=I;obtain rfl:V=.seq (c.map λp=>.int p.1 p.2).toArray n:=Q;let hi:(c.map λp:Int×Nat=>FK p.1 p.2).toArray.toList.map aC=cG (c.map (·.1)):=by rw[FD,BW];delta cG;rw[BW,];rfl
 let j:L≠879:=λe=>by subst e;rw[G]at d;rw[nomatch d]
 let H:=(X.aB (F:=900) (nt:=λ_ N=>.use [0,0,3,3] (t0 N L<|lO i ((D6 (λp=>FK p.fst p.snd) c).toArray) n M) (Y []) [2,3,4,0,1] [O,O,O,J,J] [] [] λx=>.g [] [0,1] [] x.y) aF rfl λ_ N=>⟨trivial,ahm (by rw[Ap,];rw[l]) hi<|P w<|D6 (λx=>x.fst) c,λ_ _=>pF rfl trivial⟩:(asN L<|lO i ((D6 (λp=>FK p.fst p.snd) c).toArray) n M).aq w []<|Y [])
 let nl:(fD w.params).get L=As:=by
  cases e:(fD w.params).get L with
  |none=>rfl
  |some o'=>let g:=Kc St.kt e;rw[DU,Bp]at g;rw[d]at g;cases g;rw[ZZ (pP (f:=avy) e (by kernel_rfl)) A9]
 let own:∀a,(asN L<|lO i (c.map λp:Int×Nat=>FK p.1 p.2).toArray n M).own a->a=L\/a=879:=λa h=>by
  rcases h with h|h
  .rcases Ar.mp (show a∈[L,879]from h)with h|h
   .rw[.inl h]
   .rw[.inr<|Au.mp h]
  .rw[nomatch h]
 rw[BK (H callerA _ s ⟨rfl,rfl,λk e=>(by cases e;rfl),by show 1+claimMargin+905<jc;decide,.inr (by show 4<=10;decide),St,λq A=>?_,?_,λa B=>?_,λk l=>?_⟩) ?_]
 .rcases Ar.mp (show q∈[(L,_),(879,cv As)]from A)with rfl|A
  .rw[(_,d,rfl)]
  .cases Au.mp A;rw[(_,G,rfl)]
 .rw[AC.mpr ⟨λh=>j<|Au.mp h,AC.mpr ⟨BF,AS⟩⟩]
 .rcases B with B|⟨k,e,h⟩
  .rcases own a B with rfl|rfl
   .rw[nl]
   .kernel_rfl
  .cases e;rw[nomatch h]
 .cases l;rw[(trivial,λ_ h=>nomatch h)]
 .rintro r s' ⟨E,fr,y,P⟩;let(o1,g1,e1):=P.hs (L,.am<|lO i (c.map λp:Int×Nat=>FK p.1 p.2).toArray n M) aE;obtain rfl:o1=_:=e1;let(o2,g2,e2):=P.hs (879,cv<|Y y.cd) ce;let(v,rfl,_):=eX e2;rw[(gV P.ab,λb o e hb=>?_,⟨v,g2⟩,E.os,E.g)];by_cases h:b=L
  .subst h;rw[d]at e;cases e;rw[g1]
  .rw[E.keep b o e λm=>m.elim (λm=>(own b m).elim h hb) λ⟨k,e,h⟩=>by cases e;rw[nomatch h]]
end
noncomputable def nl(l:!Nat):Nat:=l.count 10
def kJ:∀(l:!Nat)(ln:Int),xO l ln=ln+nl l:=by
 cases _ with
 |nil=>intro ln;rw[(ES ln).symm]
 |cons c l i=>intro ln;show xO l (tc c ln)=_;rw[i,];delta nl tc;rw[B4,];cases c==10<;>simp<;>rw[((D8 ln 1 (BO 10 l)).trans (Z8 (ln+·) (EK 1 (BO 10 l))))]
def bg a b:nl (a++b)=nl a+nl b:=AQ
def aho c l:nl (c::l)=nl [c]+nl l:=by show nl ([c]++l)=_;rw[bg,]
inductive qx:!Nat->!Nat->!Nat->Prop
 |sp:qx [32] [32] []
 |nl:qx [10] [10] []
 |rem:qx [35,117,115,101,32,97,32,98,10] [35,117,115,101,32,97,32,98,10] []
 |tab:qx [9,32,35,32,39,10] [9] [32,35,32,39,10]
 |cr:qx [13,10,32] [13] [10,32]
inductive Bl:!Nat->Prop
 |n:Bl []
 |t:Bl [32,35,32,39,10]
 |c:Bl [10,32]
def qx.bl(G:qx g h b):g=h++b/\Bl b:=by
 cases G with
 |sp=>rw[(rfl,.n)]
 |nl=>rw[(rfl,.n)]
 |rem=>rw[(rfl,.n)]
 |tab=>rw[(rfl,.t)]
 |cr=>rw[(rfl,.c)]
abbrev wg(ln:Int)(r:!Nat)(o:Option U):LS:=⟨.str<|T [32],T [],ln,r,O,T [32],o⟩
section
def qy(H:Bl b)(h:∀o,LG w (wg (ln+nl b) r o) a ab):LG w (wg ln (b++r) o) a ab:=by
 cases H with
 |n=>rw[show ln+(nl []:Nat)=ln from ES ln]at h;rw[h o]
 |t=>
  let d:LG w (wg ln (35::([32,39,10]++r))<|Y<|T [32]) a ab:=(h _).map λQ Q x=>ake (r2:=r) rfl x
  rw[d.map λQ Q x=>aeE (by decide+kernel) (by decide+kernel) x]
 |c=>rw[((h _).map λQ Q x=>aeE (by decide+kernel) (by decide+kernel) x).map λQ Q x=>akd x]
def iU(h:t≠[]\/q=J):ary t q=.str (T t):=by
 cases t with
 |nil=>cases q with
  |true=>rfl
  |false=>rw[h.elim (λh=>(h rfl).elim) λh=>nomatch h]
 |cons c t=>rfl
def ai0(h:t≠[]\/q=J):∃W:Wt,W.t=t/\W.q=q:=by
 cases t with
 |nil=>cases q with
  |true=>rw[(.e,rfl,rfl)]
  |false=>rw[h.elim (λh=>(h rfl).elim) λh=>nomatch h]
 |cons c t=>rw[(.k c t q,rfl,rfl)]
def afN(x:qx g d b)(h:t≠[]\/q=J)(z:t.length<2^20):LG w (WS t ln (g++r) q e n) ⟨rO<|Y<|T [32],ln+nl d,b++r⟩<|.str<|T t:=by
 let(W,rfl,rfl):=ai0 h;let c:((T W.t).length:Int)<2^63:=Gy.mpr<|Dj z (by decide);let e0:ln+(0:Nat)=ln:=ES ln;clear z;cases x with
 |sp=>rw[(W.t,W.q,e,_,λv=>(by rw[show nl [32]=0 from rfl,e0];rw[pg c (by decide+kernel) (by decide+kernel)]),iU h)]
 |nl=>rw[(W.t,W.q,e,_,λv=>(λH i s=>ke (D:=(v.rd 10<|Ck.append r)) (qs:=[((T W.t).length:Int)<2^63,aZ [S "a",S "c"] (T [97])=J]) (n:=(dg 242 0x520110001000015120110001000015222010001010010001502011000100001502011000100001550051614f777201100010000150201100010000152011000100001502011000100001520110001000015020110001000015201100010000150201100010000152220100010100100010201100010000150555)) (by induction W<;>rw[aF]) (bv w v.ins v.d s H i) ⟨c,u9,trivial⟩:LX w v ⟨.str<|T [97],T W.t,ln,10::(Ck.append r),W.q,e,Y n⟩ ⟨.str<|T [32],T W.t,ln+1,Ck.append r,W.q,e,Y<|T [10]⟩),iU h)]
 |rem=>rw[(W.t,W.q,e,_,λv=>ako (r2:=r) c rfl,iU h)]
 |tab=>rw[(W.t,W.q,e,_,λv=>(by rw[show nl [9]=0 from rfl,e0];rw[pg c (by decide+kernel) (by decide+kernel)]),iU h)]
 |cr=>rw[(W.t,W.q,e,_,λv=>(by rw[show nl [13]=0 from rfl,e0];rw[pg c (by decide+kernel) (by decide+kernel)]),iU h)]
def alz(h:t≠[]\/q=J):LG w (WS t ln [] q e n) ⟨rO As,ln,[]⟩<|.str<|T t:=by let(W,rfl,rfl):=ai0 h;rw[(W.t,W.q,e,_,λv=>(λb H s=>ke (D:=v.rn) (qs:=[aZ [S "a",S "c"] (T [97])=J]) (n:=(dg 148 0x22201000101001000150051614f777201100010000150201100010000152011000100001502011000100001520110001000015020110001000015201100010000150201100010000150555)) (by induction W<;>rw[aF]) (pd w v.ins v.d H) ⟨u9,trivial⟩:LX w v ⟨.str<|T [97],T W.t,ln,[],W.q,e,Y n⟩ ⟨.none,T W.t,ln,[],W.q,e,Y<|T []⟩),iU h)]
def wq:Bool->Nat
 |false=>0
 |true=>1
def acr way (z:cs.length<2^19)(h:∀q e n,(cs≠[]\/q=J)->LG w (WS cs (ln+nl cs) r q e n) a ab):LG w (wg ln (gg way cs++r) o) a ab:=by
 let I:([]:!Nat).length+cs.length<2^20:=by rw[anB z]
 let Q:∀g:Bool,LG w (wg ln (gg (wq g) cs++r) o) a ab:=λg=>by
  let H:LG w (QS g [] ln (cs.flatMap (kX<|wq g)++(qc g::r)) O (T [32])<|T [qc g]) a ab:=by
   let b:=h J;cases g with
   |false=>
    rw[sf 0 cs [] ln O _ _ I (.inl<|Bd 1) λq V e n=>?_]
    rw[kJ,];rw[(b e _<|.inr rfl).map λV V x=>ma (g:=O) x]
   |true=>
    rw[sf 1 cs [] ln O _ _ I (.inl<|AA 1) λq V e n=>?_]
    rw[kJ,];rw[(b e _<|.inr rfl).map λV V x=>ma (g:=J) x]
  let E:gg (wq g) cs++r=qc g::(cs.flatMap (kX<|wq g)++(qc g::r)):=by
   clear H I;cases g with
   |false=>show(39::(_++[39]))++r=_;rw[DS,AD];rfl
   |true=>show(34::(_++[34]))++r=_;rw[DS,AD];rfl
  rw[E,];rw[H.map λV V x=>aeF x]
 match way with
 |0=>rw[Q O]
 |1=>rw[Q J]
 |m+2=>
  clear Q I;cases cs using A8 with
  |nil=>
   let H:LG w (QS J [] ln (34::r) O (T [32])<|T [34]) a ab:=(by
    let z:=h J (T [32]) (T [34]) (.inr rfl);rw[show ln+(nl []:Nat)=ln from ES ln]at z
    rw[z]:LG w (WS [] ln r J (T [32])<|T [34]) a ab).map λV V x=>ma (g:=J) x
   rw[H.map λV V x=>aeF (g:=J) x]
  |cons c l=>
   let E:gg (m+2) (c::l)++r=92::(c::(l.flatMap (kX<|m+2)++r)):=rfl
   let H:LG w ⟨.str<|T [92],T [],ln,c::(l.flatMap (kX<|m+2)++r),O,T [97],Y<|T [92]⟩ a ab:=by
    rw[arA (Nat.zero_lt_succ _) λe n=>sf (m+2) l [c] _ O e n (by rw[AI]at z;rw[anC z]) (.inr rfl) λq b e n=>?_]
    rw[kJ,];let d:tc c ln+nl l=ln+nl (c::l):=by rw[<-kJ,<-kJ];rfl
    rw[d,];rw[h q e n<|.inl (λh=>nomatch h)]
   rw[H.map λV V x=>akf x]
def alA(h:∀e n,LG w (WS [117,115,101] ln r O e n) a ab):LG w (wg ln ([117,115,101]++r) o) a ab:=by
 let H:LG w (WS [117] ln (115::101::r) O (T [32])<|T [117]) a ab:=((h _ _).map λQ Q x=>aeJ (b:=O) (by decide+kernel) x).map λQ Q x=>aeJ (b:=J) (by decide+kernel) x
 rw[H.map λQ Q x=>akg x]
end
def alB way c:nl (kX way c)=nl [c]:=by
 match way with
 |0=>
  show nl (if c=39 then[39,92,39,39]else[c])=_;split
  .rename_i h;subst h;rfl
  .rfl
 |1=>
  show nl (if c=92\/c=34 then[92,c]else[c])=_;split
  .rename_i h;rcases h with rfl|rfl<;>rfl
  .rfl
 |m+2=>
  show nl ([92]++[c])=_
  rewrite [bg]
  rw[Bh _]
def mT way:∀cs:!Nat,nl (cs.flatMap<|kX way)=nl cs:=by
 cases _ with
 |nil=>rw[rfl]
 |cons c cs i=>rw[Cn,bg,i,alB,<-aho]
def qz way cs:nl (gg way cs)=nl cs:=by
 match way with
 |0=>show nl ([39]++cs.flatMap (kX 0)++[39])=_;rw[bg,bg,mT];rw[Bh _]
 |1=>show nl ([34]++cs.flatMap (kX 1)++[34])=_;rw[bg,bg,mT];rw[Bh _]
 |m+2=>
  cases cs with
  |nil=>rfl
  |cons c l=>rw[mT (m+2)<|c::l]
structure Pc where
 u:Option<|Option Nat
 way:Nat
 wd:!Nat
 g:!Nat
 g1:!Nat
 b:!Nat
def n5:Option Nat->!Nat
 |none=>[117,115,101]
 |some w=>gg w [117,115,101]
def Pc.pre(p:Pc):!Nat:=match p.u with
 |none=>[]
 |some u=>n5 u++p.g
def Pc.sp(p:Pc):!Nat:=gg p.way p.wd
noncomputable def Pc.tx(p:Pc):!Nat:=p.pre++(p.sp++p.g)
def Pc.it(p:Pc)(m:Nat):It:=⟨p.u.isSome,p.wd,1+(m+nl (p.pre++p.sp++p.g1))⟩
def dP(ps:!Pc):!Nat:=ps.flatMap Pc.tx
noncomputable def kK:Nat->!Pc->!It
 |_,[]=>[]
 |m,p::d=>p.it m::kK (m+nl p.tx) d
structure Pc.Ok(p:Pc):Prop where
 wd:p.wd.length<2^19
 no:p.u=As->p.wd≠[117,115,101]
 gap:qx p.g p.g1 p.b\/(A4 (p.u=As) (p.g=[]) (p.g1=[])<|p.b=[])
noncomputable def n6:!Pc->Prop
 |[]=>True
 |p::d=>A3 p.Ok (p.g=[]->d=[])<|n6 d
section
variable{r b0 g g1 b:!Nat}
def ST:SV:=.str<|T [32]
structure q5(l:Lv):Prop where
 n1:l.cs.length≠1
 len:l.cs.length<2^20
def avz(a:Int) x y z:a+x+y+z=a+(x+y+z:Nat):=((Z8 (·+(z:Int))<|D8 a x y).trans<|D8 a (x+y) z)
def mU(ok:q5 l)(H:Bl b0)(c:qx g g1 b)(z:cs.length<2^19)(d:b0++(gg way cs++(g++r))<:+l.cs):RT w l ⟨ST,ln,b0++(gg way cs++(g++r))⟩ ⟨rO<|Y<|T [32],ln+(nl b0+nl cs+nl g1:Nat),b++r⟩<|.str<|T cs:=by rw[nS (Y<|T [32]) (qy H λo=>acr way z λq e n h=>?_) ok.n1 ok.len d];let x:=afN (w:=w) (r:=r) (ln:=ln+nl b0+nl cs) (e:=e) (n:=n) c h<|Dj z (by decide);rw[avz]at x;rw[x]
def ahp(ok:q5 l)(H:Bl b0)(z:cs.length<2^19)(c:b0++(gg way cs++[])<:+l.cs):RT w l ⟨ST,ln,b0++(gg way cs++[])⟩ ⟨rO As,ln+(nl b0+nl cs:Nat),[]⟩<|.str<|T cs:=by rw[nS As (qy H λo=>acr way z λq e n h=>?_) ok.n1 ok.len c];rw[show ln+(nl b0+nl cs:Nat)=ln+(nl b0:Int)+nl cs by rw[(D8 ln (nl b0)<|nl cs).symm],];rw[alz h]
def alC(ok:q5 l)(H:Bl b0)(c:qx g g1 b)(d:b0++(n5 u++(g++r))<:+l.cs):RT w l ⟨ST,ln,b0++(n5 u++(g++r))⟩ ⟨rO<|Y<|T [32],ln+(nl b0+nl (n5 u)+nl g1:Nat),b++r⟩<|.str<|S "use":=by
 let E:S "use"=T [117,115,101]:=rfl;cases u with
 |none=>rw[nS (Y<|T [32]) (qy H λo=>alA λe n=>?_) ok.n1 ok.len d];let x:=afN (w:=w) (r:=r) (ln:=ln+nl b0) (t:=[117,115,101]) (q:=O) (e:=e) (n:=n) c (.inl (λh=>nomatch h)) (by decide);rw[show ln+(nl b0:Int)+nl g1=ln+(nl b0+nl (n5 As)+nl g1:Nat)by show _=ln+(nl b0+0+nl g1:Nat);rw[D8 ln (nl b0)<|nl g1]]at x;rw[x]
 |some way=>let x:=mU (w:=w) (ln:=ln) (r:=r) (way:=way) (cs:=[117,115,101]) ok H c (by decide) d;rw[show nl (n5<|Y way)=nl [117,115,101]from qz way _,];rw[x]
def alD(ok:q5 l)(h:Bl b0)(H:b0<:+l.cs):RT w l ⟨ST,ln,b0⟩ ⟨rO As,ln+(nl b0:Nat),[]⟩ .none:=by
 let x:LG w (⟨ST,ln,b0++[]⟩:Tx).s ⟨rO As,ln+(nl b0:Nat),[]⟩ .none:=qy h λo=>⟨[],O,_,_,λv=>akc,rfl⟩
 rw[Az]at x;rw[nS As x ok.n1 ok.len H]
def acs(ok:q5 l):RT w l ⟨.none,ln,[]⟩ ⟨rO As,ln,[]⟩ .none:=nS As ⟨[],O,_,_,λv=>akp,rfl⟩ ok.n1 ok.len (Jx ..)
end
structure Fm where
 F:Fi
 ps:!Pc
 m:Nat
 b:!Nat
def Fm.lv(c:Fm):Lv:=⟨c.F.f.nm,c.F.f.tx,c.b++dP c.ps,1+(c.m:Int),0,0,0⟩
noncomputable def bN(ps:!Pc):Nat:=(ps.filter (·.u.isSome)).length
structure FiP(F:Fi)(ps:!Pc):Prop where
 ok:n6 ps
 tx:F.f.tx=dP ps
 ak:F.ak.map (·.1)=kK 0 ps
 n1:F.f.tx.length≠1
 len:F.f.tx.length<900
 us:bN ps<=2
 ws:ps.length<=4
structure mW(fs:!Fi)(c:Fm):Prop where
 mem:c.F∈fs
 bl:Bl c.b
 ok:n6 c.ps
 suf:c.b++dP c.ps<:+c.F.f.tx
 tot:c.m+nl c.b+nl (dP c.ps)=nl c.F.f.tx
 lv:q5 c.lv
 nm:c.F.f.nm.length<=1000000
 us:bN c.ps<=2
def Fm.nx(c:Fm)(p:Pc)(ps:!Pc):Fm:=⟨c.F,ps,c.m+nl c.b+nl (p.pre++p.sp++p.g1),p.b⟩
def sM{p:Pc}(h:p.Ok):nl p.tx=nl (p.pre++p.sp++p.g1)+nl p.b:=by
 delta Pc.tx;rw[bg,bg,bg,bg];have:nl p.g=nl p.g1+nl p.b:=by rw[(h.gap.elim (λg=>g.bl.1) λ⟨_,H,e,i⟩=>by rw[H,e,i];rfl),bg]
 rw[anD this]
def dd p ps:dP (p::ps)=p.tx++dP ps:=Cn ..
section
theorem mW.nx(ok:mW fs c)(h:c.ps=p::ps):mW fs<|c.nx p ps:=by
 let(F,_,m,b):=c;obtain rfl:_=p::ps:=h;let(Q,o2,o3):=ok.ok;let d:=Q.gap.elim (λg=>g.bl.2) λ⟨_,H,e,i⟩=>by rw[i,];rw[.n]
 rw[(ok.mem,d,o3,FC ?_ ok.suf,?_,⟨ok.lv.n1,ok.lv.len⟩,ok.nm,Ax ?_ ok.us)]
 .rw[(b++(p.pre++(p.sp++p.g1)),?_)];rw[dd,];delta Pc.tx;rw[(Q.gap.elim (λg=>g.bl.1) λ⟨_,H,e,i⟩=>by rw[H,e,i];rfl),];simp only[AD];rfl
 .let t:=ok.tot;rw[dd,bg,sM Q]at t;rw[anE t]
 .delta bN;rw[Dk,];split
  .rw[CE _]
  .rw[AA _]
def sN(m x:Nat):1+(m:Int)+(x:Nat)=1+((m+x:Nat):Int):=anF
end
noncomputable def cA(c:Fm)(bw:!Fm):!U:=c.F.f.nm::bw.map λf=>f.F.f.nm
noncomputable def gu(bw:!Fm):Nat:=3-bw.length
def im(fs:!Fi)(c:Fm)(bw:!Fm):!bu:=(kK (c.m+nl c.b) c.ps).flatMap<|fS fs (gu bw) c.F.f.nm<|cA c bw
noncomputable def de(fs:!Fi):Fm->!Fm->!bu
 |c,[]=>im fs c []
 |c,f::r=>im fs c (f::r)++de fs f r
def kL fs c bw:de fs c bw=im fs c bw++match bw with|[]=>[]|f::r=>de fs f r:=by
 cases bw using A8 with
 |nil=>rw[(Az _).symm]
 |cons=>rfl
noncomputable def Cu:Nat->Nat
 |0=>1
 |d+1=>2+2*Cu d
noncomputable def bY:Fm->!Fm->Nat
 |c,[]=>bN c.ps*Cu 3+1
 |c,f::r=>bN c.ps*Cu (gu<|f::r)+1+bY f r
def cH c bw:bY c bw=bN c.ps*Cu (gu bw)+1+match bw with|[]=>0|f::r=>bY f r:=by induction bw<;>rfl
structure kM(fs:!Fi)(c:Fm)(bw:!Fm):Prop where
 fc:mW fs c
 fb:∀f∈bw,mW fs f
 nd:(cA c bw).Nodup
 len:bw.length<=3
structure q6(fs:!Fi):Prop where
 pcs:∀F∈fs,∃ps,FiP F ps
 look:∀F∈fs,look fs F.f.nm=Y F
 nm:∀F∈fs,F.f.nm.length<=1000
 four:fs.length<=4
def t7(c:Fm)(st:SV):Prop:=st=ST\/(A3 (st=.none) (c.ps=[])<|c.b=[])
def eo(c:Fm)(st:SV)(bw:!Fm)(ae:List<|bu×Nat×Nat)(bs:!SV):Gs:=⟨c.lv,st,bw.map Fm.lv,0,ae,bs⟩
noncomputable def zR(R:!bu):List<|bu×Nat×Nat:=R.map λr=>(r,0,0)
def yE(w:AW)(V:Ev)(n:Nat)(c:Fm)(st:SV)(bw:!Fm)(C:Fm)(b:SV)(B:!Fm)(R:!bu)(o:Option U):Prop:=∀r d,d.length+r.length+R.length<2^20->GX w V n (eo c st bw r d) (eo C b B (r++zR R) d) (rO o)
def Ai(w:AW)(V:Ev)(n:Nat)(c:Fm)(st:SV)(bw:!Fm)(C:Fm)(b:SV)(B:!Fm)(R:!bu):Prop:=∀r d,d.length+r.length+R.length<2^20->GR w V n (eo c st bw r d) (eo C b B (r++zR R) d)
def cy(c:Fm):U:=aO c.F.f.nm<|1+(c.m:Int)
noncomputable def cI:Fm->!Fm->Fi
 |c,[]=>c.F
 |_,f::r=>cI f r
inductive vQ(w:AW)(V:Ev)(fs:!Fi)(n:Nat)(c:Fm)(st:SV)(bw:!Fm):Prop
 |tok (R:!bu) (c':Fm) (st':SV) (bw':!Fm) (wd:!Nat) (hu:wd≠[117,115,101]) (ok:kM fs c' bw') (so:t7 c' st') (k:bY c' bw'<=bY c bw) (e3:cI c' bw'=cI c bw) (ae:de fs c bw=R++.tok (.str (T wd)) (cy c')::de fs c' bw') (g:yE w V n c st bw c' st' bw' R (Y (T wd))):vQ w V fs n c st bw
 |opn (R:!bu) (c':Fm) (bw':!Fm) (ok:kM fs c' bw') (k:bY c' bw'<=bY c bw) (e3:cI c' bw'=cI c bw) (ae:de fs c bw=R++.opn::de fs c' bw') (g:Ai w V n c st bw c' ST bw' R):vQ w V fs n c st bw
 |fin (R:!bu) (c':Fm) (ok:kM fs c' []) (e1:c'.ps=[]) (e2:c'.b=[]) (e3:c'.F=cI c bw) (ae:de fs c bw=R) (g:yE w V n c st bw c' .none [] R As):vQ w V fs n c st bw
def aaD:∀{l m:!α},l.Nodup->(∀x∈l,x∈m)->l.length<=m.length:=by
 cases _ with
 |nil=>intro _ _ _;rw[Bd _]
 |cons a l i=>
  intro m c h;let(b,e):=AC.mp c;let(p,q,rfl):=BS<|h a aE
  let z:=i (m:=p++q) e λx H=>by
   let m:=h x<|.tail _ H;rcases AB.mp m with m|m
   .rw[Ao _ m]
   .rcases Ar.mp m with rfl|m
    .rw[ZZ H b]
    .rw[Aq _ m]
  rw[Ay]at z ⊢;rw[ahX z]
section
variable{c:Fm}
def aan(h:c.ps=p::ps)(j:p.Ok):de fs c bw=fS fs (gu bw) c.F.f.nm (cA c bw) (p.it<|c.m+nl c.b)++de fs (c.nx p ps) bw:=by
 rw[kL,((by
   delta im
   rw[h,((by
     rw[sM j,]
     rw[aD [c.m,nl c.b,nl<|instHAppendOfAppend.hAppend (instHAppendOfAppend.hAppend p.pre p.sp) p.g1,nl (c.nx p ps).b] 0x11117605400765400020]):(c.nx p ps).m+nl (c.nx p ps).b=c.m+nl c.b+nl p.tx)]
   rfl):im fs c bw=fS fs (gu bw) c.F.f.nm (cA c bw) (p.it<|c.m+nl c.b)++im fs (c.nx p ps) bw),AD,kL fs<|c.nx p ps]
def jL:aO c.F.f.nm ((p.it<|c.m+nl c.b).n:Nat)=cy (c.nx p ps):=by congr 1
theorem kM.nx(ok:kM fs c bw)(h:c.ps=p::ps):kM fs (c.nx p ps) bw:=⟨ok.fc.nx h,ok.fb,ok.nd,ok.len⟩
def jM r R ae:ae++zR (r::R)=ae++[(r,0,0)]++zR R:=by rw[AD,];rfl
def kN(i:q6 fs)(ok:kM fs c bw)(h:c.ps=p::ps)(hz:bs.length+ae.length<2^20)(H:aZ (cA c bw) (T p.wd)=b):nP (eo (c.nx p ps) ST bw ae bs) (T p.wd) b:=by
 let d:=(ok.fc.nx h).tot;let len:=ok.fc.lv.len;let len:=len;let d:=d;rw[(by show(bw.map Fm.lv).length<=3;rw[Ap,];rw[ok.len],ok.fc.nm,?_,?_,hz,?_)]
 .rw[ahY]
 .have:(10:Int)^10=10000000000:=rfl;rw[anJ DD len d]
 .let e:(eo (c.nx p ps) ST bw ae bs).ah=cA c bw:=by show c.F.f.nm::(bw.map Fm.lv).map (·.nm)=_;rw[BW,];rfl
  rw[e,];rw[H]
end
def pQ{c:!U}{s:U}(h:s∈c):aZ c s=J:=Ff.mpr ⟨s,h,ZY s⟩
def pT{wd:!Nat}(h:wd≠[117,115,101]):bq (T wd) (S "use")=O:=by let E:S "use"=T [117,115,101]:=rfl;rw[ZX h]
def asO(o:Option U):Prop:=∀t,o=Y t->bq t (S "use")=O
section
variable{st:SV}
def vQ.lift(h:vQ w V fs n M ST B)(l:de fs c bw=A++de fs M B)(H:bY M B<=bY c bw)(hl:cI M B=cI c bw)
  (G:∀c' st' bw' R o,asO o->yE w V n M ST B c' st' bw' R o->yE w V (n+1) c st bw c' st' bw' (A++R) o)
  (d:∀c' st' bw' R,Ai w V n M ST B c' st' bw' R->Ai w V (n+1) c st bw c' st' bw' (A++R)):vQ w V fs (n+1) c st bw:=by
 cases h with
 |tok R c' st' bw' wd hu ok so k e3 ae g=>rw[.tok (A++R) c' st' bw' wd hu ok so (Ax k H) (e3.trans hl) (by rw[l,ae,AD])<|G _ _ _ _ _ (λt e=>by cases e;rw[pT hu]) g]
 |opn R c' bw' ok k e3 ae g=>rw[.opn (A++R) c' bw' ok (Ax k H) (e3.trans hl) (by rw[l,ae,AD])<|d _ _ _ _ g]
 |fin R c' ok e1 e2 e3 ae g=>rw[.fin (A++R) c' ok e1 e2 (e3.trans hl) (by rw[l,ae])<|G _ _ _ _ _ (λt e=>nomatch e) g]
def Fm.en(c:Fm):Fm:=⟨c.F,[],c.m+nl c.b,[]⟩
theorem mW.en(ok:mW fs c)(h:c.ps=[]):mW fs c.en:=by rw[(ok.mem,.n,Z9,Jx,?_,⟨ok.lv.n1,ok.lv.len⟩,ok.nm,Bd _)];let t:=ok.tot;rw[h]at t;rw[t]
def pW(ok:mW fs c)(h:c.ps=[])(so:t7 c st):RT w c.lv ⟨st,1+(c.m:Int),c.b++dP c.ps⟩ ⟨.none,1+(c.en.m:Int),[]⟩ .none:=by
 rcases so with rfl|⟨rfl,_,H⟩
 .let Q:=ok.suf;let e:c.b++dP c.ps=c.b:=by rw[h,];rw[Az _]
  rw[e]at Q ⊢;let x:=alD (w:=w) (ln:=1+(c.m:Int)) ok.lv ok.bl Q;rw[sN]at x;rw[x]
 .let e:c.b++dP c.ps=[]:=by rw[h,H];rfl
  let E:c.en.m=c.m:=by show c.m+nl c.b=c.m;rw[H,];rfl
  rw[e,E];rw[acs (l:=c.lv) ok.lv]
def abm(h:c.ps=[]):im fs c bw=[]:=by delta im;rw[h,];rfl
def kO ae bs a:(eo c ST bw ae bs).put ((eo c ST bw ae bs).ask a) 0 0=eo c ST bw (ae++[(.ask a (cy c)<|cA c bw,0,0)]) bs:=by
 let e:(eo c ST bw ae bs).ask a=.ask a (cy c) (cA c bw):=by show bu.ask a (cy c) (c.F.f.nm::(bw.map Fm.lv).map (·.nm))=_;rw[BW,];rfl
 rw[e,];rfl
def alE:∀d,1<=Cu d
 |0=>AA _
 |d+1=>by rw[aD [Cu d] 77723523770028288]
def jN(j:c.ps=p::ps):bY (c.nx p ps) bw<=bY c bw:=by
 rw[cH,cH,j];rw[Fo (Fo (CV _ ?_) 1) _];delta bN;rw[Dk,];split
 .rw[CE _]
 .rw[AA _]
def aaE{u:Option Nat}(d:p.u=Y u):bN (p::ps)=bN ps+1:=by delta bN;rw[Dk,d];rfl
theorem ahq(fo:q6 fs)(hV:V.fl=fs.map (·.f)):∀(n:Nat)(c:Fm)(st:SV)(bw:!Fm),kM fs c bw->t7 c st->bY c bw<=n->vQ w V fs n c st bw:=by
 intro n;cases n with
 |zero=>intro c st bw _ _ h;rw[cH]at h;rw[(anK h).elim]
 |succ n ih=>
  intro c st bw ok so hc;cases j:c.ps with
  |nil=>
   cases bw with
   |nil=>
    rw[.fin [] c.en ⟨ok.fc.en j,(λ_ h=>nomatch h),ok.nd,Bd _⟩ rfl rfl rfl (abm j) λae bs _=>?_]
    rw[show ae++zR []=ae from Az _,];rw[aeQ (p:=eo c st [] ae bs) (b:=⟨.none,1+(c.en.m:Int),[]⟩) (pW ok.fc j so) rfl]
   |cons f r=>
    let L:bY f r<=n:=by rw[cH]at hc;let hc:bN c.ps*Cu (gu<|f::r)+1+bY f r<=n+1:=hc;rw[anL (by assumption)]
    let l2:(r.map Fm.lv).length<=2:=by rw[Ap,];rw[CO ok.len]
    rw[(ih f ST r ⟨ok.fb f aE,λg m=>ok.fb g<|.tail _ m,(AC.mp ok.nd).2,C5 ok.len⟩ (.inl rfl) L).lift (A:=[]) (by rw[kL,abm j]) (by rw[cH c,];rw[BI _ _]) rfl (λc' k B R o d g ae bs H=>?_) λc' k B R g ae bs H=>?_]
    .rw[aku (p:=eo c st (f::r) ae bs) (b:=⟨.none,1+(c.en.m:Int),[]⟩) (pW ok.fc j so) rfl l2<|g ae bs H]
    .rw[akz (p:=eo c st (f::r) ae bs) (b:=⟨.none,1+(c.en.m:Int),[]⟩) (pW ok.fc j so) rfl l2<|g ae bs H]
  |cons p ps=>
   obtain rfl:st=ST:=so.resolve_right λ⟨_,h,_⟩=>by rw[j]at h;cases h
   let pk:=ok.fc.ok;rw[j]at pk;let C:=ok.nx j;cases d:p.u with
   |none=>
    let er:fS fs (gu bw) c.F.f.nm (cA c bw) (p.it<|c.m+nl c.b)=[.tok (.str<|T p.wd)<|cy<|c.nx p ps]:=by
     rw[<-jL];let e:p.it (c.m+nl c.b)=⟨O,p.wd,(p.it<|c.m+nl c.b).n⟩:=by delta Pc.it;rw[d,];rfl
     rw[e,];rw[hY]
    let N:=aan (fs:=fs) (bw:=bw) j pk.1;rw[er]at N;by_cases hg:p.g=[]
    .let(rfl,rt):=((by
      let Q:=ok.fc.suf;let z:=ok.fc.ok;rw[j]at z;obtain rfl:=z.2 hg;rw[(rfl,?_)];let(_,_,g1,gb):=z.1.gap.resolve_left λg=>by rw[hg]at g;cases g
      let e:c.b++dP c.ps=c.b++(gg p.way p.wd++[]):=by rw[j,dd];delta Pc.tx Pc.pre Pc.sp;rw[d,hg];simp only[AD,Dy];rfl
      rw[e]at Q ⊢;let x:=ahp (w:=w) (ln:=1+(c.m:Int)) (way:=p.way) ok.fc.lv ok.fc.bl z.1.wd Q;rw[sN]at x;let em:(c.nx p []).m=c.m+(nl c.b+nl p.wd):=by show c.m+nl c.b+nl (p.pre++p.sp++p.g1)=_;rw[bg,bg];delta Pc.pre Pc.sp;rw[d,qz,g1];rw[anH]
      let eb:(c.nx p []).b++dP []=[]:=by show p.b++[]=[];rw[gb,];rfl
      rw[em,eb]
      rw[x]):ps=[]/\RT w c.lv ⟨ST,1+(c.m:Int),c.b++dP c.ps⟩ ⟨rO As,1+((c.nx p ps).m:Int),(c.nx p ps).b++dP ps⟩ (.str<|T p.wd))
     rw[.tok [] (c.nx p []) .none bw p.wd (pk.1.no d) C (.inr ⟨rfl,rfl,?_⟩) (jN j) (by induction bw<;>rfl) N λae bs _=>?_]
     .let(_,_,_,e):=pk.1.gap.resolve_left λg=>by rw[hg]at g;cases g
      rw[e]
     .rw[show ae++zR []=ae from Az _,];rw[aeP (p:=eo c ST bw ae bs) (b:=⟨rO As,1+((c.nx p []).m:Int),(c.nx p []).b++dP []⟩) rt<|pT<|pk.1.no d]
    .rw[.tok [] (c.nx p ps) ST bw p.wd (pk.1.no d) C (.inl rfl) (jN j) (by induction bw<;>rfl) N λae bs _=>?_]
     rw[show ae++zR []=ae from Az _,]
     rw[aeP (p:=eo c ST bw ae bs) (b:=⟨rO<|Y<|T [32],1+((c.nx p ps).m:Int),(c.nx p ps).b++dP ps⟩) ((by
       let Q:=ok.fc.suf;let e:c.b++dP c.ps=c.b++(gg p.way p.wd++(p.g++dP ps)):=by rw[j,dd];delta Pc.tx Pc.pre Pc.sp;rw[d,];simp only[AD,Dy]
       let z:=ok.fc.ok;rw[j]at z;rw[e]at Q ⊢;let x:=mU (w:=w) (ln:=1+(c.m:Int)) (way:=p.way) ok.fc.lv ok.fc.bl (z.1.gap.resolve_right λ⟨_,h1,_,_⟩=>hg h1) z.1.wd Q;rw[sN]at x;let em:(c.nx p ps).m=c.m+(nl c.b+nl p.wd+nl p.g1):=by show c.m+nl c.b+nl (p.pre++p.sp++p.g1)=_;rw[bg,bg];delta Pc.pre Pc.sp;rw[d,qz];rw[anG]
       rw[em,]
       rw[x]):RT w c.lv ⟨ST,1+(c.m:Int),c.b++dP c.ps⟩ ⟨rO<|Y<|T [32],1+((c.nx p ps).m:Int),(c.nx p ps).b++dP ps⟩<|.str<|T p.wd) (pT<|pk.1.no d)]
   |some u=>
    let(b,hb,r1,r2):=((by
      let Q:=ok.fc.suf;let z:=ok.fc.ok;rw[j]at z;let gp:=z.1.gap.resolve_right λ⟨h1,_,_,_⟩=>by rw[d]at h1;cases h1
      let e:c.b++dP c.ps=c.b++(n5 u++(p.g++(p.sp++(p.g++dP ps)))):=by rw[j,dd];delta Pc.tx Pc.pre;rw[d,];simp only[AD]
      rw[e]at Q ⊢;rw[(⟨rO<|Y<|T [32],_,_⟩,rfl,alC (u:=u) ok.fc.lv ok.fc.bl gp Q,?_)];let s2:p.b++(p.sp++(p.g++dP ps))<:+c.F.f.tx:=by rw[FC ?_ Q];rw[(c.b++(n5 u++p.g1),?_)];rw[gp.bl.1,];simp only[AD]
      let x:=mU (w:=w) (l:=⟨c.F.f.nm,c.F.f.tx,p.b++(p.sp++(p.g++dP ps)),1+(c.m:Int)+(nl c.b+nl (n5 u)+nl p.g1:Nat),0,0,0⟩) (ln:=1+(c.m:Int)+(nl c.b+nl (n5 u)+nl p.g1:Nat)) (way:=p.way) ⟨ok.fc.lv.n1,ok.fc.lv.len⟩ gp.bl.2 gp z.1.wd s2
      let em:1+((c.nx p ps).m:Int)=1+(c.m:Int)+(nl c.b+nl (n5 u)+nl p.g1:Nat)+(nl p.b+nl p.wd+nl p.g1:Nat):=by
       show 1+((c.m+nl c.b+nl (p.pre++p.sp++p.g1):Nat):Int)=_;let eg:nl p.g=nl p.g1+nl p.b:=by rw[gp.bl.1,bg]
       let ep:nl (p.pre++p.sp++p.g1)=nl (n5 u)+nl p.g+nl p.wd+nl p.g1:=by rw[bg,bg];delta Pc.pre Pc.sp;rw[d,qz];show nl (n5 u++p.g)+_+_=_;rw[bg,]
       rw[ep,eg];rw[anI]
      rw[em,]
      rw[x]):∃b:Tx,A3 (b.st=ST) (RT w c.lv ⟨ST,1+(c.m:Int),c.b++dP c.ps⟩ b<|.str<|S "use")<|RT w ⟨c.F.f.nm,c.F.f.tx,b.r,b.ln,0,0,0⟩ b ⟨rO<|Y<|T [32],1+((c.nx p ps).m:Int),(c.nx p ps).b++dP ps⟩<|.str<|T p.wd)
    let ei:p.it (c.m+nl c.b)=⟨J,p.wd,(p.it<|c.m+nl c.b).n⟩:=by delta Pc.it;rw[d,];rfl
    let N:=aan (fs:=fs) (bw:=bw) j pk.1;rw[ei]at N;let hz0:∀{ae:List<|bu×Nat×Nat}{bs:!SV}{R:!bu}{a:bu},bs.length+ae.length+(a::R).length<2^20->bs.length+(ae++[(a,0,0)]).length+R.length<2^20:=λh=>by rw[Ay,Ci];rw[AI]at h;rw[anM h]
    let(bst,E,br):=b;obtain rfl:bst=ST:=hb;cases I:aZ (cA c bw) (T p.wd)with
    |true=>
     rw[fU I,jL]at N;rw[.opn [.ask (T p.wd) (cy<|c.nx p ps)<|cA c bw] (c.nx p ps) bw C (jN j) (by induction bw<;>rfl) N λae bs H=>?_]
     let A:=kN fo ok j (ae:=ae) (bs:=bs) (by rw[Ci]at H;rw[anN H]) I;let z:=agN (V:=V) (n:=n+1) (p:=eo c ST bw ae bs) (b:=⟨ST,E,br⟩) (c:=⟨ST,1+((c.nx p ps).m:Int),(c.nx p ps).b++dP ps⟩) (a:=T p.wd) r1 r2 A;let e:=kO (c:=c.nx p ps) (bw:=bw) ae bs<|T p.wd;let z:GR w V (n+1) (eo c ST bw ae bs)<|(eo (c.nx p ps) ST bw ae bs).put ((eo (c.nx p ps) ST bw ae bs).ask<|T p.wd) 0 0:=z;rw[e]at z;rw[z]
    |false=>
     let uc:=aaE (ps:=ps) d;cases hl:look fs (T p.wd)with
     |none=>
      rw[mC I hl,jL]at N;let hd:cU (nh V.fl) (T p.wd)=As:=by rw[hV,fi,hl];rfl
      let KK:bY (c.nx p ps) bw<=bY c bw:=jN j;let L:bY (c.nx p ps) bw<=n:=by rw[cH]at hc ⊢;rw[j,uc]at hc;have:=alE<|gu bw;rw[G3,DU]at hc;show bN ps*Cu (gu bw)+1+_<=n;rw[anO hc this]
      rw[(ih (c.nx p ps) ST bw C (.inl rfl) L).lift (A:=[.ask (T p.wd) (cy<|c.nx p ps)<|cA c bw]) N KK (by induction bw<;>rfl) (λc' k B R o hno g ae bs H=>?_) λc' k B R g ae bs H=>?_]
      .let A:=kN fo ok j (ae:=ae) (bs:=bs) (by rw[Ay]at H;rw[qb H]) I;let e:=kO (c:=c.nx p ps) (bw:=bw) ae bs<|T p.wd;let g:=g _ bs<|hz0 (ae:=ae) (R:=R) (a:=.ask (T p.wd) (cy<|c.nx p ps)<|cA c bw) H;rw[<-jM]at g;rw[aeS (p:=eo c ST bw ae bs) (b:=⟨ST,E,br⟩) (c:=⟨ST,1+((c.nx p ps).m:Int),(c.nx p ps).b++dP ps⟩) (a:=T p.wd) r1 r2 A hd hno ?_];show GX w V n ((eo (c.nx p ps) ST bw ae bs).put ((eo (c.nx p ps) ST bw ae bs).ask<|T p.wd) 0 0) _ _;rw[e,];rw[g]
      .let A:=kN fo ok j (ae:=ae) (bs:=bs) (by rw[Ay]at H;rw[qb H]) I;let e:=kO (c:=c.nx p ps) (bw:=bw) ae bs<|T p.wd;let g:=g _ bs<|hz0 (ae:=ae) (R:=R) (a:=.ask (T p.wd) (cy<|c.nx p ps)<|cA c bw) H;rw[<-jM]at g;rw[aeW (p:=eo c ST bw ae bs) (b:=⟨ST,E,br⟩) (c:=⟨ST,1+((c.nx p ps).m:Int),(c.nx p ps).b++dP ps⟩) (a:=T p.wd) r1 r2 A hd ?_];show GR w V n ((eo (c.nx p ps) ST bw ae bs).put ((eo (c.nx p ps) ST bw ae bs).ask<|T p.wd) 0 0) _;rw[e,];rw[g]
     |some G=>
      let(mG,eG):=dZ hl;let(i,M):=fo.pcs G mG;let nin:G.f.nm∉cA c bw:=λm=>by rw[eG]at m;rw[ZZ (pQ m) (by rw[I,];rw[A9])]
      let l2:bw.length<=2:=by
       let z:=aaD (l:=G.f.nm::cA c bw) (m:=fs.map (·.f.nm)) (AC.mpr ⟨nin,ok.nd⟩) λx hx=>by
        rcases Ar.mp hx with rfl|hx
        .rw[Av mG]
        .rcases Ar.mp hx with rfl|hx
         .rw[Av ok.fc.mem]
         .let(f,hf,rfl):=AM.mp hx;rw[Av (ok.fb f hf).mem]
       rw[Ap]at z;have:(G.f.nm::cA c bw).length=bw.length+2:=by show(bw.map _).length+1+1=_;rw[Ap,]
       rw[anP z fo.four this]
      let ed:gu bw=gu (c.nx p ps::bw)+1:=by show 3-bw.length=3-(bw.length+1)+1;rw[anQ l2]
      refine_lift let g0:Fm:=⟨G,i,0,[]⟩;?_
      let okg:kM fs g0<|c.nx p ps::bw:=by
       rw[(⟨mG,.n,M.ok,by rw[M.tx,];rw[Jy],by rw[M.tx,];rw[Bh _],⟨M.n1,Dj M.len (by decide)⟩,Ax (fo.nm G mG) (by decide),M.us⟩,λf hf=>?_,AC.mpr ⟨nin,ok.nd⟩,BY l2)];rcases Ar.mp hf with rfl|hf
       .rw[C.fc]
       .rw[ok.fb f hf]
      let hcc:bY g0 (c.nx p ps::bw)+1<=bY c bw:=by rw[cH g0,cH c];show bN i*Cu (gu<|c.nx p ps::bw)+1+bY (c.nx p ps) bw+1<=_;rw[cH<|c.nx p ps,];show bN i*Cu (gu<|c.nx p ps::bw)+1+(bN ps*Cu (gu bw)+1+_)+1<=_;rw[j,uc,G3,DU];let e2:=CV (Cu<|gu<|c.nx p ps::bw) M.us;rw[anR (by rw[ed,];rfl) e2]
      let L:bY g0 (c.nx p ps::bw)<=n:=CO<|Ax hcc hc
      let eR:im fs g0 (c.nx p ps::bw)=cw fs (gu<|c.nx p ps::bw) G (T p.wd::cA c bw) G.ak:=by
       show(kK 0 i).flatMap (fS fs _ G.f.nm<|G.f.nm::cA c bw)=G.ak.flatMap λq=>fS fs _ G.f.nm (T p.wd::cA c bw) q.1
       rw[<-M.ak,Gw,eG]
      rw[ed,fV I hl,jL,<-eR]at N;let N:de fs c bw=[.ask (T p.wd) (cy<|c.nx p ps)<|cA c bw]++de fs g0 (c.nx p ps::bw):=N;let hd:cU (nh V.fl) G.f.nm=Y (rf G.f.a):=by rw[hV,fi,fo.look G mG];rfl
      let mV:G.f∈V.fl:=by rw[hV,];rw[Av (f:=λF:Fi=>F.f) mG]
      let l2':(bw.map Fm.lv).length<=2:=by rw[Ap,];rw[l2]
      rw[<-eG]at r2 I N;rw[(ih g0 ST (c.nx p ps::bw) okg (.inl rfl) L).lift (A:=[.ask G.f.nm (cy<|c.nx p ps)<|cA c bw]) N (C5 hcc) (by induction bw<;>rfl) (λc' k B R o hno g ae bs H=>?_) λc' k B R g ae bs H=>?_]
      .let A:=kN fo ok j (ae:=ae) (bs:=bs) (b:=O) (by rw[Ay]at H;rw[qb H]) (eG▸I);rw[<-eG]at A;let e:(eo (c.nx p ps) ST bw ae bs).put ((eo (c.nx p ps) ST bw ae bs).ask G.f.nm) 0 0=eo (c.nx p ps) ST bw (ae++[(.ask G.f.nm (cy<|c.nx p ps)<|cA c bw,0,0)]) bs:=kO ae bs G.f.nm;let g:=g _ bs<|hz0 (ae:=ae) (R:=R) (a:=.ask G.f.nm (cy<|c.nx p ps)<|cA c bw) H;rw[<-jM]at g;rw[akv (p:=eo c ST bw ae bs) (b:=⟨ST,E,br⟩) (c:=⟨ST,1+((c.nx p ps).m:Int),(c.nx p ps).b++dP ps⟩) (st:=T [32]) (f:=G.f) r1 r2 A mV hd l2' hno ?_];show GX w V n (((eo (c.nx p ps) ST bw ae bs).put ((eo (c.nx p ps) ST bw ae bs).ask G.f.nm) 0 0).opn G.f) _ _;rw[e,];let eg:(eo (c.nx p ps) ST bw (ae++[(.ask G.f.nm (cy<|c.nx p ps)<|cA c bw,0,0)]) bs).opn G.f=eo g0 ST (c.nx p ps::bw) (ae++[(.ask G.f.nm (cy<|c.nx p ps)<|cA c bw,0,0)]) bs:=by show Gs.mk ⟨G.f.nm,G.f.tx,G.f.tx,1,0,0,0⟩ _ _ _ _ _=Gs.mk ⟨G.f.nm,G.f.tx,dP i,1,0,0,0⟩ _ _ _ _ _;rw[<-M.tx];rfl
       rw[eg,];rw[g]
      .let A:=kN fo ok j (ae:=ae) (bs:=bs) (b:=O) (by rw[Ay]at H;rw[qb H]) (eG▸I);rw[<-eG]at A;let e:(eo (c.nx p ps) ST bw ae bs).put ((eo (c.nx p ps) ST bw ae bs).ask G.f.nm) 0 0=eo (c.nx p ps) ST bw (ae++[(.ask G.f.nm (cy<|c.nx p ps)<|cA c bw,0,0)]) bs:=kO ae bs G.f.nm;let g:=g _ bs<|hz0 (ae:=ae) (R:=R) (a:=.ask G.f.nm (cy<|c.nx p ps)<|cA c bw) H;rw[<-jM]at g;rw[aky (p:=eo c ST bw ae bs) (b:=⟨ST,E,br⟩) (c:=⟨ST,1+((c.nx p ps).m:Int),(c.nx p ps).b++dP ps⟩) (st:=T [32]) (fl:=G.f) r1 r2 A mV hd l2' ?_];show GR w V n (((eo (c.nx p ps) ST bw ae bs).put ((eo (c.nx p ps) ST bw ae bs).ask G.f.nm) 0 0).opn G.f) _;rw[e,];let eg:(eo (c.nx p ps) ST bw (ae++[(.ask G.f.nm (cy<|c.nx p ps)<|cA c bw,0,0)]) bs).opn G.f=eo g0 ST (c.nx p ps::bw) (ae++[(.ask G.f.nm (cy<|c.nx p ps)<|cA c bw,0,0)]) bs:=by show Gs.mk ⟨G.f.nm,G.f.tx,G.f.tx,1,0,0,0⟩ _ _ _ _ _=Gs.mk ⟨G.f.nm,G.f.tx,dP i,1,0,0,0⟩ _ _ _ _ _;rw[<-M.tx];rfl
       rw[eg,];rw[g]
end
def q7(F:Fi):bu:=.tok .none<|aO F.f.nm<|1+(nl F.f.tx:Int)
section
def Fm.q(c:Fm)(st:SV)(bw:!Fm):Gs:=eo c st bw [] []
def vT(i:q6 fs)(ok:kM fs c bw)(st:SV):qS<|c.q st bw:=by
 let n:nl c.F.f.tx<=c.F.f.tx.length:=DD;let len:=ok.fc.lv.len;rw[(ok.fc.nm,?_,?_)]
 .show(0:Int)<=1+(c.m:Int);rw[ahY]
 .show 1+(c.m:Int)<10^10;have:(10:Int)^10=10000000000:=rfl;rw[anS ok.fc.tot n len]
def alF(j:q6 fs)(G:V.fl=fs.map (·.f)):∀(m:Nat)(c:Fm)(st:SV)(bw:!Fm),kM fs c bw->t7 c st->bY c bw<=60->(de fs c bw).length+2<=m->td w V m nm O (c.q st bw) (de fs c bw++[q7<|cI c bw,q7 (cI c bw)]):=by
 intro m;cases m with
 |zero=>intro c st bw _ _ _ h;rw[(anT h).elim]
 |succ m I=>
  intro c st bw ok so H i;cases ahq (w:=w) j G 60 c st bw ok so H with
  |tok R C d B wd hu Q n k E r g=>rw[r,Ay,AI]at i;rw[r,AD];rw[akE (t:=T wd) (q':=C.q d B) (R:=R) ⟨60,AA _,λe A=>g [] e (by rw[BJ,];rw[rH A])⟩ (vT j Q d) ?_];let z:=I C d B Q n (Ax k H)<|ahZ i;rw[E]at z;rw[z]
  |opn R C B Q k E r g=>rw[r,Ay,AI]at i;rw[r,AD];rw[aeZ (q':=C.q ST B) (R:=R) ⟨60,AA _,λe A=>g [] e (by rw[BJ,];rw[rH A])⟩ ?_];let z:=I C ST B Q (.inl rfl) (Ax k H)<|ahZ i;rw[E]at z;rw[z]
  |fin R C Q L N E r g=>
   rw[r]at i ⊢;let(F',x,M,b'):=C;obtain rfl:x=[]:=L;obtain rfl:b'=[]:=N;obtain rfl:F'=cI c bw:=E;let em:(M:Nat)=nl (cI c bw).f.tx:=Q.fc.tot;let eR:q7 (cI c bw)=.tok .none (aO (cI c bw).f.nm<|1+(M:Int)):=by delta q7;rw[em,]
   rw[eR,];cases m using BE with
   |zero=>rw[ZZ (CO i)<|Hn _]
   |succ m=>rw[arC (q':=Fm.q ⟨cI c bw,[],M,[]⟩ .none []) (R:=R) ⟨60,AA _,λe A=>g [] e (by rw[BJ,];rw[rH A])⟩ (vT j Q .none) ?_];rw[akF (q':=Fm.q ⟨cI c bw,[],M,[]⟩ .none []) (R:=[]) ⟨60,AA _,λe A=>?_⟩<|vT j Q .none];rw[aeQ (p:=eo ⟨cI c bw,[],M,[]⟩ .none [] [] e) (b:=⟨.none,1+(M:Int),[]⟩) (acs (l:=Fm.lv ⟨cI c bw,[],M,[]⟩) Q.fc.lv) rfl]
end
def pY l:cZ (T l) (S "\n")=nl l:=by
 let e:S "\n"=⟨#[10]⟩:=rfl
 let c:∀l:!Nat,PyProof.Rows.cnt 10 l=(nl l:Nat):=λl=>by
  cases l with
  |nil=>rfl
  |cons a l i=>
   rw[Kl,i];delta nl;rw[B4,];by_cases k:a=10
   .subst k;simp;rw[aD [BO 10 l] 0x11111114041110a0]
   .rw[Z7 k,ZX k];simp
 rw[Gb (show((cZ (T l) ⟨#[10]⟩:Nat):Int)=(nl l:Nat)from ?_)];rw[Ku ?_<|c l];rw[Km (T l) 10]
def ahr p:∀(ps:!Pc)(m:Nat),kK m (ps++[p])=kK m ps++[p.it<|m+nl (dP ps)]:=by
 cases _ with
 |nil=>intro m;rw[rfl]
 |cons q ps i=>
  intro m;show q.it m::kK (m+nl q.tx) (ps++[p])=q.it m::(kK (m+nl q.tx) ps++_)
  rewrite [i,dd,bg,Ew];rfl
def afO{p:Pc}(h:p.Ok):∀{ps:!Pc},n6 ps->(∀q∈ps,q.g≠[])->n6 (ps++[p]):=by
 cases _ with
 |nil=>intro _ _;rw[(h,λx=>rfl,trivial)]
 |cons q ps i=>rintro⟨H,_,b⟩ j;rw[(H,λe=>ZZ e<|j q aE,i b λr m=>j r<|.tail _ m)]
structure rv(s:Fs)(ps:!Pc):Prop where
 ok:n6 ps
 tx:s.txt=dP ps
 ak:s.ak=kK 0 ps
 mo:s.more=J->∀p∈ps,p.g≠[]
 ws:ps.length<=4
 us:bN ps<=2
 nm:∀p∈ps,p.wd.length<=4
 us5:∀p∈ps,p.u.isSome=J->p.wd∈bb
theorem kP:∀(ps:!Pc)(m:Nat),dk (kK m ps)=bN ps
 |[],_=>rfl
 |p::ps,m=>by
  let i:=kP ps<|m+nl p.tx;unfold dk bN at i ⊢;show(KO _<|p.it m::kK _ ps).length=_;rw[Dk,Dk,show(p.it m).u=p.u.isSome from rfl];split
  .rw[AI,AI,i]
  .rw[i]
theorem act:∀(ps:!Pc)(m:Nat),(kK m ps).length=ps.length
 |[],_=>rfl
 |p::ps,m=>Z8 (·+1)<|act ps<|m+nl p.tx
def alG:∀i<5,∃b,qx (c9.getD i []) (fX<|c9.getD i []) b
 |0,_=>⟨_,.sp⟩
 |1,_=>⟨_,.nl⟩
 |2,_=>⟨_,.rem⟩
 |3,_=>⟨_,.tab⟩
 |4,_=>⟨_,.cr⟩
 |i+5,h=>ZZ h<|AX.mpr<|BI 5 i
def asP i:(dG.getD i []).length<=4/\dG.getD i []≠[117,115,101]:=by
 match i with
 |0|1|2|3|4|5|6=>decide
 |i+7=>rw[(Bd _,λh=>nomatch h)]
def asQ i:(bb.getD i []).length<=4/\bb.getD i []∈bb:=by
 match i with
 |0|1|2|3|4=>decide
 |i+5=>rw[(Bd _,show([]:!Nat)∈bb by decide)]
def sO{s:Fs}{ps:!Pc}{p:Pc}{mo:Bool}{t2:!Nat}(h:rv s ps)(i:s.more=J)(j:s.ak.length≠4)(b:p.Ok)(d:p.u.isSome=J->dk s.ak≠2)(c:p.wd.length<=4)(l:p.u.isSome=J->p.wd∈bb)(n:t2=s.txt++p.pre)(r:fX p.g=p.g1)(H:mo=J->p.g≠[]):rv (sA s p.u.isSome mo t2 p.sp p.wd p.g)<|ps++[p]:=by
 let x:=h.mo i;subst n;rw[(afO b h.ok x,?_,?_,λe q m=>?_,?_,?_,λq m=>?_,λq m=>?_)]
 .show s.txt++p.pre++p.sp++p.g=_;delta dP;rw[CC,h.tx];show _=dP ps++(p.tx++[]);delta Pc.tx;simp only[AD,Az]
 .show s.ak++[⟨p.u.isSome,p.wd,1+cZ (T<|s.txt++p.pre++p.sp++fX p.g) (S "\n")⟩]=_;rw[ahr,h.ak,pY,r,h.tx];let e:nl (dP ps++p.pre++p.sp++p.g1)=0+nl (dP ps)+nl (p.pre++p.sp++p.g1):=by rw[Bh,<-bg];simp only[AD]
  rw[e,];rfl
 .rcases AB.mp m with m|m
  .rw[x q m]
  .cases Au.mp m;rw[H e]
 .have:=h.ws;have:s.ak.length=ps.length:=by rw[h.ak,act]
  rw[Ay,Ci];rw[anU j (by assumption) this]
 .have:=h.us;let e:=kP ps 0;rw[<-h.ak]at e;unfold bN at this e ⊢;rw[List.filter_append,Ay,Dk];split
  .rename_i k;have:=d k;rw[anV (by assumption) e this]
  .rw[anW this]
 .rcases AB.mp m with m|m
  .rw[h.nm q m]
  .cases Au.mp m;rw[c]
 .rcases AB.mp m with m|m
  .rw[h.us5 q m]
  .cases Au.mp m;rw[l]
def alH{s:Fs}{ps:!Pc}(p n:Int)(h:rv s ps):∃c,rv (kD p n s) c:=by
 delta kD;cases H:dm n s with
 |true=>rw[(ps,h)]
 |false=>
  let i:s.more=J:=by
   delta dm at H;revert H;cases s.more with
   |true=>rw[λQ=>rfl]
   |false=>rw[λh=>nomatch h]
  let j:s.ak.length≠4:=λe=>by delta dm at H;rw[i,e]at H;rw[nomatch H]
  let m:decide (fy n>3)=J->dk s.ak≠2:=λk e=>by delta dm at H;rw[k,e]at H;revert H;cases s.more<;>cases s.ak.length==4<;>rw[λh=>nomatch h]
  let(A,G):=fu ((n.fdiv 32).fdiv 3+p) (k:=5) (by decide);let(b,x):=alG (((n.fdiv 32).fdiv 3+p).fmod 5).toNat<|rD G;let d:cz p n≠[]:=λe=>by let z:qx (cz p n) (fX<|cz p n) b:=x;rw[e]at z;rw[nomatch z]
  delta i9;cases k:decide (fy n>3)with
  |true=>
   let(N,r):=asQ (wZ p n<|fy n==7).toNat
   refine_lift let u:Option Nat:=match(n.fdiv 32).fmod 2==0 with
    |true=>As
    |false=>Y (cj p n).toNat;?_
   let E:n5 u=pE p n:=by show n5 (match(n.fdiv 32).fmod 2==0 with|true=>As|false=>Y (cj p n).toNat)=_;delta pE;cases(n.fdiv 32).fmod 2==0<;>rfl
   rw[(ps++[⟨Y u,(cj p n).toNat,ic p n,cz p n,fX<|cz p n,b⟩],sO (p:=⟨Y u,(cj p n).toNat,ic p n,cz p n,fX<|cz p n,b⟩) h i j ⟨AV N (by decide),nofun,.inl x⟩ (λQ=>m k) N (λQ=>r) (by
    show _=s.txt++(n5 u++cz p n)
    rw[E,]) rfl λQ=>d)]
  |false=>
   let(w,l):=asP (wV n p).toNat;dsimp only;cases k3:fy n==3 with
   |true=>rw[(ps++[⟨As,(cj p n).toNat,eM p n,[],[],[]⟩],sO (p:=⟨As,(cj p n).toNat,eM p n,[],[],[]⟩) h i j ⟨AV w (by decide),λQ=>l,.inr ⟨rfl,rfl,rfl,rfl⟩⟩ nofun w nofun (Az _).symm rfl nofun)]
   |false=>rw[(ps++[⟨As,(cj p n).toNat,eM p n,cz p n,fX<|cz p n,b⟩],sO (p:=⟨As,(cj p n).toNat,eM p n,cz p n,fX<|cz p n,b⟩) h i j ⟨AV w (by decide),λQ=>l,.inl x⟩ nofun w nofun (Az _).symm rfl λQ=>d)]
theorem ai1:∀(xs:!Int)(p:Nat)(S0:Nat->Fs),(∀k,∃ps,rv (S0 k) ps)->∀k,∃ps,rv (lh p xs S0 k) ps
 |[],_,_,h=>h
 |x::xs,p,S0,h=>ai1 xs (p+1) _ λk=>by
  delta upd;split
  .let(ps,j):=h (x.fmod 4).toNat;rw[alH p x j]
  .rw[h k]
def asR:rv ⟨[],[],J⟩ []:=⟨trivial,rfl,rfl,(λQ Q h=>nomatch h),Bd _,Bd _,(λQ h=>nomatch h),λQ h=>nomatch h⟩
def ahs way c:1<=(kX way c).length/\(kX way c).length<=4:=by
 match way with
 |0=>show 1<=(if c=39 then[39,92,39,39]else[c]).length/\(if c=39 then[39,92,39,39]else[c]).length<=4;split<;>simp
 |1=>show 1<=(if c=92\/c=34 then[92,c]else[c]).length/\(if c=92\/c=34 then[92,c]else[c]).length<=4;split<;>simp
 |m+2=>rw[(BY<|Bd 1,by show 2<=4;decide)]
def abn way:∀cs:!Nat,(cs.flatMap<|kX way).length<=4*cs.length:=by
 cases _ with
 |nil=>rw[AA _]
 |cons c cs i=>rw[Cn,Ay,AI];have:=i;have:=(ahs way c).2;rw[anX (by assumption) this]
def afP way cs:2<=(gg way cs).length/\(gg way cs).length<=2+4*cs.length:=by
 let f:=λway=>abn way cs
 match way with
 |0=>
  let e:(gg 0 cs).length=(cs.flatMap<|kX 0).length+2:=by show(39::cs.flatMap (kX 0)++[39]).length=_;rw[Ay,AI];rfl
  have:=f 0;rw[ah0 e this]
 |1=>
  let e:(gg 1 cs).length=(cs.flatMap<|kX 1).length+2:=by show(34::cs.flatMap (kX 1)++[34]).length=_;rw[Ay,AI];rfl
  have:=f 1;rw[ah0 e this]
 |m+2=>
  cases cs using A8 with
  |nil=>rw[(AA _,AA _)]
  |cons c l=>
   let e:(gg (m+2)<|c::l).length=2+(l.flatMap<|kX<|m+2).length:=by show([92,c]++l.flatMap (kX<|m+2)).length=_;rw[Ay,];rfl
   have:=abn (m+2) l;rw[anY e this]
def aht{g h b:!Nat}(x:qx g h b):g.length<=9:=by induction x<;>decide
def alI:∀{ps:!Pc},n6 ps->(∀p∈ps,p.wd.length<=4)->(dP ps).length≠1/\(dP ps).length<=60*ps.length:=by
 cases _ with
 |nil=>intro _ _;rw[((λh=>nomatch h),AA _)]
 |cons p ps i=>
  rintro⟨c,_,j⟩ H
  let(a,b):=((by
    let(r,k):=afP p.way p.wd;let g:=c.gap.elim aht λ⟨_,e,_,_⟩=>by rw[e,];decide
    let l:p.pre.length<=23:=by
     delta Pc.pre;cases p.u with
     |none=>rw[Bd _]
     |some u=>
      have:(n5 u).length<=14:=by
       cases u with
       |none=>decide
       |some w=>rw[(afP w [117,115,101]).2]
      rw[Ay,];rw[anZ g this]
    delta Pc.tx Pc.sp;rw[Ay,Ay]
    rw[an0 (H p aE) r k g l]):2<=p.tx.length/\p.tx.length<=60)
  let(_,d):=i j λq m=>H q<|.tail _ m
  rw[dd,Ay,AI];rw[an1 a b d]
def q8(b:Nat):bu->Prop
 |.tok x _=>∃s,x=.str s
 |.ask _ _ n=>n.length<=b
 |.opn=>True
section
def asS d:∀(nm:U)(ah:!U)(x:It),∀r∈fS fs d nm ah x,q8 (ah.length+d) r:=by
 rw[nat_step d λd I nm ah x=>?_]
 let(u,wd,n):=x;cases u with
 |false=>intro r h;rw[hY]at h;cases Au.mp h;rw[(_,rfl)]
 |true=>
  rw[afp (P:=λl=>∀r∈l,q8 (ah.length+d) r) (λQ r h=>?_) (λr h=>?_) λb G e H c r h=>?_]
  .rcases Ar.mp h with rfl|h
   .rw[BG _ _]
   .cases Au.mp h;trivial
  .cases Au.mp h;rw[BG _ _]
  .rcases Ar.mp h with rfl|h
   .rw[BG _ _]
   .let(q,_,h):=DJ.mp h;let z:=I b e G.f.nm (T wd::ah) q.1 r h;rw[e,show ah.length+(b+1)=ah.length+1+b by rw[ahJ]];rw[z]
noncomputable def Xw:Nat->Nat
 |0=>2
 |d+1=>1+(2*Xw d+4)
def afQ:∀d,2<=Xw d
 |0=>AA _
 |d+1=>by rw[aD [Xw d] 0x1141142120111021100]
def acu{d:Nat}{nm:U}{ah:!U}(h:∀x:It,x.u=J->(fS fs d nm ah x).length<=Xw d):∀(ps:!Pc)(m:Nat),((kK m ps).flatMap<|fS fs d nm ah).length<=bN ps*Xw d+ps.length:=by
 cases _ with
 |nil=>intro _;rw[Bd _]
 |cons p ps i=>
  intro m;let i:=i<|m+nl p.tx;show(fS fs d nm ah (p.it m)++(kK (m+nl p.tx) ps).flatMap _).length<=_;rw[Ay,AI];cases H:p.u with
  |none=>
   let b:p.it m=⟨O,p.wd,(p.it m).n⟩:=by delta Pc.it;rw[H,];rfl
   let E:bN (p::ps)=bN ps:=by delta bN;rw[Dk,H];rfl
   rw[b,hY,E];rw[an3 i]
  |some u=>
   let b:(p.it m).u=J:=by show p.u.isSome=J;rw[H,];rfl
   have:=h _ b;rw[aaE H,G3,DU];rw[an4 i this]
def ahu(i:q6 fs)(d:Nat):∀(nm:U)(ah:!U)(x:It),x.u=J->(fS fs d nm ah x).length<=Xw d:=by
 rw[nat_step d λd I nm ah x h=>?_]
 let(u,wd,n):=x;cases show u=J from h
 rw[afp (P:=λl=>l.length<=Xw d) (λQ=>afQ d) (Ax (CE 1)<|afQ d) λb G e k H=>?_]
 let(m,_):=dZ H;let(c,P):=i.pcs G m;let E:cw fs b G (T wd::ah) G.ak=(kK 0 c).flatMap (fS fs b G.f.nm<|T wd::ah):=by delta cw;rw[<-P.ak,Gw]
 rw[E,e,AI];let z:=acu (nm:=G.f.nm) (ah:=T wd::ah) (I b e G.f.nm<|T wd::ah) c 0;let j:=CV (Xw b) P.us;have:=P.ws;rw[an5 z j this]
theorem mX{F:Fi}{ps:!Pc}(P:FiP F ps):db fs F=(kK 0 ps).flatMap (fS fs 3 F.f.nm [F.f.nm]):=by delta db cw;rw[<-P.ak,Gw]
theorem afR{F:Fi}:∀r∈db fs F,q8 4 r:=λr h=>by let(q,_,h):=DJ.mp h;rw[asS 3 F.f.nm [F.f.nm] q.1 r h]
theorem qG(j:fs.length<=4):∀(d:Nat)(ah:!U),ah.Nodup->(∀x∈ah,x∈fs.map (·.f.nm))->4<=ah.length+d->Dp fs d ah
 |0,ah,c,b,e=>λF M=>by
  cases h:aZ ah F.f.nm with
  |true=>rfl
  |false=>
   let z:=aaD (l:=F.f.nm::ah) (m:=fs.map (·.f.nm)) (AC.mpr ⟨(λm=>by rw[pQ m]at h;rw[nomatch h]),c⟩) λx H=>by
    rcases Ar.mp H with rfl|H
    .rw[Av M]
    .rw[b x H]
   rw[Ap,AI]at z;rw[(an7 j e z).elim]
 |d+1,ah,c,b,e=>λF M h=>qG j d (F.f.nm::ah) (AC.mpr ⟨λm=>ZZ (pQ m) (by rw[h,];rw[A9]),c⟩) (λx H=>by
   rcases Ar.mp H with rfl|H
   .rw[Av M]
   .rw[b x H]) (by rw[AI,];rw[an8 e])
end
def avA:∀(l:!Int)(b:Int)(k:Nat),0<=b->b<=k->(∀x∈l,0<=x/\x<=k)->0<=mQ l b/\mQ l b<=k:=by
 cases _ with
 |nil=>intro b k H d _;rw[(H,d)]
 |cons x l i=>
  intro b k H d h;let(a,c):=h x aE;unfold mQ;cases decide (x>b)with
  |true=>rw[i x k a c λy m=>h y<|.tail _ m]
  |false=>rw[i b k H d λy m=>h y<|.tail _ m]
theorem mY{k:Nat}:∀{R:!bu},(∀r∈R,q8 k r\/∃m,r=.tok .none m)->∀x∈bR R,0<=x/\x<=k
 |[],_,x,m=>nomatch m
 |.ask a m n::R,h,x,H=>by
  rcases Ar.mp (show x∈(n.length:Int)::bR R from H)with rfl|H
  .rcases h _ aE with z|⟨_,e⟩
   .let z:=z;rw[an9 z]
   .cases e
  .rw[mY (λr m=>h r<|.tail _ m) x H]
 |.tok y m::R,h,x,H=>mY (R:=R) (λr m=>h r<|.tail _ m) x H
 |.opn::R,h,x,H=>mY (R:=R) (λr m=>h r<|.tail _ m) x H
theorem abo Z ep:∀F∈dJ Z ep,look (dJ Z ep) F.f.nm=Y F:=by
 intro F m;rcases Ar.mp m with rfl|m
 .rfl
 rcases Ar.mp m with rfl|m
 .rfl
 rcases Ar.mp m with rfl|m
 .rfl
 cases Au.mp m;rfl
def sP{Z:Nat->Fz}{ep:Nat}{P:Fi->Prop}(h:∀k<4,P (vM Z ep k)):∀F∈dJ Z ep,P F:=by
 intro F m;rcases Ar.mp m with rfl|m
 .rw[h 0 (by decide)]
 rcases Ar.mp m with rfl|m
 .rw[h 1 (by decide)]
 rcases Ar.mp m with rfl|m
 .rw[h 2 (by decide)]
 cases Au.mp m;rw[h 3 (by decide)]
def ahv:∀k<4,(bI k).length<=4
 |0,_|1,_|2,_|3,_=>by decide
section
variable{ep:Nat}
theorem ahw(h:∀k,∃ps,rv (Z k).st ps)(v:Lw)(l:!Env):pM w v (dJ Z ep) l<|db<|dJ Z ep:=by
 let i:=(⟨sP λk _=>(h k).imp λps j=>(by
   let(a,b):=alI j.ok j.nm;let e:(vM Z ep k).f.tx=dP ps:=j.tx
   rw[(j.ok,e,j.ak,by rw[e,];rw[a],by rw[e,];rw[an2 b j.ws],j.us,j.ws)]),abo Z ep,sP λk A=>Ax (ahv k A) (by decide),AA 4⟩:q6<|dJ Z ep)
 let ln:∀F∈dJ Z ep,(db (dJ Z ep) F).length<=106:=λF M=>let⟨ps,P⟩:=i.pcs F M;(by
   rw[mX P,];let z:=acu (nm:=F.f.nm) (ah:=[F.f.nm]) (ahu i 3 F.f.nm [F.f.nm]) ps 0;let E:=CV (Xw 3) P.us;have:=P.ws;have:Xw 3=51:=rfl
   rw[an6 z E (by assumption) this])
 let d:∀F,∀r∈qw (db<|dJ Z ep) F,q8 4 r\/∃m,r=.tok .none m:=λF r m=>by
  rcases AB.mp m with m|m
  .rw[.inl<|afR r m]
  .rcases Ar.mp m with rfl|m
   .rw[.inr ⟨_,rfl⟩]
   .cases Au.mp m;rw[.inr ⟨_,rfl⟩]
 let N:∀F∈dJ Z ep,nl F.f.tx<900:=λF M=>by let(ps,P):=i.pcs F M;rw[AV DD P.len]
 rw[(λF M=>⟨λc=>?_,?_,λx m H=>?_⟩,λF M a m n B=>?_,λF M=>?_,λF M ho=>?_)]
 .let(ps,P):=i.pcs F M;let e:=P.tx;let L:=ln F M;let C:(db (dJ Z ep) F++[cm F.f,cm F.f]).length=(db (dJ Z ep) F).length+2:=Ay;rw[akI (Av (f:=λF:Fi=>F.f) M) (by rw[fi,i.look F M];rfl) (aod L C) (λV G _=>?_) c]
  let z:=alF (w:=w) (V:=V) (nm:=F.f.nm) i G 200 ⟨F,ps,0,[]⟩ ST [] ⟨⟨M,.n,P.ok,by rw[e,];rw[Jy],by rw[e,];rw[Bh _],⟨P.n1,Dj P.len (by decide)⟩,Ax (i.nm F M) (by decide),P.us⟩,(λ_ h=>nomatch h),AC.mpr ⟨BF,AS⟩,Bd _⟩ (.inl rfl) (by
    let E:=CV (Cu 3) P.us;have:Cu 3=22:=rfl;rw[aoe E this]) (by
    show((kK 0 ps).flatMap<|fS (dJ Z ep) 3 F.f.nm [F.f.nm]).length+2<=200;rw[<-mX P]
    rw[aof L])
  let I:q7 F=cm F.f:=by delta q7 cm;rw[pY,]
  let Q:Fm.q ⟨F,ps,0,[]⟩ ST []=qR F.f 0 0:=by show Gs.mk ⟨F.f.nm,F.f.tx,dP ps,1,0,0,0⟩ _ _ _ _ _=Gs.mk ⟨F.f.nm,F.f.tx,F.f.tx,1,0,0,0⟩ _ _ _ _ _;rw[<-e];rfl
  let er:de (dJ Z ep) ⟨F,ps,0,[]⟩ []=db (dJ Z ep) F:=(mX P).symm;rw[Q,er,show cI ⟨F,ps,0,[]⟩ []=F from rfl,I]at z;rw[z]
 .rw[ar3 (⟨i.nm,λF M=>let⟨ps,P⟩:=i.pcs F M;(λq m=>by
   let go:∀(ps:!Pc)(m:Nat),n6 ps->∀x∈kK m ps,x.n<=1+(m+nl (dP ps)):=λps=>by
    cases ps with
    |nil=>rw[λ_ _ _ h=>nomatch h]
    |cons p ps ih=>
     intro m ok x H;rw[dd,bg];rcases Ar.mp H with rfl|H
     .rw[aoa (sM ok.1)]
     .have:=ih _ ok.3 x H;rw[aob this]
   let l1:nl (dP ps)<=(dP ps).length:=DD;let l2:=P.len;rw[P.tx]at l2
   rw[aoc (go ps 0 P.ok q.1 (by rw[<-P.ak];rw[Av m])) l1 l2])⟩) i.look M (qG i.four 3 _ (AC.mpr ⟨BF,AS⟩) (λx H=>by
   cases Au.mp H
   rw[Av M]) (AA 4)) ?_ (AV (ln F M) (by decide))]
  rw[pY,];have:=N F M;rw[aog this]
 .let(s,e):=(afR _ H:q8 4<|.tok x m);rw[.inr ⟨s,e⟩]
 .rcases d F _ B with z|⟨_,e⟩
  .rw[AV (show n.length<=4 from z) (by decide)]
  .rw[nomatch e]
 .show(db (dJ Z ep) F++[_,_]).length<_;have:=ln F M;rw[Ay,];show _+2<_;rw[aoh this]
 .let(a,b):=avA (bR<|qw (db<|dJ Z ep) F) 0 4 (Int.le_refl _) (by decide)<|mY<|d F;rw[((mQ (bR<|qw (db<|dJ Z ep) F) 0).toNat,aoi b,aoj a)]
end
noncomputable def aY(f:U->β)(k:U)(v:β):U->β:=λx=>if x=k then v else f x
def bS f k (v:β):aY f k v k=v:=Z0 rfl
def aU f (v:β)(h:x≠k):aY f k v x=f x:=Z7 h
structure Gi(N:U->Nat)(E:U->!U)(l:!Pn):Prop where
 nd:(aX l).Nodup
 np:∀p∈l,p.2.1=(N p.1:Nat)
 sc:∀p∈l,∀x,p.2.2.count x=(E x).count p.1
 us:∀x,∀u∈E x,u∈aX l
 nz:∀x,x∉aX l->N x=0
def eN:∀p,p∈fM l k<->p∈l\/(p=(k,0,[])/\k∉aX l):=λp=>by
 delta fM;split
 .rename_i h;rw[(.inl,λm=>m.elim id λm=>ZZ (hR.mp h) m.2)]
 .rename_i h;rw[AB,Au];rw[(λm=>m.imp id λe=>⟨e,λn=>h<|hR.mpr n⟩,λm=>m.imp id And.left)]
def dH:x∈aX (fM l k)<->x∈aX l\/x=k:=by
 constructor
 .intro m;let(p,j,rfl):=AM.mp m;clear m;rcases(eN p).mp j with h|⟨rfl,_⟩
  .rw[.inl<|Av h]
  .rw[.inr rfl]
 .intro m;by_cases h:k∈aX l
  .let m:=m.elim id λe=>e▸h
   let(p,j,rfl):=AM.mp m;rw[Av<|(eN p).mpr<|.inl j]
  .rcases m with m|rfl
   .let(p,j,rfl):=AM.mp m;rw[Av<|(eN p).mpr<|.inl j]
   .rw[Av (f:=(·.1))<|(eN (x,0,[])).mpr<|.inr ⟨rfl,h⟩]
section
def Gi.ens(g:Gi N E l)(k:U):Gi N E<|fM l k:=by
 rw[(eK g.nd,λp j=>?_,λp j x=>?_,λx u d=>dH.mpr<|.inl<|g.us x u d,λx H=>g.nz x λm=>H<|dH.mpr<|.inl m)]
 .rcases(eN p).mp j with h|⟨rfl,h⟩
  .rw[g.np p h]
  .rw[g.nz k h,];rfl
 .rcases(eN p).mp j with h|⟨rfl,h⟩
  .rw[g.sc p h x]
  .show 0=(E x).count k;rw[C4 λm=>h<|g.us x k m,]
def io{f:Int×!U->Int×!U}{p:Pn}:p∈gj l k f<->∃q∈l,p=if q.1=k then(q.1,f q.2)else q:=by
 delta gj;rw[AM,];constructor
 .rintro⟨q,H,rfl⟩;rw[(q,H,?_)];by_cases h:q.1=k
  .rw[Z0 h,Z0<|beq_iff_eq.mpr h]
  .rw[Z7 h,Z7 λz=>h<|BX z]
 .rintro⟨q,H,rfl⟩;rw[(q,H,?_)];by_cases h:q.1=k
  .rw[Z0 h,Z0<|beq_iff_eq.mpr h]
  .rw[Z7 h,Z7 λz=>h<|BX z]
def Gi.cnt(g:Gi N E l)(c:k∈aX l)(n:Nat):Gi (aY N k<|N k+n) E<|gj l k λq=>(q.1+n,q.2):=by
 rw[(by rw[bc,];rw[g.nd],λp j=>?_,λp j x=>?_,λx u d=>by rw[bc,];rw[g.us x u d],λx b=>?_)]
 .let(q,H,rfl):=io.mp j;by_cases h:q.1=k
  .rw[Z0 h,];show q.2.1+(n:Int)=(aY N k (N k+n) q.1:Nat);rw[h,bS,g.np q H,h];rw[aD [N k,n] 18766121746592]
  .rw[Z7 h,aU _ _ h];rw[g.np q H]
 .let(q,H,rfl):=io.mp j;clear j;split<;>rw[g.sc q H x]
 .rw[bc]at b;rw[aU _ _ λe=>b (by rw[e,];rw[c]),];rw[g.nz x b]
def Gi.suc(g:Gi N E l)(j:p∈aX l):Gi N (aY E k<|E k++[p])<|gj l p λq=>(q.1,q.2++[k]):=by
 rw[(by rw[bc,];rw[g.nd],λr H=>?_,λr H x=>?_,λx u d=>?_,λx c=>g.nz x (by rwa [bc]at c))]
 .let(q,b,rfl):=io.mp H;let z:=g.np q b;clear H;split<;>rw[z]
 .let(q,b,rfl):=io.mp H;let z:=g.sc q b x;by_cases h:q.1=p
  .rw[Z0 h,];show(q.2.2++[k]).count x=(aY E k (E k++[p]) x).count q.1;by_cases e:x=k
   .clear H;subst e;rw[bS,AQ,AQ,z,h,Dv,Dv]
   .rw[aU _ _ e,AQ,z,C4 (a:=x) (l:=[k]) λm=>e<|Au.mp m];rfl
  .rw[Z7 h,];by_cases e:x=k
   .clear H;subst e;rw[bS,AQ,z,C4 (a:=q.1) (l:=[p]) λm=>h<|Au.mp m];rfl
   .rw[aU _ _ e,];rw[z]
 .rw[bc,];by_cases e:x=k
  .subst e;rw[bS]at d;rcases AB.mp d with d|d
   .rw[g.us x u d]
   .rw[Au.mp d,];rw[j]
  .rw[aU _ _ e]at d;rw[g.us x u d]
def afS f k (a b:β):aY (aY f k a) k b=aY f k b:=funext λx=>by delta aY;split<;>rfl
def ahx(f:U->β)(k:U):aY f k (f k)=f:=funext λx=>by
 delta aY;split
 .rename_i h;rw[h,]
 .rfl
def Gi.sucs:∀(ps:!U){E:U->!U}{l:!Pn},Gi N E l->k∈aX l->Gi N (aY E k<|E k++ps) (k5 k ps l)/\∀x,x∈aX l\/x∈ps<->x∈aX (k5 k ps l):=by
 cases _ with
 |nil=>intro E l g _;rw[(by rw[Az,ahx];rw[g],λx=>⟨λh=>h.resolve_right (λh=>nomatch h),.inl⟩)]
 |cons p ps i=>
  intro E l g b;let d:=(g.ens p).suc (k:=k)<|dH.mpr<|.inr rfl;let H:k∈aX (gj (fM l p) p λq=>(q.1,q.2++[k])):=by rw[bc,];rw[dH.mpr<|.inl b]
  let(e,c):=i d H;rw[bS,afS,AD]at e;rw[(e,λx=>?_)];rw[show k5 k (p::ps) l=k5 k ps (gj (fM l p) p λq=>(q.1,q.2++[k]))from rfl,<-c,bc,dH,Ar];rw[(λh=>h.elim (λh=>.inl<|.inl h) λh=>h.elim (λh=>.inl<|.inr h) .inr,λh=>h.elim (λh=>h.elim .inl λh=>.inr<|.inl h) λh=>.inr<|.inr h)]
def Gi.add(g:Gi N E l)(H:N k=0)(c:E k=[])(ps:!U):Gi (aY N k ps.length) (aY E k ps) (k9 l k ps)/\∀x,x∈aX l\/x=k\/x∈ps<->x∈aX (k9 l k ps):=by let b:k∈aX (fM l k):=dH.mpr<|.inr rfl;let d:=(g.ens k).cnt b ps.length;rw[H,Bh]at d;let(e,i):=Gi.sucs ps d (by rw[bc,];rw[b]);rw[c,Dy]at e;rw[(e,λx=>?_)];rw[show k9 l k ps=k5 k ps (gj (fM l k) k λq=>(q.1+ps.length,q.2))from rfl,<-i,bc,dH];rw[(λh=>h.elim (λh=>.inl<|.inl h) λh=>h.elim (λh=>.inl<|.inr h) .inr,λh=>h.elim (λh=>h.elim .inl λh=>.inr<|.inl h) λh=>.inr<|.inr h)]
end
noncomputable def yF:!(U×!U)->(U->!U)->U->!U
 |[],E=>E
 |e::r,E=>yF r<|aY E e.1 e.2
theorem abp:∀(γ:List<|U×!U)(E:U->!U)(l:!Pn),Gi (λx=>(E x).length) E l->(γ.map (·.1)).Nodup->(∀e∈γ,E e.1=[])->Gi (λx=>(yF γ E x).length) (yF γ E) (c7 γ l)/\∀x,x∈aX l\/(∃e∈γ,x=e.1\/x∈e.2)<->x∈aX (c7 γ l)
 |[],E,l,g,_,_=>⟨g,λx=>⟨λh=>h.elim id (by rintro⟨_,h,_⟩;rw[nomatch h]),.inl⟩⟩
 |(k,d)::γ,E,l,g,c,b=>by
  let(n,N):=AC.mp c;let e0:E k=[]:=b _ aE;let(G,i):=g.add (k:=k) (by rw[e0,];rfl) e0 d;let j:aY (λx=>(E x).length) k d.length=λx=>(aY E k d x).length:=funext λx=>by delta aY;split<;>rfl
  rw[j]at G;let(m,r):=abp γ _ _ G N λe H=>by rw[aU _ _ λz=>n (show k∈γ.map (·.1)by rw[<-z];rw[Av H]),];rw[b e<|.tail _ H]
  rw[(m,λx=>?_)];rw[show c7 ((k,d)::γ) l=c7 γ (k9 l k d)from rfl,<-r,<-i];constructor
  .rintro(h|⟨e,H,h⟩)
   .rw[.inl<|.inl h]
   .rcases Ar.mp H with rfl|H
    .rw[.inl<|.inr h]
    .rw[.inr ⟨e,H,h⟩]
  .rintro((h|h)|⟨e,H,h⟩)
   .rw[.inl h]
   .rw[.inr ⟨_,aE,h⟩]
   .rw[.inr ⟨e,.tail _ H,h⟩]
def alJ:Gi (λx=>([]:!U).length) (λQ=>[]) []:=⟨AS,(λQ h=>nomatch h),(λQ h=>nomatch h),(λQ Q h=>nomatch h),λQ Q=>rfl⟩
structure xk(K:!U)(sc:U->!U)(aa:!Nd):Prop where
 ks:aa.map (·.k)=K
 ex:∀k∈K,∃nd∈aa,nd.k=k/\nd.sc=sc k
noncomputable def mZ(sc:U->!U):!U->Prop
 |[]=>True
 |x::r=>A3 (∀y∈sc x,y∈r) (x∉r)<|mZ sc r
noncomputable def Ch(sc:U->!U)(F:!U):U->!Pe->Prop
 |_,[]=>True
 |a,e::r=>(∃pre,e.sc.take e.j=pre++[a]/\∀y∈pre,y∈F)/\Ch sc F e.k r
noncomputable def sQ(sc:U->!U):!U->Prop
 |[]=>True
 |a::r=>(match r with|[]=>True|b::_=>b∈sc a)/\sQ sc r
noncomputable def ll(st:!Pe):!U:=st.map (·.k)
noncomputable def n7:!Pe->Nat
 |[]=>0
 |e::r=>(e.sc.length-e.j)+n7 r
structure Se(K:!U)(sc:U->!U)(st:!Pe)(F:!U):Prop where
 ent:∀e∈st,e.sc=sc e.k/\e.k∈K
 nd:(ll st).Nodup
 dis:∀x∈F,x∉ll st
 topo:mZ sc F
def vV(K:!U)(sc:U->!U)(q:!U):Prop:=dK λx t=>A4 (q=x::t++[x]) ((x::t).Nodup) (∀y∈x::t,y∈K)<|sQ sc q
section
variable{K:!U}{st:!Pe}
def Ch.mono{b:!U}(h:∀x∈F,x∈b):∀{st:!Pe}{a:U},Ch sc F a st->Ch sc b a st:=by
 cases _ with
 |nil=>intro _ _;rw[Z9]
 |cons e r i=>rintro a ⟨⟨pre,H,c⟩,d⟩;rw[(⟨pre,H,λy m=>h y<|c y m⟩,i d)]
def ai2(C:∀k∈K,∀y∈sc k,y∈K):∀(st:!Pe)(F:!U),Se K sc st F->(∀e r,st=e::r->(∀y∈e.sc.take e.j,y∈F)/\Ch sc F e.k r)->
  (n9 λd b c=>A6 (pp st=Y (d,b)) (n7 b+1<=n7 st) (d∈K) (Se K sc b c) (Ch sc c d b) (∀x,(x∈ll st\/x∈F)<->(x∈ll b\/x∈c)))\/
  (pp st=As/\∃c,mZ sc c/\∀x,(x∈ll st\/x∈F)<->x∈c):=by
 cases _ with
 |nil=>intro F h _;rw[.inr ⟨rfl,F,h.topo,λx=>⟨λm=>m.resolve_left λh=>(nomatch h),.inr⟩⟩]
 |cons e r i=>
  intro F h w;let(M,Q):=w e r rfl;let(l,A):=h.ent e aE;clear w;cases H:e.sc[e.j]? with
  |some x=>
   let(lt,I):=Dw.mp H;rw[.inl ⟨x,{e with j:=e.j+1}::r,F,by unfold pp;rw[H,],?_,C e.k A x (by rw[<-l];rw[Br H]),⟨λE m=>?_,h.nd,h.dis,h.topo⟩,⟨⟨e.sc.take e.j,by rw[List.take_add_one,H];rfl,M⟩,Q⟩,λx=>Iff.rfl⟩]
   .rw[aok lt]
   .clear i;rcases Ar.mp m with rfl|m
    .rw[(l,A)]
    .rw[h.ent E<|.tail _ m]
  |none=>
   rw[List.take_of_length_le<|FT.mp H]at M;let(N,B):=AC.mp (show(e.k::ll r).Nodup from h.nd);let eb:pp (e::r)=pp r:=by show(match e.sc[e.j]? with|some x=>_|none=>pp r)=_;rw[H,]
   let n:∀x,(x∈ll (e::r)\/x∈F)<->(x∈ll r\/x∈e.k::F):=λx=>by show(x∈e.k::ll r\/x∈F)<->_;rw[Ar,Ar];rw[(λh=>h.elim (λh=>h.elim (λh=>.inr<|.inl h) .inl) λh=>.inr<|.inr h,λh=>h.elim (λh=>.inl<|.inr h) λh=>h.elim (λh=>.inl<|.inl h) .inr)]
   rcases i (e.k::F) ⟨λE m=>h.ent E (.tail _ m),B,λx m=>(Ar.mp m).elim (λq=>q▸N) λm q=>h.dis x m (.tail _ q),⟨λy m=>M y (by rw[l,];rw[m]),λm=>h.dis _ m aE,h.topo⟩⟩ λE r' er=>by
    clear eb h i N B n;subst er;let((pre,L,V),p3):=Q;rw[(λy m=>?_,Ch.mono (λx m=>.tail _ m) p3)];rw[L]at m;rcases AB.mp m with m|m
    .rw[.tail _<|V y m]
    .rw[Au.mp m,];rw[aE] with⟨d,b,c,b1,b2,b3,b4,b5,b6⟩|⟨b1,c,b2,b3⟩
   .rw[.inl ⟨d,b,c,by rw[eb,b1],by rw[aol b2],b3,b4,b5,λx=>(n x).trans<|b6 x⟩]
   .rw[.inr ⟨by rw[eb,b1],c,b2,λx=>(n x).trans<|b3 x⟩]
def ahy:∀{st:!Pe}{i:Nat},jg st k=Y i->n9 λpre e r=>A3 (st=pre++e::r) (e.k=k) (i=r.length):=by
 cases _ with
 |nil=>intro _ h;rw[nomatch h]
 |cons e r I=>
  intro i h;let h:(if e.k==k then Y r.length else jg r k)=Y i:=h;cases H:e.k==k with
  |true=>rw[H]at h;rw[([],e,r,rfl,BX H,(B3 h).symm)]
  |false=>rw[H]at h;let(pre,E,b,rfl,c,d):=I h;rw[(e::pre,E,b,rfl,c,d)]
theorem acv:∀{st:!Pe},jg st k=As->k∉ll st
 |[],_,m=>nomatch m
 |e::r,h,m=>by
  let h:(if e.k==k then Y r.length else jg r k)=As:=h;cases H:e.k==k with
  |true=>rw[H]at h;rw[nomatch h]
  |false=>
   rw[H]at h;rcases Ar.mp (show k∈e.k::ll r from m)with rfl|m
   .rw[ZY]at H;rw[nomatch H]
   .rw[acv h m]
def sQ.snoc{l:!U}{b a:U}(h:sQ sc<|l++[b])(k:a∈sc b):sQ sc<|l++[b]++[a]:=by
 cases l with
 |nil=>rw[(k,Z9,trivial)]
 |cons x l i=>
  cases l using A8 with
  |nil=>rw[(h.1,i h.2)]
  |cons y l=>rw[(h.1,i h.2)]
def alK:∀(pre:!Pe)(e:Pe)(r:!Pe)(a:U),(∀x∈pre++e::r,x.sc=sc x.k)->Ch sc F a (pre++e::r)->sQ sc (e.k::(ll pre).reverse++[a]):=by
 cases _ with
 |nil=>rintro e r a h ⟨⟨pre,H,_⟩,_⟩;let m:a∈e.sc:=Ho (i:=e.j) (by rw[H,];rw[Aq _ aE]);rw[h e aE]at m;rw[(m,Z9,trivial)]
 |cons p pre I=>rintro e r a h ⟨⟨b,H,_⟩,c⟩;let m:a∈p.sc:=Ho (i:=p.j) (by rw[H,];rw[Aq _ aE]);rw[h p aE]at m;let E:ll (p::pre)=p.k::ll pre:=rfl;rw[E,ET];let z:=sQ.snoc (l:=e.k::(ll pre).reverse) (I e r p.k (λx m=>h x<|.tail _ m) c) m;rw[<-DS];rw[z]
def yH(K:!U)(sc:U->!U)(ks:!U)(k:U)(ab:Option<|!U)(b:!U):Prop:=match ab with
 |some q=>vV K sc q
 |none=>∃c,A6 (mZ sc c) (∀x,x∈b<->x∈c) b.Nodup (∀x∈b,x∈K) (∀x∈ks,x∈b)<|k∈b
structure Sn(K:!U)(st:!Pe)(F ks:!U):Prop where
 eq:∀x,x∈ks<->x∈ll st\/x∈F
 nd:ks.Nodup
 sub:∀x∈ks,x∈K
def dI:∀{l m:!U},l.Nodup->(∀x∈l,x∈m)->l.length<=m.length:=by
 cases _ with
 |nil=>intro _ _ _;rw[Bd _]
 |cons a l i=>
  intro m c h;let(b,e):=AC.mp c;clear c;let(p,q,rfl):=BS<|h a aE
  let z:=i (m:=p++q) e λx H=>by
   let m:=h x<|.tail _ H;rcases AB.mp m with m|m
   .rw[Ao _ m]
   .clear h;rcases Ar.mp m with rfl|m
    .rw[ZZ H b]
    .rw[Aq _ m]
  rw[Ay]at z ⊢;rw[ahX z]
def acw{u:Nat}{ks:!U}(hK:∀k∈K,∀y∈sc k,y∈K)(G:K.length<=90)(d:Se K sc st F)(hc:Ch sc F k st)(H:Sn K st F ks)(C:k∈K)(hu:K.length=ks.length+u)
  (ihu:∀u'<u,∀(m:Nat)(st:!Pe)(ks F:!U)(k:U),Se K sc st F->Ch sc F k st->Sn K st F ks->k∈K->K.length=ks.length+u'->n7 st<=m->dK λab b=>(∀aa,xk K sc aa->VS aa st ks k ab b)/\yH K sc ks k ab b)
  (I:∀(c:!Pe)(j:!U)(w:U),n7 c+1<=n7 st->Se K sc c j->Ch sc j w c->Sn K c j ks->w∈K->dK λab b=>(∀aa,xk K sc aa->VS aa c ks w ab b)/\yH K sc ks w ab b):dK λab b=>(∀aa,xk K sc aa->VS aa st ks k ab b)/\yH K sc ks k ab b:=by
 by_cases n:k∈ks
 .cases L:jg st k with
  |some i=>
   clear H I;let(pre,e,r,rfl,rfl,rfl):=ahy L;rw[(Y<|((pre++e::r).reverse.map (·.k)).drop r.length++[e.k],ks,λaa _=>.ret n L,?_)];let eq:((pre++e::r).reverse.map (·.k)).drop r.length=e.k::(ll pre).reverse:=by rw[List.reverse_append,ET,AD,AE,List.drop_append_of_le_length (by rw[Ap,Er];rw[AA _]),List.drop_of_length_le (by rw[Ap,Er];rw[AA _]),Dy,AE,Jf];rfl
   rw[eq,];let B:=d.nd;unfold ll at B;rw[AE]at B;let(n1,n2,n3):=Bu.mp B;rw[(e.k,(ll pre).reverse,rfl,AC.mpr ⟨λm=>n3 _ (Ji.mp m) _ aE rfl,(List.reverse_perm _).nodup_iff.mpr n1⟩,λy m=>?_,alK pre e r e.k (λx m=>(d.ent x m).1) hc)];rcases Ar.mp m with rfl|m
   .rw[C]
   .let(x,hx,rfl):=AM.mp<|Ji.mp m;rw[(d.ent x<|Ao _ hx).2]
  |none=>
   rcases ai2 hK st F d λe r er=>by
    clear d I;subst er;let((pre,p1,p2),p3):=hc;rw[(λy m=>?_,p3)];rw[p1]at m;rcases AB.mp m with m|m
    .rw[p2 y m]
    .rw[Au.mp m,];rw[((H.eq k).mp n).resolve_left<|acv L]with⟨w,c,j,b1,b2,b3,b4,b5,b6⟩|⟨b1,j,b2,b3⟩
   .let(ab,b,V,M):=I c j w b2 b4 b5 ⟨λx=>(H.eq x).trans<|b6 x,H.nd,H.sub⟩ b3;rw[(ab,b,λaa E=>.skip n L b1<|V aa E,?_)];clear H d I V;cases ab with
    |some q=>rw[M]
    |none=>let(F2,t1,t2,t3,t4,N,t6):=M;rw[(F2,t1,t2,t3,t4,N,N k n)]
   .rw[(As,ks,λaa _=>.skipE n L b1,j,b2,λx=>(H.eq x).trans<|b3 x,H.nd,H.sub,λ_ h=>h,n)]
 .let lt:ks.length<K.length:=by
   let z:=dI (l:=k::ks) (m:=K) (AC.mpr ⟨n,H.nd⟩) λx hx=>(Ar.mp hx).elim (λe=>e▸C)<|H.sub x
   rw[AI]at z;rw[z]
  let kn:=λh=>n<|(H.eq k).mpr h
  let hs':Se K sc (⟨k,sc k,0⟩::st) F:=⟨λe m=>(Ar.mp m).elim (λh=>by subst h;rw[(rfl,C)])<|d.ent e,AC.mpr ⟨λm=>kn<|.inl m,d.nd⟩,λx m q=>(Ar.mp q).elim (λe=>kn<|.inr ((show x=k from e)▸m))<|d.dis x m,d.topo⟩;let sw:∀x,x∈k::ks<->(x∈ll (⟨k,sc k,0⟩::st)\/x∈F):=λx=>by show _<->(x∈k::ll st\/x∈F);rw[Ar,Ar,H.eq x,or_assoc]
  let Q:=AC.mpr ⟨n,H.nd⟩;let A:=λx m=>(Ar.mp m).elim (λe=>e▸C)<|H.sub x
  rcases ai2 hK _ F hs' λe r er=>by clear H d I;let(rfl,rfl):=DF er;rw[(λy m=>(nomatch(show y∈([]:!U)from(List.take_zero (l:=sc k))▸m)),hc)]with⟨w,c,j,b1,b2,b3,b4,b5,b6⟩|⟨b1,j,b2,b3⟩
  .let(ab,b,V,M):=ihu (u-1) (aom hu lt) (n7 c) c (k::ks) j w b4 b5 ⟨λx=>(sw x).trans<|b6 x,Q,A⟩ b3 (by rw[AI,];rw[aon hu lt])<|AA _;rw[(ab,b,λaa E=>?_,?_)]
   .let(nd,m1,m2,m3):=E.ex k C;rw[.push n m1 m2 (ah1 G lt) (by rw[m3,];rw[b1])<|V aa E]
   .clear H d I V;cases ab with
    |some q=>rw[M]
    |none=>let(F2,t1,t2,t3,t4,N,t6):=M;rw[(F2,t1,t2,t3,t4,λx m=>N x<|.tail _ m,N k aE)]
  .rw[(As,k::ks,λaa E=>?_,j,b2,λx=>(sw x).trans<|b3 x,Q,A,λ_ h=>.tail _ h,aE)];let(nd,m1,m2,m3):=E.ex k C;rw[.pushE n m1 m2 (ah1 G lt) (by rw[m3,];rw[b1])]
def asT(B:∀k∈K,∀y∈sc k,y∈K)(G:K.length<=90):∀(u m:Nat)(st:!Pe)(ks F:!U)(k:U),Se K sc st F->Ch sc F k st->Sn K st F ks->k∈K->K.length=ks.length+u->n7 st<=m->dK λab e=>(∀aa,xk K sc aa->VS aa st ks k ab e)/\yH K sc ks k ab e:=by
 intro u;cases u using Jz with
 |ind u i=>
 intro m;cases m with
 |zero=>intro st ks F k l n r w H x;rw[acw B G l n r w H (λA h m st ks F k=>i A h m st ks F k) λj C E lt=>ZZ lt<|aoo x]
 |succ m I=>intro st ks F k l n r w H x;rw[acw B G l n r w H (λA h m st ks F k=>i A h m st ks F k) λj C E lt a b c d=>I j ks C E a b c d H<|aop x lt]
def asU(hK:∀k∈K,∀y∈sc k,y∈K)(G:K.length<=90):∀(r ks F:!U),mZ sc F->(∀x,x∈ks<->x∈F)->ks.Nodup->(∀x∈ks,x∈K)->(∀x∈r,x∈K)->∃ab,(∀aa,xk K sc aa->FS aa r ks ab)/\(match ab with|some q=>vV K sc q|none=>∃b,A3 (mZ sc b) (∀x∈ks,x∈b) (∀x∈r,x∈b)):=by
 cases _ with
 |nil=>intro ks F I i _ _ _;rw[(As,λ_ _=>.nil,F,I,λx m=>(i x).mp m,λ_ h=>nomatch h)]
 |cons k r M=>
  intro ks F I i j n B;let l:=Ax (dI j n) G;by_cases w:k∈ks
  .let(ab,c,d):=M ks F I i j n λx m=>B x<|.tail _ m
   rw[(ab,λaa H=>.skip w l<|c aa H,?_)];clear c;cases ab with
   |some q=>rw[d]
   |none=>let(b,C,A,E):=d;rw[(b,C,A,λx m=>(Ar.mp m).elim (λe=>e▸A k w)<|E x)]
  .let(ab,L,V,N):=asT hK G (K.length-ks.length) 0 [] ks F k ⟨(λ_ h=>nomatch h),AS,(λ_ _ h=>nomatch h),I⟩ Z9 ⟨λx=>(i x).trans ⟨.inr,λh=>h.resolve_left λh=>nomatch h⟩,j,n⟩ (B k aE) (by have:=dI j n;rw[aoq this])<|AA 0;cases ab with
   |some q=>rw[(Y q,λaa H=>.ret w l<|V aa H,N)]
   |none=>
    let(b,C,A,E,t4,t5,t6):=N;let(ab,c,d):=M L b C A E t4 λx m=>B x<|.tail _ m
    rw[(ab,λaa H=>.next w l (V aa H)<|c aa H,?_)];clear c;cases ab with
    |some q=>rw[d]
    |none=>let(F2,s1,Q,s3):=d;rw[(F2,s1,λx m=>Q x<|t5 x m,λx m=>(Ar.mp m).elim (λe=>e▸Q k t6)<|s3 x)]
end
inductive bO(E:U->!U):U->Nat->Prop
 |mk {s m} (f:U->Nat) (h1:∀u∈E s,bO E u (f u)) (h2:∀u∈E s,f u<m) (h3:m=0\/∃u∈E s,f u+1=m):bO E s m
def lC(E:U->!U)(s:U):Prop:=∃m,bO E s m
section
def bO.uniq{m:Nat}(h:bO E s m):∀M,bO E s M->m=M:=by
 cases h with
 |@mk s m f h1 h2 h3 i=>
  intro M H;cases(H) with
  |mk k c G j=>
   let e:=λu d=>i u d _<|c u d
   let a:m<=M:=by
    clear h2;rcases h3 with rfl|⟨u,d,rfl⟩
    .rw[Bd _]
    .rw[e u d,];rw[G u d]
   let b:M<=m:=by
    clear a G;rcases j with rfl|⟨u,d,rfl⟩
    .rw[Bd _]
    .rw[<-e u d];rw[h2 u d]
   rw[Fq a b]
def afT(f:U->Nat):∀l:!U,∃m,(∀u∈l,f u<m)/\(m=0\/∃u∈l,f u+1=m):=by
 cases _ with
 |nil=>rw[(0,(λx h=>nomatch h),.inl rfl)]
 |cons a l i=>
  let(m,H,b):=i;by_cases h:f a<m
  .rw[(m,λu d=>(Ar.mp d).elim (λe=>e▸h)<|H u,b.imp id λ⟨u,d,e⟩=>⟨u,.tail _ d,e⟩)]
  .rw[(f a+1,λu d=>(Ar.mp d).elim (λe=>by rw[e,];rw[B6 _]) λd=>?_,.inr ⟨a,aE,rfl⟩)];have:=H u d;rw[aor h this]
def afU(h:∀u∈E s,lC E u):lC E s:=by
 classical
 refine_lift let f:U->Nat:=λu=>if h:lC E u then h.choose else 0;?_
 let C:∀u∈E s,bO E u<|f u:=λu d=>by let e:f u=(h u d).choose:=dif_pos<|h u d;rw[e,];rw[(h u d).choose_spec]
 let(m,a,b):=afT f<|E s;rw[(m,.mk f C a b)]
def m6(h:lC E s){u:U}(d:u∈E s):lC E u:=by
 let(m,h):=h;cases h with
 |mk f H _ _=>rw[(f u,H u d)]
def acx(h:¬lC E s):∃u∈E s,¬lC E u:=by
 classical
 rw[CA λn=>h<|afU λu d=>?_]
 rw[CA λk=>n ⟨u,d,k⟩]
def kQ{m d:Nat}(h:bO E s m){u:U}(H:u∈E s)(hd:bO E u d):d<m:=by
 cases h with
 |mk f b e _=>rw[hd.uniq _<|b u H,];rw[e u H]
def fZ(h:E s=[]):bO E s 0:=.mk (λQ=>0) (λu d=>by rw[h]at d;rw[nomatch d]) (λu d=>by rw[h]at d;rw[nomatch d])<|.inl rfl
def acy{sc:U->!U}:∀{p r:!U},mZ sc (p++r)->mZ sc r:=by
 cases _ with
 |nil=>intro _ h;rw[h]
 |cons _ p i=>intro r h;rw[i h.3]
def afV{sc:U->!U}(h:∀x y,y∈sc x<->x∈E y){F:!U}(I:mZ sc F)(l:∀y∈F,∀u∈E y,u∈F):∀(n:Nat)(p r:!U)(y:U),p.length=n->F=p++y::r->lC E y:=by
 intro n;cases n using Jz with
 |ind n i=>
 intro p r y j e;subst e;rw[afU λu d=>?_]
 let B:=acy (p:=p) I
 let M:u∈p:=by
  rcases AB.mp (l y (Aq _ aE) u d)with m|m
  .rw[m]
  .exfalso;let k:=(h u y).mpr d;clear l I d i;rcases Ar.mp m with rfl|m
   .rw[B.2<|B.1 _ k]
   .let(c,L,rfl):=BS m;let z:=acy (p:=c) B.3;rw[B.2<|Aq _<|.tail _<|z.1 _ k]
 clear l I d;let(b,w,rfl):=BS M;rw[i b.length (by rw[<-j,Ay,AI];rw[aos]) b (w++y::r) u rfl (by rw[AD,];rfl)]
def acz{sc:U->!U}(c:∀x y,y∈sc x->x∈E y):∀(l:!U)(a z:U)(m:Nat),sQ sc (a::l++[z])->bO E z m->∃d,bO E a d/\d<m:=by
 cases _ with
 |nil=>intro a z m h e;let(d,H):=m6 ⟨m,e⟩<|c a z h.1;rw[(d,H,kQ e (c a z h.1) H)]
 |cons b l i=>intro a z m h e;let(d,H,lt):=i b z m h.2 e;let(n,A):=m6 ⟨d,H⟩<|c a b h.1;rw[(n,A,Dj (kQ H (c a b h.1) A) lt)]
end
theorem f4:∀a b:!bu,dN (a++b)=(dN a||dN b)
 |[],b=>rfl
 |.opn::a,b=>rfl
 |.tok ..::a,b=>f4 a b
 |.ask ..::a,b=>f4 a b
theorem f5:∀a b:!bu,bR (a++b)=bR a++bR b
 |[],b=>rfl
 |.opn::a,b=>f5 a b
 |.tok ..::a,b=>f5 a b
 |.ask _ _ n::a,b=>Z8 (_::·)<|f5 a b
def iV{α:Type}(f:α->!bu):∀l:!α,dN (l.flatMap f)=J<->∃x∈l,dN (f x)=J:=by
 cases _ with
 |nil=>rw[((λh=>nomatch h),by rintro⟨_,h,_⟩;rw[nomatch h])]
 |cons a l i=>
  rw[Cn,f4,D7,i];constructor
  .rintro(h|⟨x,H,h⟩)
   .rw[(a,aE,h)]
   .rw[(x,.tail _ H,h)]
  .rintro⟨x,H,h⟩;rcases Ar.mp H with rfl|H
   .rw[.inl h]
   .rw[.inr ⟨x,H,h⟩]
def aaF{α:Type}(f:α->!bu) v:∀l:!α,v∈bR (l.flatMap f)<->∃x∈l,v∈bR (f x):=by
 cases _ with
 |nil=>rw[((λh=>nomatch h),by rintro⟨_,h,_⟩;rw[nomatch h])]
 |cons a l i=>
  rw[Cn,f5,AB,i];constructor
  .rintro(h|⟨x,H,h⟩)
   .rw[(a,aE,h)]
   .rw[(x,.tail _ H,h)]
  .rintro⟨x,H,h⟩;rcases Ar.mp H with rfl|H
   .rw[.inl h]
   .rw[.inr ⟨x,H,h⟩]
def ip{i:List<|It×Nat}{u:U}:u∈ja i<->∃q∈i,q.1.u=J/\T q.1.w=u:=by
 delta ja;rw[DJ,];constructor
 .rintro⟨q,H,h⟩;rw[(q,H,?_)];cases e:q.1.u with
  |true=>rw[e]at h;rw[(rfl,(Au.mp h).symm)]
  |false=>rw[e]at h;rw[nomatch h]
 .rintro⟨q,H,b,rfl⟩;rw[(q,H,?_)];rw[b,];rw[aE]
section
structure Aj(fs:!Fi)(E:U->!U):Prop where
 file:∀s F,look fs s=Y F->E s=ja F.ak
 no:∀s,look fs s=As->E s=[]
 mem:∀F∈fs,look fs F.f.nm=Y F
def sR(x:It)(h:x.u=J):x=⟨J,x.w,x.n⟩:=by let(u,w,n):=x;obtain rfl:u=J:=h;rfl
def alL(x:It)(h:x.u=O):x=⟨O,x.w,x.n⟩:=by let(u,w,n):=x;obtain rfl:u=O:=h;rfl
theorem ahz(b:Aj fs E):∀(d:Nat)(s:U)(ah:!U)(F:Fi),¬lC E s->look fs s=Y F->Dp fs d ah->dN (cw fs d F ah F.ak)=J:=by
 intro d;cases d with
 |zero=>
  intro s ah F c l m;let(u,h,nu):=acx c;rw[b.file s F l]at h;let(q,e,i,rfl):=ip.mp h;rw[(iV _ _).mpr ⟨q,e,?_⟩]
  let H:aZ ah (T q.1.w)=J:=by
   clear h;cases Q:look fs (T q.1.w)with
   |none=>rw[ZZ ⟨0,fZ<|b.no _ Q⟩ nu]
   |some G=>let(M,eG):=dZ Q;rw[<-eG];rw[m G M]
  rw[sR q.1 i,fU H];rfl
 |succ d I=>
  intro s ah F c l m;let(u,h,nu):=acx c;rw[b.file s F l]at h;let(q,e,i,rfl):=ip.mp h;rw[(iV _ _).mpr ⟨q,e,?_⟩];rw[sR q.1 i,];clear h;cases H:aZ ah (T q.1.w)with
  |true=>rw[fU H,];rfl
  |false=>
   cases Q:look fs (T q.1.w)with
   |none=>rw[ZZ ⟨0,fZ<|b.no _ Q⟩ nu]
   |some G=>
    let(M,eG):=dZ Q;rw[fV H Q,];let j:Dp fs d<|T q.1.w::ah:=by let z:=m G M (by rw[eG,];rw[H]);rwa [eG]at z
    rw[I (T q.1.w) (T q.1.w::ah) G nu Q j]
theorem afW(I:Aj fs E){s:U}{m:Nat}(h:bO E s m):∀(d:Nat)(ah:!U)(F:Fi),look fs s=Y F->Dp fs d ah->(∀x∈ah,∀M,bO E x M->m<=M)->A3 (dN (cw fs d F ah F.ak)=O) (∀v∈bR (cw fs d F ah F.ak),v+1<=ah.length+m) (m≠0->((ah.length+m:Nat):Int)-1∈bR (cw fs d F ah F.ak)):=by
 cases h with
 |@mk s m f h1 l w ih=>
  intro d ah F hl L H;let eE:=I.file s F hl
  let j:∀q∈F.ak,A3 (dN (fS fs d F.f.nm ah q.1)=O) (∀v∈bR (fS fs d F.f.nm ah q.1),v+1<=ah.length+m)<|q.1.u=J->((ah.length+f (T q.1.w):Nat):Int)∈bR (fS fs d F.f.nm ah q.1):=by
   intro q b;clear w;cases c:q.1.u with
   |false=>rw[alL q.1 c,hY];rw[(rfl,(λ_ h=>nomatch h),λh=>nomatch h)]
   |true=>
    let A:T q.1.w∈E s:=by rw[eE,];rw[ip.mpr ⟨q,b,c,rfl⟩]
    let B:=h1 _ A;let lt:=l _ A
    let i:aZ ah (T q.1.w)=O:=by
     clear l c;cases i:aZ ah (T q.1.w)with
     |false=>rfl
     |true=>let(x,n,ex):=Ff.mp i;let z:=H x n _ (by rw[BX ex,];rw[B]);rw[(Ce lt z).elim]
    rw[sR q.1 c,];clear l c;cases Q:look fs (T q.1.w)with
    |none=>
     rw[mC i Q,];let e0:=B.uniq _<|fZ<|I.no _ Q;rw[(rfl,λv k=>?_,λ_=>?_)]
     .rw[Au.mp (show v∈[(ah.length:Int)]from k),];rw[ah2 lt]
     .rw[e0,];rw[aE]
    |some G=>
     let(N,eG):=dZ Q;cases d using BE with
     |zero=>let z:=L G N;rw[eG,i]at z;rw[nomatch z]
     |succ d=>
      let C:Dp fs d<|T q.1.w::ah:=by let z:=L G N (by rw[eG,];rw[i]);rwa [eG]at z
      let(i1,V,i3):=ih _ A d (T q.1.w::ah) G Q C λx n M r=>by
       clear i;rcases Ar.mp n with rfl|n
       .rw[AY<|B.uniq _ r]
       .have:=H x n M r;rw[aot lt this]
      rw[fV i Q,];rw[AI]at V i3;rw[(i1,λv k=>?_,λ_=>?_)]
      .clear i H;rcases Ar.mp (show v∈(ah.length:Int)::bR (cw fs d G (T q.1.w::ah) G.ak)from k)with rfl|k
       .rw[ah2 lt]
       .have:=V v k;rw[aou lt this]
      .by_cases e0:f (T q.1.w)=0
       .rw[e0,];rw[aE]
       .let z:=i3 e0;let e:((ah.length+1+f (T q.1.w):Nat):Int)-1=((ah.length+f (T q.1.w):Nat):Int):=aov;rw[e]at z;rw[.tail _ z]
  rw[(?_,λv k=>?_,λhm=>?_)]
  .clear l w H;cases hh:dN (cw fs d F ah F.ak)with
   |false=>rfl
   |true=>let(q,b,z):=(iV _ _).mp hh;rw[(j q b).1]at z;rw[nomatch z]
  .let(q,b,z):=(aaF _ v _).mp k;rw[(j q b).2 v z]
  .clear l H;let(u,c,rfl):=w.resolve_left hm;rw[eE]at c;clear w hm;let(q,b,q1,rfl):=ip.mp c;rw[(aaF _ _ _).mpr ⟨q,b,?_⟩];rw[aow,];rw[(j q b).3 q1]
def asV:∀(l:!Int)(b m:Int),b<=m->(∀v∈l,v<=m)->(b=m\/m∈l)->mQ l b=m:=by
 cases _ with
 |nil=>intro b m _ _ h;rw[h.resolve_right λh=>nomatch h]
 |cons x l i=>
  intro b m d H h;unfold mQ;let c:=H x aE;by_cases k:x>b
  .rw[ZT k,];rw[i x m c (λv e=>H v<|.tail _ e) ?_];clear d H;rcases h with rfl|h
   .rw[(aox k c).elim]
   .clear c k;rcases Ar.mp h with rfl|h
    .rw[.inl rfl]
    .rw[.inr h]
  .rw[ZU k,];rw[i b m d (λv e=>H v<|.tail _ e) ?_];clear H c;rcases h with rfl|h
   .rw[.inl rfl]
   .rcases Ar.mp h with rfl|h
    .rw[.inl<|aoy d k]
    .rw[.inr h]
end
structure lm(K:!U)(sc:U->!U)(np:U->Int)(aa:!Nd):Prop where
 ks:aa.map (·.k)=K
 sc:∀nd∈aa,nd.sc=sc nd.k
 np:∀nd∈aa,nd.np=np nd.k
noncomputable def eu:!U->(U->Int)×!U->(U->Int)×!U
 |[],p=>p
 |s::r,p=>eu r (aY p.1 s<|p.1 s-1,if p.1 s-1==0 then p.2++[s]else p.2)
noncomputable def pZ(sc:U->!U):!U->(U->Int)×!U->(U->Int)×!U
 |[],p=>p
 |k::r,p=>pZ sc r<|eu (sc k) (aY p.1 k<|-2,p.2)
section
variable{K:!U}{sc:U->!U}{np:U->Int}
def lm.fnd(h:lm K sc np aa)(b:k∈K):∃d,A5 (kl aa k=Y d) (d∈aa) (d.k=k) (d.sc=sc k) (d.np=np k):=by let(d,H):=afe (m:=aa) (k:=k) (by rw[h.ks,];rw[b]);let(m,rfl):=my H;rw[(d,H,m,rfl,h.sc d m,h.np d m)]
def lm.upd(h:lm K sc np aa)(k:U)(q:Int):lm K sc (aY np k q)<|bQ aa k q:=by
 rw[(by rw[bL,];rw[h.ks],λd H=>?_,λd H=>?_)]
 .let(v,b,rfl):=AM.mp H;let z:=h.sc v b;by_cases e:v.k=k
  .rw[Z0<|beq_iff_eq.mpr e,];rw[z]
  .rw[Z7 λx=>e<|BX x,];rw[z]
 .let(v,b,rfl):=AM.mp H;by_cases e:v.k=k
  .rw[Z0<|beq_iff_eq.mpr e,];show q=aY np k q v.k;rw[e,bS]
  .rw[Z7 λx=>e<|BX x,aU _ _ e];rw[h.np v b]
def afX:∀(L:!U)(np:U->Int)(aa:!Nd)(rs:!U)(o:Option<|U×Nat),lm K sc np aa->(∀s∈L,s∈K)->lm K sc (eu L (np,rs)).1 (c8 L (aa,rs,o)).1/\(c8 L (aa,rs,o)).2.1=(eu L (np,rs)).2:=by
 cases _ with
 |nil=>intro np aa rs o h _;rw[(h,rfl)]
 |cons s L i=>
  intro np aa rs o h c;let(d,H,k,l,m,b):=h.fnd<|c s aE;let e:fR (aa,rs,o) s=(bQ aa s<|np s-1,if np s-1==0 then rs++[s]else rs,Y (s,d.ia)):=by delta fR;rw[H,<-b]
  show lm K sc (eu L _).1 (c8 L<|fR (aa,rs,o) s).1/\(c8 L<|fR (aa,rs,o) s).2.1=_;rw[e,];rw[i _ _ _ _ (h.upd s<|np s-1) λx j=>c x<|.tail _ j]
def afY:∀(L:!U)(p:(U->Int)×!U),(eu L p).2.length<=p.2.length+L.length:=by
 cases _ with
 |nil=>intro p;rw[AA _]
 |cons s L i=>
  intro p;rw[Ax (i _) ?_];split
  .rw[Ay,Ci];rw[aD [p.snd.length,L.length] 0x111115040511140000]
  .rw[aoB]
def ahA(l:∀k∈K,∀s∈sc k,s∈K)(hl:∀k∈K,(sc k).length<=100):∀(ks:!U)(np:U->Int)(aa:!Nd)(rs:!U),lm K sc np aa->(∀k∈ks,k∈K)->ks.Nodup->(∀k∈ks,np k=-1)->(∀k∈ks,∀M∈ks,M∉sc k)->rs.length+100*ks.length<1000->A3 (tO ks (aa,rs)) (lm K sc (pZ sc ks (np,rs)).1 (ro ks (aa,rs)).1) ((ro ks (aa,rs)).2=(pZ sc ks (np,rs)).2):=by
 cases _ with
 |nil=>intro np aa rs h _ _ _ _ _;rw[(trivial,h,rfl)]
 |cons k ks I=>
  intro np aa rs h n N r b A;let(V,n2):=AC.mp N;let i:=n k aE;let(d,B,d2,d3,j,d5):=h.fnd i;rw[AI]at A;let lk:=hl k i;let e:qU (aa,rs) k=((c8 (sc k) (bQ aa k<|-2,rs,As)).1,(c8 (sc k) (bQ aa k<|-2,rs,As)).2.1):=by delta qU;rw[B,<-j]
  let(s1,w):=afX (sc k) (aY np k<|-2) (bQ aa k<|-2) rs As (h.upd k<|-2)<|l k i;let E:=afY (sc k) (aY np k<|-2,rs)
  let cnt:∀(L:!U)(p:(U->Int)×!U)(x:U),x∉L->(eu L p).1 x=p.1 x:=λL=>by
   cases L with
   |nil=>rw[λ_ _ _=>rfl]
   |cons s L I=>intro p x H;show(eu L _).1 x=_;rw[I _ x λm=>H<|.tail _ m,];rw[aU _ _ λe=>H (by rw[e,];rw[aE])]
  let(r1,C,G):=I (eu (sc k) (aY np k<|-2,rs)).1 (c8 (sc k) (bQ aa k<|-2,rs,As)).1 (c8 (sc k) (bQ aa k<|-2,rs,As)).2.1 s1 (λx H=>n x<|.tail _ H) n2 (λx H=>by
   rw[cnt _ _ x<|b k aE x<|.tail _ H,];show aY np k (-2) x=-1;rw[aU _ _ λe=>V (by rw[<-e];rw[H]),]
   rw[r x<|.tail _ H]) (λx H y hy=>b x (.tail _ H) y<|.tail _ hy) (by rw[w,];let E:=E;rw[aoC A lk (by assumption)])
  rw[(⟨⟨d,B,by rw[d5,];rw[r k aE],λs c=>?_,?_⟩,?_⟩,?_,?_)]
  .rw[h.ks,];rw[j]at c;rw[l k i s c]
  .rw[j,];rw[aoD A lk]
  .rw[e,];rw[r1]
  .show lm K sc (pZ sc ks<|eu (sc k) (aY np k<|-2,rs)).1 (ro ks<|qU (aa,rs) k).1;rw[e,];rw[w]at C ⊢;rw[C]
  .show(ro ks<|qU (aa,rs) k).2=(pZ sc ks<|eu (sc k) (aY np k<|-2,rs)).2;rw[e,];rw[w]at G ⊢;rw[G]
def jO:∀(L:!U)(p:(U->Int)×!U)(x:U),(eu L p).1 x=p.1 x-L.count x:=by
 cases _ with
 |nil=>intro p x;rw[ah3]
 |cons s L i=>
  intro p x;show(eu L _).1 x=_;rw[i _ x,];show aY p.1 s (p.1 s-1) x-_=_;by_cases h:x=s
  .subst h;rw[bS,Fp];rw[(KP (p.fst x) 1<|BO x L).trans<|Z8 ((p.fst x)-·)<|EK 1<|BO x L]
  .rw[aU _ _ h,E8 λe=>h e.symm]
noncomputable def in1(a:Int)(n:Nat):Nat:=if 1<=a/\a<=n then 1 else 0
def p0{a:Int}{n:Nat}(h:a<1):in1 a n=0:=Z7 λz=>aoE h z
def sV a:in1 a 0=0:=Z7 λz=>aoF z
def acA a n m:in1 a n+in1 (a-n) m=in1 a (n+m):=by
 delta in1;by_cases c:1<=a/\a<=n
 .rw[Z0 c,Z7<|aoG c,Z0<|aoH c]
 .rw[Z7 c,];by_cases d:1<=a/\a<=((n+m:Nat):Int)
  .rw[Z0 d,Z0<|aoI c d]
  .rw[Z7 d,Z7<|aoJ d]
def acC:∀(L:!U)(p:(U->Int)×!U)(z:U),(eu L p).2.count z=p.2.count z+in1 (p.1 z) (L.count z):=by
 cases _ with
 |nil=>intro p z;rw[CJ,sV];rfl
 |cons s L i=>
  intro p z;show(eu L _).2.count z=_;rw[i _ z,];show(if p.1 s-1==0 then p.2++[s]else p.2).count z+in1 (aY p.1 s (p.1 s-1) z) (L.count z)=_;by_cases h:z=s
  .rw[h,bS,Fp,DB (L.count s) 1,<-acA (p.1 s) 1<|L.count s];by_cases e:p.1 s-1=0
   .rw[Z0<|beq_iff_eq.mpr e,AQ,Dv,Ew];let b:=aoK e;rw[b,];rfl
   .rw[Z7 λx=>e<|BX x,];let b:in1 (p.1 s) 1=0:=Z7 λz=>aoL e z
    rw[b,Bh];rfl
  .let d:¬s=z:=λe=>h e.symm
   rw[aU _ _ h,E8 d]
   let e0:(if p.1 s-1==0 then p.2++[s]else p.2).count z=p.2.count z:=by
    split
    .rw[AQ,C4 (a:=z) (l:=[s]) λm=>h<|Au.mp m];rfl
    .rfl
   rw[e0,]
def alM:∀(ks:!U)(p:(U->Int)×!U),(∀k∈ks,∀i∈ks,i∉sc k)->ks.Nodup->A3 (∀x,x∉ks->(pZ sc ks p).1 x=p.1 x-((ks.flatMap sc).count x:Nat)) (∀z,z∉ks->(pZ sc ks p).2.count z=p.2.count z+in1 (p.1 z) ((ks.flatMap sc).count z)) (∀z∈ks,p.1 z<1->(pZ sc ks p).2.count z=p.2.count z):=by
 cases _ with
 |nil=>intro p _ _;rw[(λx V=>by rw[ah3],λz V=>by rw[List.flatMap_nil,CJ,sV];rfl,λV h=>nomatch h)]
 |cons k ks I=>
  intro p d j;let(w,N):=AC.mp j;let(i1,L,l):=I (eu (sc k) (aY p.1 k<|-2,p.2)) (λx H y B=>d x (.tail _ H) y<|.tail _ B) N;let cf:∀x,((k::ks).flatMap sc).count x=(sc k).count x+(ks.flatMap sc).count x:=λx=>by rw[Cn,AQ]
  let n:∀z,p.1 z<1->aY p.1 k (-2) z<1:=λz b=>by
   delta aY;split
   .decide
   .rw[b]
  rw[(λx H=>?_,λz A=>?_,λz A b=>?_)]
  .let r:x≠k:=λe=>H (by rw[e,];rw[aE])
   show(pZ sc ks<|eu (sc k) (aY p.1 k<|-2,p.2)).1 x=_;rw[i1 x λm=>H<|.tail _ m,jO,cf];show aY p.1 k (-2) x-_-_=_;rw[aU _ _ r,];rw[KP (p.fst x) (BO x<|sc k)<|BO x<|GH sc ks]
  .let c:z≠k:=λe=>A (by rw[e,];rw[aE])
   show(pZ sc ks<|eu (sc k) (aY p.1 k<|-2,p.2)).2.count z=_;rw[L z λm=>A<|.tail _ m,jO,acC,cf,<-acA,Ew];show p.2.count z+(in1 (aY p.1 k (-2) z) _+in1 (aY p.1 k (-2) z-_) _)=_;rw[aU _ _ c,]
  .show(pZ sc ks<|eu (sc k) (aY p.1 k<|-2,p.2)).2.count z=_;let C:(eu (sc k) (aY p.1 k<|-2,p.2)).2.count z=p.2.count z:=by rw[acC,];show p.2.count z+in1 (aY p.1 k (-2) z) _=_;rw[p0<|n z b,];rfl
   let lt:(eu (sc k) (aY p.1 k<|-2,p.2)).1 z<1:=by rw[jO,];have:=n z b;show aY p.1 k (-2) z-_<1;rw[rI this]
   by_cases c:z∈ks
   .rw[l z c lt,C]
   .rw[L z c,C,p0 lt];rfl
end
noncomputable def cP(p:U->Prop):!U->Nat
 |[]=>0
 |a::l=>(@ite _ (p a) (DT _) 1 0)+cP p l
section
variable{E:U->!U}
def f6{a:U}{l:!U}(h:p a):cP p (a::l)=1+cP p l:=by show _+_=_;rw[Z0 h,]
def kR{a:U}{l:!U}(h:¬p a):cP p (a::l)=cP p l:=by show _+_=_;rw[Z7 h,Bh]
def ir:∀{l:!U},cP p l=0<->∀x∈l,¬p x:=by
 cases _ with
 |nil=>rw[(λw w h=>(nomatch h),λw=>rfl)]
 |cons a l i=>
  by_cases h:p a
  .rw[f6 h,];rw[(λz=>(aoM z).elim,λz=>ZZ h<|z a aE)]
  .rw[kR h,i];rw[(λz x m=>(Ar.mp m).elim (λe=>e▸h)<|z x,λz x m=>z x<|.tail _ m)]
theorem f7:∀{l:!U},(∀x∈l,(p x<->q x\/s x)/\¬(q x/\s x))->cP p l=cP q l+cP s l
 |[],_=>rfl
 |a::l,h=>by
  let(c,e):=h a aE;let i:=f7 (l:=l) λx m=>h x<|.tail _ m
  by_cases H:q a
  .rw[f6<|c.mpr<|.inl H,f6 H,kR λz=>e ⟨H,z⟩,i];rw[aD [cP q l,cP s l] 0x11115411100540111020]
  .by_cases b:s a
   .rw[f6<|c.mpr<|.inr b,kR H,f6 b,i];rw[aD [cP q l,cP s l] 0x11115111040540111020]
   .rw[kR λz=>(c.mp z).elim H b,kR H,kR b,i]
theorem sW k:∀l:!U,cP (·=k) l=l.count k
 |[]=>rfl
 |a::l=>by
  by_cases h:a=k
  .rw[f6 (p:=(·=k)) h,h,Fp,sW];rw[DB ..]
  .rw[kR (p:=(·=k)) h,E8 h,sW]
def alN{sc:U->!U}{x:U}:∀{ks:!U},ks.Nodup->(∀k∈ks,(sc k).count x=(E x).count k)->(ks.flatMap sc).count x=cP (·∈ks) (E x):=by
 cases _ with
 |nil=>intro _ _;rw[(ir.mpr λw w h=>nomatch h).symm]
 |cons k ks i=>intro c h;let(n,N):=AC.mp c;rw[Cn,AQ,h k aE,i N λx m=>h x<|.tail _ m,<-sW];rw[(f7 λy m=>⟨Ar,λz=>n (by rw[<-z.1];rw[z.2])⟩).symm]
end
def on(E:U->!U)(r:Nat)(x:U):Prop:=∃m,m<r/\bO E x m
def tl(E:U->!U)(r:Nat)(x:U):Nat:=cP (λu=>¬on E r u)<|E x
section
def bT:on E (r+1) x<->on E r x\/bO E x r:=
 ⟨by rintro⟨m,H,e⟩;rw[(Nat.lt_succ_iff_lt_or_eq.mp H).elim (λh=>.inl ⟨m,h,e⟩) λh=>.inr (h▸e)],λh=>h.elim (by rintro⟨m,H,e⟩;rw[(m,B9 H,e)]) λh=>⟨r,B6 r,h⟩⟩
def jP:tl E r x=0<->on E (r+1) x:=by
 delta tl;rw[ir,];constructor
 .intro h;classical
  let h:∀u∈E x,on E r u:=λu H=>CA<|h u H
  refine_lift let f:U->Nat:=λu=>if z:on E r u then z.choose else 0;?_
  let C:∀u∈E x,f u<r/\bO E u (f u):=λu H=>by let e:f u=(h u H).choose:=dif_pos<|h u H;rw[e,];rw[(h u H).choose_spec]
  let(m,a,b):=afT f<|E x;rw[(m,?_,.mk f (λu H=>(C u H).2) a b)];rcases b with rfl|⟨u,H,rfl⟩
  .rw[EN _]
  .have:=(C u H).1;rw[Nat.succ_lt_succ this]
 .rintro⟨m,j,c⟩ u H n;let(d,i):=m6 ⟨m,c⟩ H;rw[n ⟨d,by have:=kQ c H i;rw[aoN j this],i⟩]
def p7(h:bO E x r):¬on E r x:=λ⟨m,H,e⟩=>by have:=h.uniq _ e;rw[aoO H this]
end
noncomputable def yI(K:!U)(E:U->!U):Nat->!(!U)->Prop
 |r,[]=>∀x∈K,¬bO E x r
 |r,g::G=>A4 g.Nodup (g≠[]) (∀x,x∈g<->x∈K/\bO E x r)<|yI K E (r+1) G
structure uE(K:!U)(E sc:U->!U):Prop where
 nd:K.Nodup
 us:∀x,∀u∈E x,u∈K
 nz:∀x,x∉K->E x=[]
 ct:∀k∈K,∀x,(sc k).count x=(E x).count k
 sl:∀k∈K,(sc k).length<=100
 l5:K.length<=5
noncomputable def gW(ks:!U)(np:U->Int):U->Int:=λx=>if x∈ks then-1 else np x
section
variable{K:!U}{E sc:U->!U}{np:U->Int}
def uE.mem(g:uE K E sc){k x:U}(b:k∈K):x∈sc k<->k∈E x:=by rw[<-BR,<-BR,g.ct k b x]
def uE.sK(g:uE K E sc){k x:U}(b:k∈K)(h:x∈sc k):x∈K:=CA λn=>by let z:=(g.mem b).mp h;rw[g.nz x n]at z;rw[nomatch z]
def lm.af:∀(ds aa:!Nd)(np:U->Int),lm K sc np aa->lm K sc (gW (jC ds) np) (gm ds aa):=by
 cases _ with
 |nil=>intro aa np h;rw[h]
 |cons d ds i=>
  intro aa np h;let z:=i _ _<|h.upd d.k<|-1
  let e:gW (jC ds) (aY np d.k<|-1)=gW (jC<|d::ds) np:=funext λx=>by
   show(if x∈jC ds then-1 else aY np d.k (-1) x)=if x∈d.k::jC ds then-1 else np x
   by_cases H:x∈jC ds
   .rw[Z0 H,Z0<|.tail _ H]
   .rw[Z7 H,];by_cases b:x=d.k
    .rw[b,bS,Z0 aE]
    .rw[aU _ _ b,Z7 λm=>(Ar.mp m).elim b H]
  rw[e]at z;rw[z]
def lm.get(h:lm K sc np aa):∀(ks:!U),(∀k∈ks,k∈K)->∃ds,jC ds=ks/\∀d∈ds,d∈aa:=by
 cases _ with
 |nil=>intro _;rw[([],rfl,λw h=>nomatch h)]
 |cons k ks i=>
  intro b;let(d,l,H,c,_):=h.fnd<|b k aE;let(ds,e,j):=i λx m=>b x<|.tail _ m
  rw[(d::ds,by rw[<-c,<-e];rfl,λx m=>(Ar.mp m).elim (λe=>e▸H)<|j x)]
structure xl(K:!U)(E:U->!U)(r:Nat)(np:U->Int)(ks:!U):Prop where
 nd:ks.Nodup
 is:∀x,x∈ks<->x∈K/\bO E x r
 nn:∀x∈K,¬on E r x->np x=(tl E r x:Nat)
 dn:∀x∈K,on E r x->np x<1
def xl.next(g:uE K E sc){r:Nat}(h:xl K E r np ks):xl K E (r+1) (pZ sc ks (gW ks np,[])).1 (pZ sc ks (gW ks np,[])).2:=by
 let C:∀k∈ks,k∈K:=λk m=>((h.is k).mp m).1
 let j:∀k∈ks,∀w∈ks,w∉sc k:=λk m w V n=>by have:=kQ ((h.is w).mp V).2 ((g.mem<|C k m).mp n) ((h.is k).mp m).2;rw[Cs _ this]
 let(i1,i2,i3):=alM ks (gW ks np,[]) j h.nd
 let G:∀x,(ks.flatMap sc).count x=cP (λu=>bO E u r) (E x):=λx=>by
  rw[alN h.nd λk m=>g.ct k (C k m) x,];let z:=f7 (p:=(·∈ks)) (q:=λu=>bO E u r) (s:=λ_=>False) (l:=E x) λu m=>⟨(h.is u).trans ⟨λz=>.inl z.2,λz=>⟨g.us x u m,z.resolve_right id⟩⟩,λz=>z.2⟩
  rw[z,ir.mpr λ_ _ z=>z];rfl
 let rs:∀x,tl E r x=tl E (r+1) x+(ks.flatMap sc).count x:=λx=>by
  rw[G,];rw[f7 λu m=>⟨⟨λz=>?_,λz=>z.elim (λz n=>z<|bT.mpr<|.inl n) p7⟩,λz=>z.1<|bT.mpr<|.inr z.2⟩]
  by_cases c:bO E u r
  .rw[.inr c]
  .rw[.inl λn=>(bT.mp n).elim z c]
 let B:∀{x},x∉ks->gW ks np x=np x:=λh=>Z7 h
 let I:∀{x},x∈ks->gW ks np x=-1:=λh=>Z0 h
 let M:∀z,(pZ sc ks (gW ks np,[])).2.count z=@ite _ (z∈K/\bO E z (r+1)) (DT _) 1 0:=λz=>by
  by_cases A:z∈ks
  .rw[i3 z A (by show gW ks np z<1;rw[I A,];decide),Z7]
   .rfl
   .intro n;have:=n.2.uniq _ ((h.is z).mp A).2;rw[aoP this]
  .rw[i2 z A,];show 0+in1 (gW ks np z) _=_;rw[B A,Bh];by_cases b:z∈K
   .by_cases d:on E r z
    .rw[p0<|h.dn z b d,Z7];rintro⟨_,n⟩;let(m,h1,h2):=d;have:=n.uniq _ h2;rw[aoQ h1 this]
    .let N:¬on E (r+1) z:=λn=>(bT.mp n).elim d λn=>A<|(h.is z).mpr ⟨b,n⟩
     let Q:=rs z;delta in1;rw[h.nn z b d,];by_cases e:tl E (r+1) z=0
     .rw[Z0<|aoR (λe=>N<|jP.mp e) Q e,Z0 ⟨b,(bT.mp<|jP.mp e).resolve_left N⟩]
     .rw[Z7<|aoS Q e,Z7 λn=>e<|jP.mpr<|bT.mpr<|.inr n.2]
   .rw[Z7 λn=>b n.1,G,g.nz z b];rw[sV _]
 let i0:∀{P:Prop},(@ite _ P (DT _) 1 0:Nat)<=1:=λ{P}=>by
  by_cases c:P
  .rw[Z0 c,];rw[AA _]
  .rw[Z7 c,];rw[Bd _]
 rw[((λh=>Ek.mpr h) λz=>by rw[M,];rw[i0],λx=>?_,λx i H=>?_,λx i H=>?_)]
 .rw[<-BR,M];by_cases c:x∈K/\bO E x (r+1)
  .rw[Z0 c,];rw[(λ_=>c,λ_=>KL)]
  .rw[Z7 c,];rw[(λz=>ZZ z<|Cs 0,λz=>ZZ z c)]
 .let N:x∉ks:=λm=>H<|bT.mpr<|.inr ((h.is x).mp m).2
  rw[i1 x N,];show gW ks np x-_=_;rw[B N,h.nn x i λn=>H<|bT.mpr<|.inl n,rs x];rw[Dm ((tl E (instHAdd.hAdd r 1) x):Int)<|BO x<|GH sc ks]
 .by_cases m:x∈ks
  .let z:∀(L:!U)(p:(U->Int)×!U),p.1 x<1->(pZ sc L p).1 x<1:=λL=>by
    cases L with
    |nil=>rw[λ_ h=>h]
    |cons k L ih=>
     intro p hp;rw[ih _ ?_];rw[jO,]
     have:aY p.1 k (-2) x<1:=by
      delta aY;split
      .decide
      .rw[hp]
     rw[rI this]
   rw[z ks _ (by show gW ks np x<1;rw[I m,];decide)]
  .rw[i1 x m,];show gW ks np x-_<_;rw[B m,];have:=h.dn x i<|(bT.mp H).resolve_right λn=>m<|(h.is x).mpr ⟨i,n⟩
   rw[rI this]
def asW(g:uE K E sc):∀(n r:Nat)(np:U->Int)(ks:!U),xl K E r np ks->cP (λx=>¬on E r x) K<=n->∃G,A3 (∀aa,lm K sc np aa->ur aa ks G) (yI K E r G) (G.length<=n):=by
 intro n;cases n with
 |zero=>
  intro r np ks h l;let e:=Cz.mpr λx m=>by let(i,b):=(h.is x).mp m;rw[ir.mp (Kr.mp l) x i<|p7 b]
  subst e;rw[([],λaa _=>.stop,λx i b=>(nomatch(h.is x).mpr ⟨i,b⟩),AA 0)]
 |succ n I=>
  intro r np ks h l;by_cases e:ks=[]
  .subst e;rw[([],λaa _=>.stop,λx i b=>(nomatch(h.is x).mpr ⟨i,b⟩),Bd _)]
  .let j:=λk m=>((h.is k).mp m).1
   let sp:cP (λx=>¬on E r x) K=cP (λx=>¬on E (r+1) x) K+cP (λx=>bO E x r) K:=f7 λu m=>⟨⟨λz=>by
    by_cases c:bO E u r
    .rw[.inr c]
    .rw[.inl λn=>(bT.mp n).elim z c],λz=>z.elim (λz n=>z<|bT.mpr<|.inl n) p7⟩,λz=>z.1<|bT.mpr<|.inr z.2⟩
   let(G,B,C,L):=I (r+1) _ _ (h.next g)<|aoT l sp λz=>e<|Cz.mpr λx m=>ir.mp z x (j x m) ((h.is x).mp m).2
   rw[(ks::G,λaa H=>?_,⟨h.nd,e,h.is,C⟩,by rw[AI,];rw[BY L])];let(w,d,M):=H.get ks j;let ln:=Ax (dI h.nd j) g.l5;let A:=lm.af w aa np H;rw[d]at A
   let(N,Q,V):=ahA (λk hk s m=>g.sK hk m) g.sl ks (gW ks np) (gm w aa) [] A j h.nd (λk m=>Z0 m) (λk m k' m' n=>by
    have:=kQ ((h.is k').mp m').2 ((g.mem<|j k m).mp n) ((h.is k).mp m).2
    rw[Cs _ this]) (by rw[aoU ln])
   let z:=B _ Q;rw[<-V]at z;let q:=@ur.turn aa w G (λz=>e (by rw[<-d,z];rfl)) (aoV ln (by rw[<-d];rw[(Ap ..).symm])) M (by rw[d,];rw[h.nd]) (by rw[d,];rw[N]) (by rw[d,];rw[z]);rwa [d]at q
theorem afZ:∀{aa:!Nd}{x:U},x∈cK aa<->∃d∈aa,d.k=x/\d.np=0
 |[],x=>⟨λh=>(nomatch h),λ⟨_,h,_⟩=>nomatch h⟩
 |v::aa,x=>by
  unfold cK;let I:=afZ (aa:=aa) (x:=x);cases e:v.np==0 with
  |true=>dsimp only;rw[Ar,I];rw[(λh=>h.elim (λh=>⟨v,aE,h.symm,BX e⟩) λ⟨d,b,H⟩=>⟨d,.tail _ b,H⟩,by rintro⟨d,b,H,i⟩;rw[(Ar.mp b).elim (λh=>.inl (by rw[<-H,h])) λh=>.inr ⟨d,h,H,i⟩])]
  |false=>dsimp only;rw[I,];rw[(by rintro⟨d,b,H⟩;rw[(d,.tail _ b,H)],by rintro⟨d,b,H,i⟩;rw[(Ar.mp b).elim (λh=>by rw[<-h,i]at e;rw[nomatch e]) λh=>⟨d,h,H,i⟩])]
theorem m7:∀{aa:!Nd},(cK aa).Sublist (aa.map (·.k))
 |[]=>.slnil
 |v::aa=>by
  unfold cK;cases v.np==0 with
  |true=>rw[(m7 (aa:=aa)).cons_cons _]
  |false=>rw[(m7 (aa:=aa)).cons _]
def alO(g:uE K E sc)(H:∀x∈K,np x=((E x).length:Nat)){N:!Nd}(j:lm K sc np N):∃G,A3 (∀aa,lm K sc np aa->cK aa=cK N->ur aa (cK aa) G) (yI K E 0 G) (G.length<=5):=by
 let n:∀x,¬on E 0 x:=by rintro x ⟨m,h,_⟩;rw[nomatch h]
 let re:∀x,tl E 0 x=(E x).length:=λx=>by
  delta tl;induction E x with
  |nil=>rfl
  |cons a l r=>rw[f6<|n a,r,AI];rw[DB ..]
 let I:xl K E 0 np<|cK N:=by
  rw[(m7.nodup (by rw[j.ks,];rw[g.nd]),λx=>?_,λx i Q=>by rw[H x i,re],λx Q h=>ZZ h<|n x)];rw[afZ,];let A:bO E x 0<->tl E 0 x=0:=by rw[jP,bT];rw[(.inr,λh=>h.resolve_left<|n x)]
  rw[A,re];constructor
  .rintro⟨d,k,rfl,w⟩;let i:d.k∈K:=by rw[<-j.ks];rw[Av k]
   rw[(i,?_)];have:=j.np d k;rw[H _ i]at this;rw[aoW w this]
  .rintro⟨i,e⟩;let(d,_,k,w,_,B):=j.fnd i;rw[(d,k,w,by rw[B,H x i,e];rfl)]
 let L:∀l:!U,cP (λx=>¬on E 0 x) l=l.length:=λl=>by
  cases l with
  |nil=>rfl
  |cons a l r=>rw[f6<|n a,r,AI];rw[DB ..]
 let(G,a,b,c):=asW g 5 0 np _ I (by rw[L,];rw[g.l5]);rw[(G,λaa h e=>by rw[e,];rw[a aa h],b,c)]
def ahB c:∀(Uq9 l:!U),(∀x∈l,x∈Uq9)->(∀x,l.count x<=c)->l.length<=c*Uq9.length:=by
 cases _ with
 |nil=>intro l h _;rw[Cz.mpr λx m=>nomatch h x m];rw[Bd _]
 |cons a Uq9 i=>
  intro l h H
  let z:=i (l.filter λx=>(not (x==a))) (λx m=>by
   let(b,M):=Fx.mp m;rw[(Ar.mp<|h x b).resolve_left λe=>?_]
   rw[e,ZY]at M
   rw[nomatch M]) λx=>Ax (Ko x HE)<|H x
  let e:l.length=l.count a+(l.filter λx=>(not (x==a))).length:=by
   rw[List.length_eq_countP_add_countP (·==a),List.countP_eq_length_filter (p:=λx=>decide ¬(x==a)=J)];congr 2;rw[List.filter_congr λx w=>?_]
   cases x==a<;>rfl
  have:=H a;rw[aoX z e this]
end
theorem acD:∀i:List<|It×Nat,(ja i).length=dk (i.map (·.1))
 |[]=>rfl
 |(⟨u,x,n⟩,p)::i=>by
  let I:=acD i;unfold dk at I ⊢;cases u with
  |true=>show(ja i).length+1=(KO _<|i.map (·.1)).length+1;rw[I,]
  |false=>show(ja i).length=_;rw[I,];rfl
theorem acE:∀{ps:!Pc}{m:Nat}{x:It},x∈kK m ps->∃p∈ps,x.u=p.u.isSome/\x.w=p.wd
 |p::ps,m,x,h=>by
  rcases Ar.mp h with rfl|h
  .rw[(p,aE,rfl,rfl)]
  .let(q,H,z):=acE h;rw[(q,.tail _ H,z)]
def wh:!U:=[bI 0,bI 1,bI 2,bI 3,bI 4]
def p8:!U:=[bI 0,bI 1,bI 2,bI 3]
def avB:wh.Nodup:=by decide+kernel
def af0:p8.Nodup:=by decide+kernel
def ai3:bI 4∉p8:=by decide+kernel
def lD{k:Nat}(h:k<4):bI k∈p8:=by
 rcases k with _|_|_|_|k
 .rw[aE]
 .rw[ce]
 .rw[iW]
 .rw[q9]
 .rw[(gw h).elim]
def kS{P:U->Prop}(h:∀k<4,P (bI k)):∀x∈p8,P x:=λx m=>by
 rcases Ar.mp m with rfl|m
 .rw[h 0 (by decide)]
 rcases Ar.mp m with rfl|m
 .rw[h 1 (by decide)]
 rcases Ar.mp m with rfl|m
 .rw[h 2 (by decide)]
 cases Au.mp m;rw[h 3 (by decide)]
def ahC:∀c∈bb,T c∈wh:=by decide+kernel
section
variable{Z:Nat->Fz}{E:U->!U}
def ai4(h:∀k,∃ps,rv (Z k).st ps)(k:Nat):(d1 Z k).length<=2:=by let(ps,j):=h k;let e:(Z k).ak.map (·.1)=kK 0 ps:=j.ak;show(ja (Z k).ak).length<=2;rw[acD,e,kP];rw[j.us]
def avC(h:∀k,∃ps,rv (Z k).st ps)(k:Nat):∀u∈d1 Z k,u∈wh:=λu m=>by
 let(ps,j):=h k;let(q,H,b,rfl):=ip.mp m;let M:q.1∈kK 0 ps:=by rw[<-j.ak];rw[Av H]
 let(p,c,e,d):=acE M;rw[d,];rw[ahC _<|j.us5 p c (e▸b)]
def γZ(Z:Nat->Fz):List<|U×!U:=[(bI 0,d1 Z 0),(bI 1,d1 Z 1),(bI 2,d1 Z 2),(bI 3,d1 Z 3)]
def EZ(Z:Nat->Fz):U->!U:=yF (γZ Z) λQ=>[]
def PZ(Z:Nat->Fz):!Pn:=c7 (γZ Z) []
def KZ(Z:Nat->Fz):!U:=aX<|PZ Z
def sZ(Z:Nat->Fz)(k:U):!U:=match(PZ Z).find? λp=>p.1==k with
 |some p=>p.2.2
 |none=>[]
def vW:∀k<4,EZ Z (bI k)=d1 Z k:=λk h=>by
 let r:∀i<5,∀j<5,i≠j->bI i≠bI j:=by decide+kernel
 let d:=λi j a b=>r i a j b
 show aY (aY (aY (aY _ (bI 0)<|d1 Z 0) (bI 1)<|d1 Z 1) (bI 2)<|d1 Z 2) (bI 3) (d1 Z 3) (bI k)=_;rcases k with _|_|_|_|k
 .rw[aU _ _<|d 0 3 (by decide) (by decide) (by decide),aU _ _<|d 0 2 (by decide) (by decide) (by decide),aU _ _<|d 0 1 (by decide) (by decide) (by decide),bS]
 .rw[aU _ _<|d 1 3 (by decide) (by decide) (by decide),aU _ _<|d 1 2 (by decide) (by decide) (by decide),bS]
 .rw[aU _ _<|d 2 3 (by decide) (by decide) (by decide),bS]
 .rw[bS,]
 .rw[(gw h).elim]
def qH{s:U}(h:s∉p8):EZ Z s=[]:=by
 show aY (aY (aY (aY _ (bI 0)<|d1 Z 0) (bI 1)<|d1 Z 1) (bI 2)<|d1 Z 2) (bI 3) (d1 Z 3) s=_;let z:∀k<4,s≠bI k:=λk b e=>h (by rw[e,];rw[lD b])
 rw[aU _ _<|z 3 (by decide),aU _ _<|z 2 (by decide),aU _ _<|z 1 (by decide),aU _ _<|z 0 (by decide)]
def asX{P:!U->Prop}(H:P [])(h:∀k<4,P (d1 Z k))(x:U):P<|EZ Z x:=by
 by_cases m:x∈p8
 .rw[kS (P:=λx=>P<|EZ Z x) (λk b=>?_) x m];rw[vW k b,];rw[h k b]
 .rw[qH m,];rw[H]
def n8:Gi (λx=>(EZ Z x).length) (EZ Z) (PZ Z)/\∀x,x∈KZ Z<->x∈p8\/∃k<4,x∈d1 Z k:=by
 let(a,b):=abp (γZ Z) (λQ=>[]) [] alJ af0 λQ Q=>rfl
 rw[(a,λx=>(b x).symm.trans ⟨λh=>?_,λh=>.inr ?_⟩)]
 .rcases h with h|⟨e,H,h⟩
  .cases h
  rcases Ar.mp H with rfl|H
  .rw[h.imp (λh=>by rw[h,];rw[lD (by decide)]) λh=>⟨0,by decide,h⟩]
  rcases Ar.mp H with rfl|H
  .rw[h.imp (λh=>by rw[h,];rw[lD (by decide)]) λh=>⟨1,by decide,h⟩]
  rcases Ar.mp H with rfl|H
  .rw[h.imp (λh=>by rw[h,];rw[lD (by decide)]) λh=>⟨2,by decide,h⟩]
  cases Au.mp H;rw[h.imp (λh=>by rw[h,];rw[lD (by decide)]) λh=>⟨3,by decide,h⟩]
 .let I:∀k<4,(bI k,d1 Z k)∈γZ Z:=λk c=>by
   rcases k with _|_|_|_|k
   .rw[aE]
   .rw[ce]
   .rw[iW]
   .rw[q9]
   .rw[(gw c).elim]
  rcases h with h|⟨k,c,h⟩
  .rw[kS (P:=λx=>∃e∈γZ Z,x=e.1\/x∈e.2) (λk c=>⟨_,I k c,.inl rfl⟩) x h]
  .rw[(_,I k c,.inr h)]
def ai5{p:Pn}(h:p∈PZ Z):sZ Z p.1=p.2.2:=by
 delta sZ;let nd:=(n8 (Z:=Z)).1.nd
 let go:∀{l:!Pn},(aX l).Nodup->p∈l->l.find? (λq=>q.1==p.1)=Y p:=λ{l}=>by
  cases l with
  |nil=>rw[λQ h=>nomatch h]
  |cons q l i=>
   intro c j;let(n,N):=AC.mp c;rcases Ar.mp j with rfl|j
   .rw[List.find?_cons_of_pos (by rw[ZY _]),]
   .rw[List.find?_cons_of_neg λe=>n (by show q.1∈_;rw[BX e,];rw[Av j]),i N j]
 rw[go nd h,]
def K_5(h:∀k,∃ps,rv (Z k).st ps):∀x∈KZ Z,x∈wh:=λx m=>by
 rcases n8.2 x|>.mp m with m|⟨k,b,m⟩
 .rw[kS (P:=λx=>x∈wh) (λk b=>by
   rcases k with _|_|_|_|k
   .rw[aE]
   .rw[ce]
   .rw[iW]
   .rw[q9]
   .rw[(gw b).elim]) x m]
 .rw[avC h k x m]
noncomputable def sX:!Pn->!U
 |[]=>[]
 |v::r=>match v.2.1==0 with
  |true=>v.1::sX r
  |false=>sX r
def acF:∀aa:!Nd,cK aa=sX (dM aa):=by
 cases _ with
 |nil=>rw[rfl]
 |cons v r i=>
  show(match v.np==0 with|true=>v.k::cK r|false=>cK r)=match v.np==0 with|true=>v.k::sX (dM r)|false=>sX<|dM r
  rw[i,]
def ai6{aa:!Nd}(h:dM aa=PZ Z):lm (KZ Z) (sZ Z) (λx=>((EZ Z x).length:Nat)) aa:=by
 let(g,_):=n8 (Z:=Z);let m:∀d∈aa,d.pn∈PZ Z:=λd H=>by rw[<-h];rw[Av H]
 rw[(?_,λd H=>(ai5<|m d H).symm,λd H=>g.np _<|m d H)];show _=aX (PZ Z);rw[<-h];delta aX dM;rw[BW,];rfl
noncomputable def tm(E:U->!U)(s:U):Option Nat:=@dite _ (lC E s) (DT _) (λh=>Y h.choose) λQ=>As
def f8{s:U}{m:Nat}(h:bO E s m):tm E s=Y m:=by
 delta tm
 rewrite [dif_pos ⟨m,h⟩]
 rw[Z8 Y<|(Exists.choose_spec (⟨m,h⟩:lC E s)).uniq _ h]
def iu{s:U}(h:¬lC E s):tm E s=As:=dif_neg h
theorem asY{fs:!Fi}(d:Aj fs E)(A:fs.length<=4):∀(l:!Fi)(H:!U)(D:Nat->!U),(∀F∈l,F∈fs)->fx (db fs) l H D=(H++(l.map (·.f.nm)).filter (λs=>tm E s==As),λk=>D k++(l.map (·.f.nm)).filter λs=>tm E s==Y k):=by
 cases _ with
 |nil=>intro H D _;rw[Ki,JA,Az];rw[Z8 (H,·) (funext λk=>by rw[JA,Az])]
 |cons F l I=>
  intro H D n;let M:=n F aE;rw[Cv,];unfold fx;by_cases j:lC E F.f.nm
  .let(m,i):=j
   let(a,b):=((by
     let(a,b,c):=afW d i 3 [F.f.nm] F (d.mem F M) (qG A 3 _ (AC.mpr ⟨BF,AS⟩) (λx h=>by
      cases Au.mp h
      rw[Av M]) (AA 4)) λx h L r=>by
      cases Au.mp h;rw[AY (i.uniq _ r)]
     rw[(?_,?_)]
     .show dN (db fs F++[cm F.f,cm F.f])=O;rw[f4,];show(dN (cw fs 3 F [F.f.nm] F.ak)||O)=O;rw[a,];rfl
     .show mQ (bR<|db fs F++[cm F.f,cm F.f]) 0=_;rw[f5,show bR [cm F.f,cm F.f]=[]from rfl,Az];rw[asV _ 0 m (BH _) (λv B=>?_) ?_]
      .have:=b v B;rw[show[F.f.nm].length=1 from rfl]at this;rw[aoz this]
      .by_cases e:m=0
       .rw[.inl (by rw[e,];rfl)]
       .let z:=c e;let C:(([F.f.nm].length+m:Nat):Int)-1=(m:Int):=by rw[aoA]
        rw[C]at z
        rw[.inr z]):dN (qw (db fs) F)=O/\mQ (bR<|qw (db fs) F) 0=(m:Int))
   rw[a,b,Ca];dsimp only;rw[I _ _ λG w=>n G<|.tail _ w,EH (by rw[f8 i,];rw[A9])];rw[Z8 (_,·)<|funext λk=>?_]
   delta upd;by_cases e:k=m
   .subst e;rw[Z0 rfl,Gx (by rw[f8 i,];rw[ZY _]),AD];rfl
   .rw[Z7 e,EH (by rw[f8 i,];rw[λz=>e (B3<|BX z).symm])]
  .rw[((by
    show dN (db fs F++[cm F.f,cm F.f])=J;rw[f4,];show(dN (cw fs 3 F [F.f.nm] F.ak)||O)=J
    rw[ahz d 3 F.f.nm [F.f.nm] F j (d.mem F M) (qG A 3 _ (AC.mpr ⟨BF,AS⟩) (λx h=>by
     cases Au.mp h
     rw[Av M]) (AA 4)),]
    rfl):dN (qw (db fs) F)=J),]
   dsimp only;rw[I _ _ λG w=>n G<|.tail _ w,Gx (by rw[iu j,];rfl),AD];rw[Z8 (_,·)<|funext λk=>?_]
   rw[EH (by rw[iu j,];rw[A9]),]
def HZ(Z:Nat->Fz):!U:=p8.filter λs=>tm (EZ Z) s==As
def DZ(Z:Nat->Fz)(k:Nat):!U:=D0 (lA Z) k++p8.filter λs=>tm (EZ Z) s==Y k
theorem avD(ep:Nat):fx (db<|dJ Z ep) (dJ Z ep) [] (D0<|lA Z)=(HZ Z,DZ Z):=asY (⟨λs F h=>by let(m,rfl):=dZ h;rw[sP (P:=λF=>EZ Z F.f.nm=ja F.ak) (λk b=>vW k b) F m],
  λs h=>qH λm=>by
   obtain⟨k,b,rfl⟩:∃k<4,s=bI k:=kS (P:=λs=>∃k<4,s=bI k) (λk b=>⟨k,b,rfl⟩) s m
   let z:=FQ.mp h (vM Z ep k) (by
    rcases k with _|_|_|_|k
    .rw[aE]
    .rw[ce]
    .rw[iW]
    .rw[q9]
    .rw[(gw b).elim])
   rw[z<|ZY _],
  abo Z ep⟩) (AA 4) _ _ _ λQ h=>h
def af1{x:U}:x∈HZ Z<->x∈p8/\¬lC (EZ Z) x:=by
 delta HZ
 rw[Fx,beq_iff_eq,((by
   by_cases h:lC (EZ Z) x
   .let(d,H):=h;rw[f8 H,];rw[(λe=>(nomatch e),λz=>ZZ ⟨d,H⟩ z)]
   .rw[(λQ=>h,iu)]):tm (EZ Z) x=As<->¬lC (EZ Z) x)]
def af2{b:Bool}{k:Nat}{x:U}:x∈D0 b k<->A3 (b=J) (k=0) (x=bI 4):=by
 cases k with
 |zero=>
  cases b with
  |true=>rw[Au.trans ⟨λh=>⟨rfl,rfl,h⟩,λh=>h.3⟩]
  |false=>rw[(λh=>(nomatch h),λh=>nomatch h.1)]
 |succ k=>rw[(λh=>(nomatch h),λh=>nomatch h.2)]
def asZ(k:Nat):(DZ Z k).Nodup:=by
 rw[Bu.mpr ⟨?_,HE.nodup af0,λa H b h e=>?_⟩]
 .cases k with
  |zero=>
   cases lA Z with
   |true=>rw[AC.mpr ⟨BF,AS⟩]
   |false=>rw[AS]
  |succ k=>rw[AS]
 .let(_,_,rfl):=af2.mp H;subst e;rw[ai3 (Fx.mp h).1]
end
theorem acG:∀{l:List<|!U},(∀x∈l,x=[])->vO l=[]
 |[],_=>rfl
 |[]::l,h=>acG (l:=l) λx m=>h x<|.tail _ m
 |(a::s)::l,h=>nomatch h _ aE
section
variable{K:!U}{E:U->!U}{D:Nat->!U}
def ahD(l:∀x,∀u∈E x,u∈K){x:U}{m:Nat}(h:bO E x m):∀d,d<=m->x∈K->∃y∈K,bO E y d:=by
 cases h with
 |@mk x m f c j i I=>
  intro d H M;by_cases e:d=m
  .rw[(x,M,e▸.mk f c j i)]
  .rcases i with rfl|⟨u,b,rfl⟩
   .rw[(aoZ H e).elim]
   .rw[I u b d (ao0 H e)<|l x u b]
def as0(w:∀x,∀u∈E x,u∈K)(i:∀k x,x∈D k<->x∈K/\bO E x k)(A:∀k,(D k).Nodup):∀(G:List<|!U)(r n:Nat),yI K E r G->G.length<=n->G.map d9=(vO<|(F8 r n).map D).map d9:=by
 cases _ with
 |nil=>
  intro r n h _
  let z:vO ((F8 r n).map D)=[]:=acG λl m=>by
   let(j,B,rfl):=AM.mp m;let(C,_):=List.mem_range'_1.mp B;rw[Cz.mpr λx I=>?_]
   let(L,M):=(i j x).mp I;let(y,N,V):=ahD w M r C L;rw[h y N V]
  rw[z,]
 |cons g G ih=>
  intro r;cases _ with
  |zero=>intro h H;rw[nomatch H]
  |succ n=>
   rintro⟨h1,h2,h3,h4⟩ H;let p:=(List.perm_ext_iff_of_nodup h1<|A r).mpr λx=>(h3 x).trans (i r x).symm
   rw[List.range'_succ,Cv,Cv,ih (r+1) n h4<|CO H,((by
     let tr:∀a b c:U,nW a b=J->nW b c=J->nW a c=J:=λa b c x y=>by delta nW at*;simp only[ZV]at*;rw[Ic x y]
     let d:∀a b:U,(nW a b||nW b a)=J:=λa b=>by delta nW;rw[D7,];simp only[ZV];rw[J3 ..]
     rw[ach ((HD g nW).trans p)<|(Gt tr d g).imp λz=>of_decide_eq_true z]):d9 g=d9 (D r))]
   cases e:D r with
   |nil=>rw[e]at p;rw[ZZ p.eq_nil h2]
   |cons a l=>rfl
def alP{sc:U->!U}{q:!U}:∀{i:Nat}{a b:U},sQ sc q->q[i]?=Y a->q[i+1]?=Y b->b∈sc a:=by
 cases q with
 |nil=>rw[λQ e=>nomatch e]
 |cons x q I=>
  intro i a b h d c;cases(q) with
  |nil=>rw[nomatch c]
  |cons y q=>
   cases(i) with
   |zero=>rw[<-B3 d,<-B3 c];rw[h.1]
   |succ i=>rw[I (i:=i) h.2 d c]
end
def plain:aiZ:=by
 intro w xs Z hZ;let h:∀k,∃B,rv (Z k).st B:=λk=>by let e:(Z k).st=lh 0 (ck xs) (λ_=>⟨[],[],J⟩) k:=ZW hZ k;rw[e,];rw[ai1 _ _ _ (λ_=>⟨[],asR⟩) k]
 let g:=((by
   let(g,_):=n8 (Z:=Z);let nz:∀x,x∉KZ Z->EZ Z x=[]:=λx M=>CX (g.nz x M)
   let ct:∀k∈KZ Z,∀x,(sZ Z k).count x=(EZ Z x).count k:=λk H x=>by let(p,A,rfl):=AM.mp H;rw[ai5 A,];rw[g.sc p A x]
   let l5:=dI (m:=wh) g.nd (K_5 h);rw[(g.nd,g.us,nz,ct,λk H=>Ax (ahB 2 (KZ Z) (sZ Z k) (λx m=>CA λn=>?_) λx=>?_)<|aoY l5,l5)]
   .let z:=BR.mpr m;rw[ct k H,nz x n]at z;rw[nomatch z]
   .rw[ct k H,]
    rw[Ax DD<|asX (P:=λl=>l.length<=2) (Bd _) (λk _=>ai4 h k) x]):uE (KZ Z) (EZ Z)<|sZ Z)
 let k4:∀x∈p8,x∈KZ Z:=λx m=>(n8.2 x).mpr<|.inl m
 let sn:∀{k},k∉KZ Z->sZ Z k=[]:=λ{k} n=>by delta sZ;rw[FQ.mpr λp A e=>n (by rw[<-BX e];rw[Av A]),]
 let L:∀x y,y∈sZ Z x<->x∈EZ Z y:=λx y=>by
  by_cases kx:x∈KZ Z
  .rw[g.mem kx]
  .rw[sn kx,];rw[(λm=>(nomatch m),λm=>ZZ (g.us y x m) kx)]
 let(Q,f1,f2):=asU (λk H y m=>g.sK H m) (by have:=g.l5;rw[ao1 this]) (KZ Z) [] [] Z9 (λ_=>Iff.rfl) AS (λ_ h=>nomatch h) λ_ h=>h
 refine_lift let V:!Nd:=(PZ Z).map λp=>⟨p.1,p.2.1,p.2.2,0,0,0⟩;?_
 let e0:dM V=PZ Z:=by show((PZ Z).map _).map _=_;rw[BW,];rw[Hf _]
 let(gs,g1,g2,g3):=alO g (λ_ _=>rfl)<|ai6 e0;let acK:∀{y},¬lC (EZ Z) y->y∈p8:=λ{y} n=>CA λm=>n ⟨0,fZ<|qH m⟩
 let rg:∀q,Q=Y q->vV (KZ Z) (sZ Z) q:=λq e=>by subst e;rw[f2]
 rw[(Q,gs,HZ Z,DZ Z,⟨λk _=>?_,λk _=>ai4 h k,λa E A=>?_,λq e=>?_,ao2 g3,λv ep l=>ahw h v l,avD,λk=>?_,?_,λe=>?_,λq e=>?_⟩)]
 .let(B,A):=h k;let e:(Z k).ak.map (·.1)=kK 0 B:=A.ak
  let il:∀(B:!Pc)(m:Nat),(kK m B).length=B.length:=λB=>by
   cases B with
   |nil=>rw[λ_=>rfl]
   |cons p B ih=>rw[λm=>Z8 (·+1)<|ih _]
  let l:=Z8 Eh e;rw[Ap,il]at l;have:=A.ws;rw[ao3 l this]
 .let A:dM E=PZ Z:=A;let N:=ai6 A;rw[(λz=>?_,by have:=g.l5;rw[ao4 (by rw[<-N.ks,Ap]) this],by rw[N.ks,];rw[g.nd],?_,g1 E N (by rw[acF,acF,A,e0]))]
  .let m:=k4 _<|lD (k:=0) (by decide);rw[<-N.ks,z]at m;rw[nomatch m]
  .rw[N.ks,];rw[f1 E ⟨N.ks,λk H=>let⟨d,_,a,b,c,_⟩:=N.fnd H;⟨d,a,b,c⟩⟩]
 .let(x,t,rfl,n1,n2,C):=rg q e;let l:=dI n1 n2;have:=g.l5;rw[(λz=>(nomatch z),?_)];rw[Ay,Ci];rw[ao5 l this]
 .delta DZ;rw[Ay,]
  let a:(D0 (lA Z) k).length<=1:=by
   cases k with
   |zero=>cases lA Z<;>decide
   |succ k=>rw[Bd _]
  let b:=G1 (λs=>tm (EZ Z) s==Y k) p8;rw[ao6 a b rfl]
 .rw[as0 g.us (λk x=>(by
   delta DZ
   rw[AB,af2,Fx,beq_iff_eq,((by
     by_cases h:lC (EZ Z) x
     .let(d,G):=h;rw[f8 G,];rw[(λe=>B3 e▸G,λz=>Z8 Y<|G.uniq _ z)]
     .rw[iu h,];rw[(λe=>(nomatch e),λz=>ZZ ⟨k,z⟩ h)]):tm (EZ Z) x=Y k<->bO (EZ Z) x k),((by
     show aZ (d1 Z 0++(d1 Z 1++(d1 Z 2++(d1 Z 3++[])))) (bI 4)=J<->_;delta aZ;rw[Ff,];constructor
     .rintro⟨x,m,e⟩;rw[BX e]at m;rcases AB.mp m with m|m
      .rw[(0,by decide,m)]
      rcases AB.mp m with m|m
      .rw[(1,by decide,m)]
      rcases AB.mp m with m|m
      .rw[(2,by decide,m)]
      rcases AB.mp m with m|m
      .rw[(3,by decide,m)]
      cases m
     .rintro⟨k,H,m⟩;rw[(_,?_,ZY _)];rcases k with _|_|_|_|k
      .rw[Ao _ m]
      .rw[Aq _ (Ao _ m)]
      .rw[Aq _ (Aq _<|Ao _ m)]
      .rw[Aq _ (Aq _<|Aq _<|Ao _ m)]
      .rw[(gw H).elim]):lA Z=J<->∃k<4,bI 4∈d1 Z k)]
   let e4:bO (EZ Z) (bI 4) 0:=fZ (qH ai3);constructor
   .rintro(⟨⟨j,hj,m⟩,rfl,rfl⟩|⟨m,d⟩)
    .rw[((n8.2 _).mpr<|.inr ⟨j,hj,m⟩,e4)]
    .rw[((n8.2 _).mpr<|.inl m,d)]
   .rintro⟨m,d⟩;by_cases m4:x∈p8
    .rw[.inr ⟨m4,d⟩]
    .let m5:=K_5 h x m
     let x4:x=bI 4:=by
      rcases AB.mp (show x∈p8++[bI 4]from m5)with m5|m5
      .rw[ZZ m5 m4]
      .rw[Au.mp m5]
     subst x4
     rw[.inl ⟨((n8.2 _).mp m).resolve_left m4,d.uniq _ e4,rfl⟩])) asZ gs 0 5 g2 g3]
 .subst e;let(F',t1,_,t3):=f2;rw[Cz.mpr λy m=>?_]
  let(y4,n):=af1.mp m;let(p,r,e):=BS<|t3 y<|k4 y y4;rw[n<|afV L t1 (λy _ u hu=>t3 u<|g.us y u hu) _ p r y rfl e]
 .let(x,t,rfl,n1,n2,C):=rg q e
  let no:=((by
    let L:=(λx y=>(L x y).mp);let M:¬lC (EZ Z) x:=λ⟨m,hm⟩=>by let(d,G,lt):=acz L t x x m C hm;rw[G.uniq _ hm]at lt;rw[Cs _ lt]
    intro y I ha;rcases AB.mp I with I|I
    .rcases Ar.mp I with rfl|I
     .rw[M ha]
     .let(p,r,rfl):=BS I;let(m,hm):=ha
      let cut:∀(p:!U)(a b:U)(r:!U),sQ (sZ Z) (a::p++b::r)->sQ (sZ Z) (a::p++[b]):=λp=>by
       cases p with
       |nil=>rw[λa b r C=>⟨C.1,Z9,trivial⟩]
       |cons c p ih=>rw[λa b r C=>⟨C.1,ih c b r C.2⟩]
      let c:=cut p x y (r++[x]) (by
       let e:x::(p++y::r)++[x]=x::p++y::(r++[x]):=by simp
       rwa [e]at C)
      let(d,G,_):=acz L p x y m c hm;rw[M ⟨d,G⟩]
    .rw[Au.mp I]at ha
     rw[M ha]):∀y∈x::t++[x],¬lC (EZ Z) y)
  let l:=dI n1 n2;rw[AI]at l;rw[(x,t,rfl,n1,ao7 l g.l5,λy m=>af1.mpr ⟨acK<|no y m,no y m⟩,λy m=>kS (P:=λy=>∃k<4,y=bI k) (λk H=>⟨k,H,rfl⟩) y<|acK<|no y m,λi y k a b H=>?_)];let z:=(L _ _).mp<|alP C a b;rwa [vW k H]at z
def main:uN:=ahn plain
def law_holds:aL.Holds:=abr main
end
end Mine
theorem PySem.Challenge.cw_ox0144_01_holds : PySem.Challenge.rw_ox0144_01.Holds :=
  Mine.law_holds
