import PyProof.Rows.All
import Wide.All
import OpenK.AllK
import Wide.FinOn
import Lean
import PySem.Challenge.RW_wz0001_01
open PySem.Str renaming ofString->aj,ofString_eq_toList->j4,utf8Of->kf,isSurrogate->ahn,empty->ag2,cps_append->as1
open Option renaming bind_some->ar,map_some->bt,map->o9,some_ne_none->aef,map_eq_none_iff->am6,none_or->adu,map_eq_some_iff->ave,getD_some->ats,elim_some->atj,some_or->asz
open PySem renaming wpAny_bind->ak,Shared->af,Value->ae,wpAny_pure->bo,Around->az,Addr->ai,wpAny_mono->e9,wpAny_holding->jc,wpAny_callSpecial?_slot->sq,wpAny_call_entry->m0,Program->dm,Expr->al,wpAny_newObj_type->rd,wpAny_seqItems->nw,wpAny_field->kh,wpAny_Call_method_lateS->yu,wpAny_standAt->ox,seg_execs_cons->rn,seg_execs_nil->qo,wpAny_Call_NameR->uy,seg_bind_wrap->rk,builtinLookup_eq_fast->abt,Heap->bf,Scope->dc,wpAny_dictEntries->za,typeIs_str->n4,callWith_type->abp,wpAny_of_eq->ql,World->dv,wpAny_Assign_Name->abi,call_meets->ri,wpAny_setField_rec->aeb,typeLookup_type->aa9,wpAny_loadName_local->ah3,wpAny_isInstance->ad2,wpAny_Constant_str->ahz,wpAny_attempt->aa8,wpAny_truthy_bool->ahw,wpAny_rule->wh,wpAny_assign_Name->aht,plainId_quiet->adr,wpAny_richCompare_same_room->awa,bindL->aa5,bindC->aa4,wpAny_letOwnedTupleGo_enum->av5,wpAny_newFunctionEnv_cells->av4,wpAny_Constant_int->amx,wpAny_assign_Tuple->amu,wpAny_pyIter_tuple->amt,wpAny_letOwnedTupleGo_zip->av0,isSubtype_stop->ahi,strKind_is->aa2,wpAny_pyIter_list->amr,wpAny_pyIter_enum->amq,wpAny_mkBytes->ahg,wpAny_onRaise->ahf,wpAny_list_append_plain->avn,codeAny_call_builtin_at->avj,wpAny_forIn_list->aml,wpAny_pyIter_zip->amk,entryFor_of_tree->amh,wpAny_specialOf->ame,wpAny_storeName_local->au2,wpAny_execs_nil->amd,exec_Assign_Name_used->auz,wpAny_call->adl,wpAny_updateSeq_pair->aut,wpAny_newTuple->al9,wpAny_setField->al7,wpAny_Constant_bool->aup,wpAny_loadName_cell->auo,wpAny_loadName_free->aun,evalArgs_none->aum,length_partsBetween->aul,wpAny_letGo->ag5,codeAny_forLoop_any->auj,findBy_of_findIdx?->aue,wpAny_newList->al5,wpAny_handled->al3,wpAny_Name->ag4,wpAny_typeOf->alx,wpAny_Dict_empty->att,wpAny_execs_cons->atm,wpAny_throw->alp
open Nat renaming le_trans->aw,le_refl->ay,le_succ_of_le->gm,lt_of_lt_of_le->i7,succ_pos->gf,le_succ->fm,le_add_right->kn,le_of_ble_eq_true->o8,zero_le->g9,not_lt->gi,add_le_add_left->qc,sub_eq_zero_of_le->so,lt_of_succ_lt_succ->uh,lt_of_le_of_lt->rf,not_lt_zero->oz,le_add_left->oy,ne_of_lt->k8,le_of_lt->sx,zero_add->sv,ne_of_gt->su,lt_or_ge->uu,lt_trans->ur,lt_succ_self->abf,succ_le_succ->abb,div_lt_of_lt_mul->ah2,min_eq_right->ad5,add_lt_add_left->ah1,min_eq_left->adz,lt_succ_of_lt->ahv,le_of_lt_succ->ahu,mod_lt->we,not_le->wd,le_of_not_lt->ahr,min_le_right->aho,lt_irrefl->adt,min_self->adq,sub_zero->adp,add_sub_cancel->amv,le_of_succ_le->amo,succ_ne_self->amj,le_of_not_le->amf,le_total->ahb,le_of_eq->aha,zero_min->ag9,le_div_iff_mul_le->au4,sub_self->ag6,add_le_add_right->aus,add_left_cancel->auk,eq_zero_or_pos->auc,pos_of_ne_zero->aub,lt_of_not_le->atw,succ_lt_succ->atv,mod_eq_of_lt->atq,div_add_mod'->atp,succ_ne_zero->ato,one_pos->alo,le_antisymm->atb,mul_le_mul->as8,add_assoc->asl
open PySem.Heap renaming get?_push_of_some->b4,get?_push_size->dw,lt_size->il,size_push->mz,SameBut->pe,dictOf_iff->ux,ExtBut->um,get?_update_self->ah5,IsTuple->asd
open List renaming length_map->b8,length_append->de,mem_cons_of_mem->er,length_cons->dh,getElem?_eq_getElem->gq,map_map->b5,map_append->ei,mem_cons->dt,append_assoc->gj,map_cons->ee,append_nil->fo,drop_eq_getElem_cons->lh,length_filter_le->jv,map_congr_left->j3,nil_append->ix,range->ed,size_toArray->ko,mem_append->ji,length_nil->jt,eq_nil_of_length_eq_zero->uk,mem_map->ia,mem_cons_self->m4,forall_mem_cons->o5,length_singleton->qg,drop_of_length_le->rg,mem_of_getElem?->qe,replicate->k9,length_drop->nz,getD_eq_getElem?_getD->yv,foldl_cons->q8,nodup_nil->qb,mem_filter->q7,cons_append->sk,isPrefixOf->sy,prefix_append->wx,forIn_cons->uw,mem_append_right->abu,length->pd,mem_append_left->abr,replicate_succ->abq,nodup_cons->wu,lookup_cons->y9,length_take->y6,filter_append->abn,mapM_cons->wq,getElem?_map->abk,foldl_append->abj,filter_congr->abg,range'_succ->abe,all_eq_true->abd,getElem_map->aba,drop_append_of_le_length->anh,mem_range->y0,zip_cons_cons->aea,filter_filter->ad9,range'->uo,getElem?_eq_none->ah6,map_nil->wj,flatMap_cons->ad6,getElem?_append_right->ang,isPrefixOf_iff_prefix->anf,perm_ext_iff_of_nodup->ane,getElem?_eq_some_iff->anb,drop_length->ad3,take_length->ad1,flatten_append->ah0,zipWith->yx,getElem_range->ahy,sum_append->ady,findIdx?_eq_some_iff_getElem->awg,take_succ_eq_append_getElem->awe,take_of_length_le->am3,nodup_append->ahs,getElem?_toArray->am2,mem_reverse->ahq,not_mem_nil->ahp,getElem_of_mem->am0,lookup->aa6,filterMap_cons->amz,of_mem_zip->ahl,mem_singleton->amw,take_zero->ahh,filterMap_cons_some->avx,filterMap_cons_none->avw,length_range->amn,map_id->ado,filter_append_perm->avh,map_reverse->ami,isEmpty_iff->amg,zipWith_map_right->avb,singleton_append->au1,pairwise_reverse->au0,take_left'->amb,prefix_nil->ama,length_replicate->auv,mem_iff_getElem->aur,mem_of_mem_drop->auq,drop_zero->al8,length_flatten->auh,filter_eq_self->auf,all_cons->al6,lookup_append->at9,pairwise_cons->at8,flatten_cons->at4,any_eq_false->at3,reverse_cons->at0,mem_toArray->atu,ext_getElem->atr,zipIdx_cons->atn,any_eq_true->ati,perm_middle->ath,mem_flatMap->atg,drop_left'->ata,getD->agz,filterMap->as7,forIn_nil->as5,foldl_nil->as0,drop_drop->asy,foldl->alm,any_cons->asv,take_nil->asp,mapM_map->aso,sum_cons->asn,map->alf
open Option.some renaming inj->dn,injEq->ahx
open PySem.Calls renaming spliced_cons->ju,evalArgs_plain->qf,docDef->jh,callWith_builtin->ug,spliced_nil->q9,callWith_function->avq
open Bool renaming and_eq_true_iff->l8,false_eq_true->ue,false_ne_true->wy,eq_false_iff->ad7,noConfusion->ad0,or_eq_true->ahm,false_and->ahj,true_eq_false->at5,not_eq_true'->at1,and_eq_true->atl,and_false->as6,true_and->asw,false_or->asu,and_comm->asm
open Array renaming length_toList->l7,getElem?_eq_getElem->ui,all_eq_true_iff_forall_mem->ani,extract_size->aec,toList_inj->ad4,findIdx?_eq_some_iff_getElem->awi,getElem?_eq_none->am4,getElem_toList->am1,getElem?_setIfInBounds->awb,getD_eq_getD_getElem?->av8,findIdx?_eq_none_iff->av6,getElem?_push_size->avs,size_setIfInBounds->avr,getElem?_push_lt->avc,getElem?_toList->au6,size_push->amc,toList_append->aui,foldl_toList->aua,size_extract->at6,toList_push->atz
open PySem.Builtin.Str renaming strKind->qh,occurrences->aax,strSliceIndices->av9,partsBetween->avv,tooLong->avg
open PySem.Builtin.SmallTypes renaming nextOf->sr,ownedTupleHandOut->awl,ownedTupleIsFree->awj
open PySem.Builtin renaming divisionGoesByPylong->wc
open Classical renaming byContradiction->uj,not_not->ams,em->al0
open PySem.Sre renaming Seen->ef,Frame->m5,M->ib,forSearch->ads
open ForInStep renaming yield->ny
open Int renaming ofNat_le->km,add_assoc->my,natCast_nonneg->uf,ofNat_lt->mx,add_comm->qm,add_sub_cancel->abo,sub_eq_add_neg->abm,toNat_natCast->abl,lt_of_le_of_lt->aed,le_trans->wk,add_left_comm->ad8,fmod_eq_emod_of_nonneg->anc,add_zero->yz,zero_add->aa7,natCast_add->ahk,toNat_of_nonneg->amy,not_lt->aa3,ofNat->adj,lt_of_lt_of_le->aud,toNat_le->alz,mul_one->alv,le_refl->alu,min_eq_left->ate,emod_nonneg->as9,not_le->aln,zero_mul->asj,toNat_lt->asi,ediv_one->ash,lt_trans->ase
open PySem.F renaming slot_str_split->wb,entry_str_split->abv,slot_tuple_iterator_next->ah9,slot_tuple_getitem->ah8,slot_zip_next->ah4,slot_str_ascii_iterator_next->awk,args_str_split_2->ana,args_str_split_3->am9,args_tuple_iterator_next_1->awh,plainAttrs_list->am8,entry_tuple_iterator_next->awf,plainAttrs_str->am5,slot_enumerate_next->av7,slot_list_getitem->av3,slot_str_getitem->avy,slot_dict_values->avu,slot_list_extend->avt,slot_list_index->avp,slot_str_encode->avo,slot_dict_items->avm,args_zip_next_1->avk,type_str_split->avf,entry_zip_next->avd,slot_int_rmul->ava,slot_tuple_eq->au8,slot_str_join->au5,slot_dict_eq->auu
open Std.Legacy.Range renaming forIn_eq_forIn_range'->agx,size->au3
open PySem.Flt renaming IsPattern->nv,patsOf->alj
open PySem.Builtin.Int renaming intBits->zb
open Ne renaming symm->g7
open Or renaming elim->iy
open PySem.NameKind renaming free->uv,cell->wo
open PySem.Builtin.Bytes renaming utf8At->aeg,takeBufferQuiet?->awd,takeBuffer?->avz,buffer?->auy,joinLetGo->a40,joinItems->a4z,tooLong->a4x,joined->a4u
open PySem.Builtin.Bytes.Kind renaming bytes->ah7,bytearray->awc
open PySem.StrLaws renaming partsFrom->abh,occBody->adw,occ_length_le_len->av1,partsBetween_eq->avi,strSub_toList->auw,sub_whole->atx,subAt_eq->atk
open PySem.Heap.SameBut renaming update->aee
open False renaming elim->rj
open PySem.Value renaming none->rh,ref->aa1,type->ag3,int->ag1,builtin->ass
open PySem.Txt renaming slice->qj,join->yw,replace->alr,mul->adh,splitMax->asf,find->alg
open List.cons renaming injEq->adv,inj->al2
open PySem.Builtin.Dict renaming samePairs->am7,showsAll->au7
open PySem.Builtin.Slice renaming slicePlaces->av2,sliceAdjust->a46
open PySem.Builtin.Range renaming rangeSize->avl
open PySem.Around renaming deeper->ahe,in1->ar5
open PySem.Shared renaming setGen->ahd,heap->alq
open Int.ofNat renaming inj->ahc
open PySem.SeqAt.EqAt renaming str_str->amm,same->ag8,of_refs->atf
open PySem.SeqAt.RcAt renaming lists_lengths->au9,lists->asx
open PySem.W renaming typeIs_bytes->ag7
open Except renaming ok->aa0,bind->ar9
open Fin renaming cases->aaz
open Char renaming toNat->adn
open PySem.Obj renaming mapSeq->adm,data_mapFields->at7
open Eq renaming trans->aay
open PySem.Value.ref renaming inj->al4
open Function renaming comp->al1
open PySem.W.Hook renaming none->adi
open PySem.Builtin.Tuple renaming tupleCompareSizes->a5c,tupleItemsOf->a48,tupleExact->a42
open PySem.W.KBy renaming isInstance_eq->aty,look_buffer->atc,special_eq->as4,own_buffer->as3,quiet_eq->asb
open Nat.succ renaming inj->aly
open PyProof.Rows renaming Assign_Tuple->alw,getItem_tuple->a49,floordiv_int->a47,is_none_none->a44,is_int_none->a41,mod_int'->a4y,pow_int->a4w,is_bool->a4v,ne_str->a4r,ne_int->a4q
open List.range renaming loop->atd
open UInt8 renaming toNat->als
open PySem.Code renaming func->ag0,forLoop->asa,weight->ar8,cUnits->ar7
open PySem.Builtin.List renaming listFitsIndex->a5b,listTooLong->a43
open PySem.SeqAt.RcNeAt renaming lists_lengths->a5a,tuples->a4s,lists->a4p
open PySem.Draws renaming strAscii->as2
open PySem.Builtin.Generator renaming genWake->a45
open PUnit renaming unit->alk
open PySem.Sem renaming pure->agy,raise->ali,bind->ale
open PySem.Env renaming blockKind->asr
open PySem.Frame renaming guarded->asq
open PySem.W.WTm renaming value->alh
open List.Pairwise renaming filter->a4t,nil->a4o
open PySem.SeqAt renaming EqAt->ar6
open PySem PySem.W PyProof.Rows
set_option Elab.async false
set_option tactic.hygienic false
set_option compiler.extract_closed false
set_option bootstrap.genMatcherCode false
set_option linter.all false
set_option genSizeOf false
set_option genCtorIdx false
set_option genInjectivity false
set_option maxRecDepth 100000
set_option maxHeartbeats 0
namespace Mine.O
inductive E|v (i:Nat)|c (n:Nat)|a (x y:E)|s (x y:E)|m (k:Nat) (x:E)|w (x:E) (k:Nat)|mi (x y:E)|ma (x y:E)
inductive P|le (x y:E)|lt (x y:E)|eq (x y:E)|n (p:P)|an (p q:P)|o (p q:P)|i (p q:P)|f (p q:P)|h (p:Prop)
inductive C|l (ms:List Nat)|b (x y:C)
noncomputable def nth(g:List Nat):Nat->Nat:=g.rec (fun _=>0) fun x _ h i=>i.rec x fun i _=>h i
noncomputable def E.val(g:List Nat):E->Nat
 |v i=>nth g i
 |c n=>n
 |a x y=>x.val g+y.val g
 |s x y=>x.val g - y.val g
 |m k x=>k * x.val g
 |w x k=>x.val g * k
 |mi x y=>min (x.val g) (y.val g)
 |ma x y=>max (x.val g) (y.val g)
def P.den(g:List Nat):P->Prop
 |le x y=>x.val g<=y.val g
 |lt x y=>x.val g<y.val g
 |eq x y=>x.val g=y.val g
 |n p=>¬p.den g
 |an p q=>p.den g/\q.den g
 |o p q=>p.den g\/q.den g
 |i p q=>p.den g->q.den g
 |f p q=>p.den g↔q.den g
 |h p=>p
def den(g:List Nat)(q:P):List P->Prop
 |[]=>q.den g
 |p::l=>p.den g->den g q l
noncomputable abbrev L:=List Int
noncomputable def add:L->L->L
 |[],l=>l
 |x::k,l=>(x+l.headD 0)::add k l.tail
noncomputable def scl(n:Int)(p:L):L:=p.map (n * ·)
noncomputable def sub(p q:L):L:=add p (scl (-1) q)
noncomputable def aic:Nat->L
 |0=>[1]
 |i+1=>0::aic i
noncomputable def ev:L->List Nat->Int
 |[],_=>0
 |y::l,g=>y * g.headD 0+ev l g.tail
noncomputable def neg(p:L):Bool:=p.all fun x=>x.toNat.beq 0
noncomputable def bad(p:L):Bool:=and ((p.headD 0+1).toNat.beq 0) (neg p.tail)
noncomputable def ake:List Nat->List L->L
 |[],_=>[]
 |n::k,F=>add (scl n (F.headD [])) (ake k F.tail)
noncomputable abbrev K:=List L->C->Bool
noncomputable def two(k1 k2:K)(F:List L):C->Bool
 |.b x y=>and (k1 F x) (k2 F y)
 |.l _=>false
noncomputable def put(p:L)(k:K):K:=fun F=>k (p::F)
noncomputable def E.run:E->(L->K)->K
 |v i,k=>k (aic (i+1))
 |c n,k=>k [(n:Int)]
 |a x y,k=>x.run fun p=>y.run fun q=>k (add p q)
 |m n x,k=>x.run fun p=>k (scl n p)
 |w x n,k=>x.run fun p=>k (scl n p)
 |s x y,k=>x.run fun p=>y.run fun q=>two (put (sub p q) (k (sub p q))) (put (sub (sub q p) [1]) (k []))
 |mi x y,k=>x.run fun p=>y.run fun q=>two (put (sub q p) (k p)) (put (sub p q) (k q))
 |ma x y,k=>x.run fun p=>y.run fun q=>two (put (sub q p) (k q)) (put (sub p q) (k p))
noncomputable def P.as:P->Bool->K->K
 |le x y,b,k=>x.run fun p=>y.run fun q=>put (cond b (sub q p) (sub (sub p q) [1])) k
 |lt x y,b,k=>x.run fun p=>y.run fun q=>put (cond b (sub (sub q p) [1]) (sub p q)) k
 |eq x y,b,k=>x.run fun p=>y.run fun q=>cond b (put (sub q p) (put (sub p q) k)) (two (put (sub (sub p q) [1]) k) (put (sub (sub q p) [1]) k))
 |n p,b,k=>p.as (!b) k
 |an p q,b,k=>cond b (p.as b (q.as b k)) (two (p.as b k) (q.as b k))
 |o p q,b,k=>cond b (two (p.as b k) (q.as b k)) (p.as b (q.as b k))
 |i p q,b,k=>cond b (two (p.as false k) (q.as b k)) (p.as true (q.as b k))
 |f p q,b,k=>two (p.as true (q.as b k)) (p.as false (q.as (!b) k))
 |h _,_,k=>k
noncomputable def fin(F:List L):C->Bool
 |.l ms=>bad (ake ms F)
 |.b _ _=>false
noncomputable def all:List P->P->K
 |[],q=>q.as false fin
 |p::l,q=>p.as true (all l q)
def a19(q:L)(g:List Nat):ev q g=q.headD 0 * g.headD 0+ev q.tail g.tail:=by
 cases q
 .show(0:Int)=0 * _+0;rw[asj];rfl
 .rfl
def aqk(p:L):∀q g,ev (add p q) g=ev p g+ev q g:=by
 induction p with
 |nil=>exact fun q g=>(aa7 _).symm
 |cons x p ih=>
  intro q g;rw[a19 q g];show(x+_) * _+ev (add p _) _=_;rw[ih,Int.add_mul];exact(my ..).trans ((congrArg _ (ad8 ..)).trans (my ..).symm)
def aj5(n:Int)(p:L):∀g,ev (scl n p) g=n * ev p g:=by
 induction p with
 |nil=>exact fun g=>(Int.mul_zero _).symm
 |cons x p ih=>
  intro g;show n * x * _+ev (scl n p) _=n * (x * _+_);rw[ih,Int.mul_add,Int.mul_assoc]
variable{p:L}
def qz{q:L}{g:List Nat}{a b:Int}(h:ev p g=a)(k:ev q g=b):ev (sub p q) g=a - b:=by
 rw[sub,aqk,aj5,h,k,Int.neg_one_mul];rfl
def bd2:∀(i:Nat) (g:List Nat),ev (aic i) g=nth g i:=by
 intro i;induction i with
 |zero=>exact fun g=>(congrArg (·+0) (Int.one_mul _)).trans ((yz _).trans (by cases g<;>rfl))
 |succ i ih=>exact fun g=>(congrArg (·+_) (asj _)).trans ((aa7 _).trans ((ih _).trans (by cases g<;>rfl)))
def a18(g:List Nat)(n:Int):ev [n] (1::g)=n:=(yz _).trans (alv n)
def a0i{x:Int}(h:x.toNat.beq 0=true):x<=0:=Int.toNat_eq_zero.1 (Nat.eq_of_beq_eq_true h)
def bd3(p:L):∀g,neg p=true->ev p g<=0:=by
 induction p with
 |nil=>exact fun g _=>alu 0
 |cons x p ih=>
  exact fun g h=>Int.add_nonpos (Int.mul_nonpos_of_nonpos_of_nonneg (a0i (l8.1 h).1) (uf _)) (ih _ (l8.1 h).2)
def ok(g:List Nat)(F:List L):Prop:=∀p∈F,0<=ev p (1::g)
def bg1{g:List Nat}(h:bad p=true):ev p (1::g)<0:=by
 rw[a19];exact Int.add_neg_of_neg_of_nonpos (show p.headD 0 * 1<0 from(alv _).symm▸a0i (l8.1 h).1) (bd3 _ _ (l8.1 h).2)
def a1j{g:List Nat}{F:List L}(h:ok g F):0<=ev (F.headD []) (1::g)/\ok g F.tail:=by
 cases F
 .exact⟨alu 0,h⟩
 .exact⟨h _ (.head _),fun q m=>h q (.tail _ m)⟩
def bf5{g:List Nat}(ms:List Nat):∀F,ok g F->0<=ev (ake ms F) (1::g):=by
 induction ms with
 |nil=>exact fun F _=>alu 0
 |cons n ms ih=>
  intro F h;rw[ake,aqk,aj5];exact Int.add_nonneg (Int.mul_nonneg (uf n) (a1j h).1) (ih _ (a1j h).2)
def No(g:List Nat)(k:K):Prop:=∀F c,ok g F->k F c=true->False
theorem No.two{g:List Nat}{k1 k2:K}{P Q:Prop}(pq:P\/Q)(a:P->No g k1)(b:Q->No g k2):No g (two k1 k2):=fun F c hF h=>by
 cases c with
 |l _=>cases h
 |b x y=>exact pq.elim (fun p=>a p F x hF (l8.1 h).1) fun p=>b p F y hF (l8.1 h).2
variable{k:K}
def No.pt{g:List Nat}{a b:Int}(e:ev p (1::g)=a - b)(l:b<=a)(h:No g k):No g (put p k):=fun F c hF=>h (p::F) c fun q m=>by
 cases m with
 |head=>exact e▸Int.sub_nonneg_of_le l
 |tail _ m=>exact hF q m
def No.pt1{g:List Nat}{q:L}{a b:Nat}(e:ev p (1::g)=a)(f:ev q (1::g)=b)(l:b<a)(h:No g k):No g (put (sub (sub p q) [1]) k):=
 h.pt (qz (qz e f) (a18 g 1)) (Int.le_sub_left_of_add_le (km.2 l))
def ayi{g:List Nat}(e:E):∀{k:L->K},(∀p,ev p (1::g)=(e.val g:Int)->No g (k p))->No g (e.run k):=by
 induction e with
 |v i=>exact fun h=>h _ (bd2 (i+1) (1::g))
 |c n=>exact fun h=>h _ (a18 ..)
 |a x y ihx ihy=>exact fun h=>ihx fun p hp=>ihy fun q hq=>h _ ((aqk ..).trans (hp▸hq▸rfl))
 |m n x ih=>exact fun h=>ih fun p hp=>h _ ((aj5 ..).trans (hp▸rfl))
 |w x n ih=>exact fun h=>ih fun p hp=>h _ ((aj5 ..).trans (hp▸Int.mul_comm ..))
 |s x y ihx ihy=>
  exact fun{k} h=>ihx fun p hp=>ihy fun q hq=>.two (uu (x.val g) (y.val g)).symm
   (fun l=>(h _ ((qz hp hq).trans (Int.ofNat_sub l).symm)).pt (qz hp hq) (km.2 l))
   (fun l=>(h [] (congrArg adj (so (sx l)).symm)).pt1 hq hp l)
 |mi x y ihx ihy=>
  exact fun{k} h=>ihx fun p hp=>ihy fun q hq=>.two (ahb (x.val g) (y.val g))
   (fun l=>(h p (hp.trans (congrArg adj (adz l).symm))).pt (qz hq hp) (km.2 l))
   (fun l=>(h q (hq.trans (congrArg adj (ad5 l).symm))).pt (qz hp hq) (km.2 l))
 |ma x y ihx ihy=>
  exact fun{k} h=>ihx fun p hp=>ihy fun q hq=>.two (ahb (x.val g) (y.val g))
   (fun l=>(h q (hq.trans (congrArg adj (Nat.max_eq_right l).symm))).pt (qz hq hp) (km.2 l))
   (fun l=>(h p (hp.trans (congrArg adj (Nat.max_eq_left l).symm))).pt (qz hp hq) (km.2 l))
def aoa{g:List Nat}{x y:E}{k:L->L->K}(h:∀p q,ev p (1::g)=(x.val g:Int)->ev q (1::g)=(y.val g:Int)->No g (k p q)):No g (x.run fun p=>y.run fun q=>k p q):=
 ayi x fun p hp=>ayi y fun q hq=>h p q hp hq
def isP(b:Bool)(p:Prop):Prop:=cond b p (¬p)
def a3w{g:List Nat}(p:P):∀(b:Bool) {k:K},isP b (p.den g)->No g k->No g (p.as b k):=by
 induction p with
 |le x y=>exact fun b k a h=>aoa fun p q hp hq=>match b,a with
  |true,a=>h.pt (qz hq hp) (km.2 a)
  |false,a=>h.pt1 hp hq (atw a)
 |lt x y=>exact fun b k a h=>aoa fun p q hp hq=>match b,a with
  |true,a=>h.pt1 hq hp a
  |false,a=>h.pt (qz hp hq) (km.2 (ahr a))
 |eq x y=>exact fun b k a h=>aoa fun p q hp hq=>match b,a with
  |true,a=>(h.pt (qz hp hq) (km.2 (aha (Eq.symm a)))).pt (qz hq hp) (km.2 (aha a))
  |false,a=>.two (Nat.lt_or_gt_of_ne a).symm (h.pt1 hp hq) (h.pt1 hq hp)
 |n p ih=>exact fun b k a h=>match b,a with
  |true,a=>ih false a h
  |false,a=>ih true (ams.1 a) h
 |an p q ip iq=>exact fun b k a h=>match b,a with
  |true,a=>ip true a.1 (iq true a.2 h)
  |false,a=>.two (Classical.not_and_iff_not_or_not.1 a) (fun l=>ip false l h) (fun l=>iq false l h)
 |o p q ip iq=>exact fun b k a h=>match b,a with
  |true,a=>.two a (fun l=>ip true l h) (fun l=>iq true l h)
  |false,a=>ip false (fun c=>a (.inl c)) (iq false (fun c=>a (.inr c)) h)
 |i p q ip iq=>exact fun b k a h=>match b,a with
  |true,a=>.two (al0 (p.den g)).symm (fun l=>ip false l h) (fun l=>iq true (a l) h)
  |false,a=>ip true (uj fun c=>a fun d=>absurd d c) (iq false (fun c=>a fun _=>c) h)
 |f p q ip iq=>exact fun b k a h=>match b,a with
  |true,a=>.two (al0 (p.den g)) (fun l=>ip true l (iq true (a.1 l) h)) (fun l=>ip false l (iq false (fun c=>l (a.2 c)) h))
  |false,a=>.two (al0 (p.den g)) (fun l=>ip true l (iq false (fun c=>a ⟨fun _=>c,fun _=>l⟩) h)) (fun l=>ip false l (iq true (uj fun c=>a ⟨fun d=>absurd d l,fun d=>absurd d c⟩) h))
 |h p=>exact fun b k a h=>h
def bdr{g:List Nat}:No g fin:=fun F c hF h=>by
 cases c with
 |b _ _=>cases h
 |l ms=>exact aln.2 (bg1 h) (bf5 ms F hF)
variable{q:P}
def bhp{g:List Nat}(l:List P):¬den g q l->No g (all l q):=by
 induction l with
 |nil=>exact fun a=>a3w q false a bdr
 |cons p l ih=>exact fun a=>a3w p true (uj fun c=>a fun d=>absurd d c) (ih fun d=>a fun _=>d)
def c0(g:List Nat)(l:List P)(q:P)(c:C)(e:all l q [] c=true):den g q l:=
 uj fun n=>bhp l n [] c (fun _ m=>nomatch m) e
noncomputable def lf(f:Nat):Nat->List Nat×Nat:=f.rec (fun c=>([],c)) fun _ h c=>bif c.beq 0 ||(c % 10).beq 8 then([],c / 10)else(h (c / 10)).rec fun l d=>(c % 10::l,d)
noncomputable def dec(f:Nat):Nat->C×Nat:=f.rec (fun c=>(.l [],c)) fun _ h c=>bif (c % 10).beq 9 then(h (c / 10)).rec fun x d=>(h d).rec fun y e=>(.b x y,e)else(lf 99 c).rec fun l d=>(.l l,d)
def ck(g:List Nat)(l:List P)(q:P)(c:Nat)(e:all l q [] (dec 99 c).1=true):den g q l:=c0 g l q _ e
variable{l:List P}
def chk{g:List Nat}(c:Nat)(e:all l q [] (dec 99 c).1=true):den g q l:=ck g l q c e
def ap{g:List Nat}{p:P}(e:den g q (p::l))(h:p.den g):den g q l:=e h
end Mine.O
namespace Mine
variable{α β:Type}
def aq{f:Option α}{g:α->Option β}{b:β}{P:Prop}(y:f.bind g=some b)(k:∀a,f=some a->g a=some b->P):P:=
 f.rec (motive:=fun f=>f.bind g=some b->(∀a,f=some a->g a=some b->P)->P) (fun y _=>absurd y.symm (aef b)) (fun a y k=>k a rfl y) y k
def b9{f:Option α}{g:α->β}{b:β}{P:Prop}(y:f.map g=some b)(k:∀a,f=some a->g a=b->P):P:=
 f.rec (motive:=fun f=>f.map g=some b->(∀a,f=some a->g a=b->P)->P) (fun y _=>absurd y.symm (aef b)) (fun a y k=>k a rfl (dn y)) y k
variable{p:Prop}
def ifS[Decidable p]{a b:α}{P:Prop}(y:(if p then some a else none)=some b)(k:p->a=b->P):P:=
 if h:p then k h (dn ((if_pos h).symm.trans y))else absurd ((if_neg h).symm.trans y) nofun
def ifN[Decidable p]{a b:α}{P:Prop}(y:(if p then none else some a)=some b)(k:¬p->a=b->P):P:=
 if h:p then absurd ((if_pos h).symm.trans y) nofun else k h (dn ((if_neg h).symm.trans y))
def ifE[Decidable p]{a b c:α}{P:Prop}(y:(if p then a else b)=c)(k:p->a=c->P)(l:¬p->b=c->P):P:=
 if h:p then k h ((if_pos h).symm.trans y)else l h ((if_neg h).symm.trans y)
def oel{f:Option α}{z:β}{g:α->β}{b:β}{P:Prop}(y:f.elim z g=b)(n:f=none->z=b->P)(k:∀a,f=some a->g a=b->P):P:=
 f.rec (motive:=fun f=>f.elim z g=b->(f=none->z=b->P)->(∀a,f=some a->g a=b->P)->P) (fun y n _=>n rfl y) (fun a y _ k=>k a rfl y) y n k
def a9v{γ:Type}{f:Option α}{h:α->β}{g:β->Option γ}{b:γ}{P:Prop}(y:(f.map h).bind g=some b)(k:∀a,f=some a->g (h a)=some b->P):P:=
 f.rec (motive:=fun f=>(f.map h).bind g=some b->(∀a,f=some a->g (h a)=some b->P)->P) (fun y _=>absurd y.symm (aef b)) (fun a y k=>k a rfl y) y k
variable{c p0 p1:Prop}
def oA(h:p0/\p1)(k:p0->p1->c):c:=k h.1 h.2
variable{α0:Sort _}
def oE{p0:α0->Prop}(h:∃x0,p0 x0)(k:∀x0,p0 x0->c):c:=h.elim fun x0 h1=>k x0 h1
variable{p2:Prop}
def oAA(h:p0/\p1/\p2)(k:p0->p1->p2->c):c:=k h.1 h.2.1 h.2.2
def oEA{p0:α0->Prop}{p1:α0->Prop}(h:∃x0,p0 x0/\p1 x0)(k:∀x0,p0 x0->p1 x0->c):c:=h.elim fun x0 h1=>k x0 h1.1 h1.2
variable{α1:Sort _}
def oEE{p0:α0->α1->Prop}(h:∃x0,∃x1,p0 x0 x1)(k:∀x0,∀x1,p0 x0 x1->c):c:=h.elim fun x0 h1=>h1.elim fun x1 h2=>k x0 x1 h2
def a94{p3:Prop}(h:p0/\p1/\p2/\p3)(k:p0->p1->p2->p3->c):c:=k h.1 h.2.1 h.2.2.1 h.2.2.2
def kq{p0:α0->Prop}{p1:α0->Prop}{p2:α0->Prop}(h:∃x0,p0 x0/\p1 x0/\p2 x0)(k:∀x0,p0 x0->p1 x0->p2 x0->c):c:=h.elim fun x0 h1=>k x0 h1.1 h1.2.1 h1.2.2
def a93{p0:α0->Prop}{p1:α0->α1->Prop}(h:∃x0,p0 x0/\∃x1,p1 x0 x1)(k:∀x0,p0 x0->∀x1,p1 x0 x1->c):c:=h.elim fun x0 h1=>h1.2.elim fun x1 h2=>k x0 h1.1 x1 h2
def i3{p0:α0->α1->Prop}{p1:α0->α1->Prop}(h:∃x0,∃x1,p0 x0 x1/\p1 x0 x1)(k:∀x0,∀x1,p0 x0 x1->p1 x0 x1->c):c:=h.elim fun x0 h1=>h1.elim fun x1 h2=>k x0 x1 h2.1 h2.2
def zx{p0:α0->α1->Prop}{p1:α0->α1->Prop}{p2:α0->α1->Prop}(h:∃x0,∃x1,p0 x0 x1/\p1 x0 x1/\p2 x0 x1)(k:∀x0,∀x1,p0 x0 x1->p1 x0 x1->p2 x0 x1->c):c:=h.elim fun x0 h1=>h1.elim fun x1 h2=>k x0 x1 h2.1 h2.2.1 h2.2.2
variable{α2:Sort _}
def a90{p0:α0->α1->α2->Prop}{p1:α0->α1->α2->Prop}(h:∃x0,∃x1,∃x2,p0 x0 x1 x2/\p1 x0 x1 x2)(k:∀x0,∀x1,∀x2,p0 x0 x1 x2->p1 x0 x1 x2->c):c:=h.elim fun x0 h1=>h1.elim fun x1 h2=>h2.elim fun x2 h3=>k x0 x1 x2 h3.1 h3.2
variable{α3:Sort _}
def azn{p0:α0->α1->α2->α3->Prop}(h:∃x0,∃x1,∃x2,∃x3,p0 x0 x1 x2 x3)(k:∀x0,∀x1,∀x2,∀x3,p0 x0 x1 x2 x3->c):c:=h.elim fun x0 h1=>h1.elim fun x1 h2=>h2.elim fun x2 h3=>h3.elim fun x3 h4=>k x0 x1 x2 x3 h4
def ae6{p0:α0->Prop}{p1:α0->Prop}{p2:α0->Prop}{p3:α0->Prop}{p4:α0->Prop}(h:∃x0,p0 x0/\p1 x0/\p2 x0/\p3 x0/\p4 x0)(k:∀x0,p0 x0->p1 x0->p2 x0->p3 x0->p4 x0->c):c:=h.elim fun x0 h1=>k x0 h1.1 h1.2.1 h1.2.2.1 h1.2.2.2.1 h1.2.2.2.2
def xi{p0:α0->α1->Prop}{p1:α0->α1->Prop}{p2:α0->α1->Prop}{p3:α0->α1->Prop}(h:∃x0,∃x1,p0 x0 x1/\p1 x0 x1/\p2 x0 x1/\p3 x0 x1)(k:∀x0,∀x1,p0 x0 x1->p1 x0 x1->p2 x0 x1->p3 x0 x1->c):c:=h.elim fun x0 h1=>h1.elim fun x1 h2=>k x0 x1 h2.1 h2.2.1 h2.2.2.1 h2.2.2.2
def zw{p0:α0->α1->α2->Prop}{p1:α0->α1->α2->Prop}{p2:α0->α1->α2->Prop}(h:∃x0,∃x1,∃x2,p0 x0 x1 x2/\p1 x0 x1 x2/\p2 x0 x1 x2)(k:∀x0,∀x1,∀x2,p0 x0 x1 x2->p1 x0 x1 x2->p2 x0 x1 x2->c):c:=h.elim fun x0 h1=>h1.elim fun x1 h2=>h2.elim fun x2 h3=>k x0 x1 x2 h3.1 h3.2.1 h3.2.2
def ab9{p0:α0->α1->Prop}{p1:α0->α1->Prop}{p2:α0->α1->Prop}{p3:α0->α1->Prop}{p4:α0->α1->Prop}(h:∃x0,∃x1,p0 x0 x1/\p1 x0 x1/\p2 x0 x1/\p3 x0 x1/\p4 x0 x1)(k:∀x0,∀x1,p0 x0 x1->p1 x0 x1->p2 x0 x1->p3 x0 x1->p4 x0 x1->c):c:=h.elim fun x0 h1=>h1.elim fun x1 h2=>k x0 x1 h2.1 h2.2.1 h2.2.2.1 h2.2.2.2.1 h2.2.2.2.2
def ae5{p0:α0->α1->α2->Prop}{p1:α0->α1->α2->Prop}{p2:α0->α1->α2->Prop}{p3:α0->α1->α2->Prop}(h:∃x0,∃x1,∃x2,p0 x0 x1 x2/\p1 x0 x1 x2/\p2 x0 x1 x2/\p3 x0 x1 x2)(k:∀x0,∀x1,∀x2,p0 x0 x1 x2->p1 x0 x1 x2->p2 x0 x1 x2->p3 x0 x1 x2->c):c:=h.elim fun x0 h1=>h1.elim fun x1 h2=>h2.elim fun x2 h3=>k x0 x1 x2 h3.1 h3.2.1 h3.2.2.1 h3.2.2.2
def a92{p0:α0->α1->Prop}{p1:α0->α1->Prop}{p2:α0->α1->Prop}{p3:α0->α1->Prop}{p4:α0->α1->Prop}{p5:α0->α1->Prop}(h:∃x0,∃x1,p0 x0 x1/\p1 x0 x1/\p2 x0 x1/\p3 x0 x1/\p4 x0 x1/\p5 x0 x1)(k:∀x0,∀x1,p0 x0 x1->p1 x0 x1->p2 x0 x1->p3 x0 x1->p4 x0 x1->p5 x0 x1->c):c:=h.elim fun x0 h1=>h1.elim fun x1 h2=>k x0 x1 h2.1 h2.2.1 h2.2.2.1 h2.2.2.2.1 h2.2.2.2.2.1 h2.2.2.2.2.2
def ai8{p0:α0->α1->α2->Prop}{p1:α0->α1->α2->Prop}{p2:α0->α1->α2->Prop}{p3:α0->α1->α2->Prop}{p4:α0->α1->α2->Prop}(h:∃x0,∃x1,∃x2,p0 x0 x1 x2/\p1 x0 x1 x2/\p2 x0 x1 x2/\p3 x0 x1 x2/\p4 x0 x1 x2)(k:∀x0,∀x1,∀x2,p0 x0 x1 x2->p1 x0 x1 x2->p2 x0 x1 x2->p3 x0 x1 x2->p4 x0 x1 x2->c):c:=h.elim fun x0 h1=>h1.elim fun x1 h2=>h2.elim fun x2 h3=>k x0 x1 x2 h3.1 h3.2.1 h3.2.2.1 h3.2.2.2.1 h3.2.2.2.2
def ao0{p0:α0->α1->α2->α3->Prop}{p1:α0->α1->α2->α3->Prop}{p2:α0->α1->α2->α3->Prop}{p3:α0->α1->α2->α3->Prop}{p4:α0->α1->α2->α3->Prop}{p5:α0->α1->α2->α3->Prop}(h:∃x0,∃x1,∃x2,∃x3,p0 x0 x1 x2 x3/\p1 x0 x1 x2 x3/\p2 x0 x1 x2 x3/\p3 x0 x1 x2 x3/\p4 x0 x1 x2 x3/\p5 x0 x1 x2 x3)(k:∀x0,∀x1,∀x2,∀x3,p0 x0 x1 x2 x3->p1 x0 x1 x2 x3->p2 x0 x1 x2 x3->p3 x0 x1 x2 x3->p4 x0 x1 x2 x3->p5 x0 x1 x2 x3->c):c:=h.elim fun x0 h1=>h1.elim fun x1 h2=>h2.elim fun x2 h3=>h3.elim fun x3 h4=>k x0 x1 x2 x3 h4.1 h4.2.1 h4.2.2.1 h4.2.2.2.1 h4.2.2.2.2.1 h4.2.2.2.2.2
def a91{p0:α0->α1->Prop}{p1:α0->α1->Prop}{p2:α0->α1->Prop}{p3:α0->α1->Prop}{p4:α0->α1->Prop}{p5:α0->α1->Prop}{p6:α0->α1->Prop}{p7:α0->α1->Prop}{p8:α0->α1->Prop}(h:∃x0,∃x1,p0 x0 x1/\p1 x0 x1/\p2 x0 x1/\p3 x0 x1/\p4 x0 x1/\p5 x0 x1/\p6 x0 x1/\p7 x0 x1/\p8 x0 x1)(k:∀x0,∀x1,p0 x0 x1->p1 x0 x1->p2 x0 x1->p3 x0 x1->p4 x0 x1->p5 x0 x1->p6 x0 x1->p7 x0 x1->p8 x0 x1->c):c:=h.elim fun x0 h1=>h1.elim fun x1 h2=>k x0 x1 h2.1 h2.2.1 h2.2.2.1 h2.2.2.2.1 h2.2.2.2.2.1 h2.2.2.2.2.2.1 h2.2.2.2.2.2.2.1 h2.2.2.2.2.2.2.2.1 h2.2.2.2.2.2.2.2.2
def ai7{p0:α0->α1->α2->Prop}{p1:α0->α1->α2->Prop}{p2:α0->α1->α2->Prop}{p3:α0->α1->α2->Prop}{p4:α0->α1->α2->Prop}{p5:α0->α1->α2->Prop}{p6:α0->α1->α2->Prop}{p7:α0->α1->α2->Prop}{p8:α0->α1->α2->Prop}(h:∃x0,∃x1,∃x2,p0 x0 x1 x2/\p1 x0 x1 x2/\p2 x0 x1 x2/\p3 x0 x1 x2/\p4 x0 x1 x2/\p5 x0 x1 x2/\p6 x0 x1 x2/\p7 x0 x1 x2/\p8 x0 x1 x2)(k:∀x0,∀x1,∀x2,p0 x0 x1 x2->p1 x0 x1 x2->p2 x0 x1 x2->p3 x0 x1 x2->p4 x0 x1 x2->p5 x0 x1 x2->p6 x0 x1 x2->p7 x0 x1 x2->p8 x0 x1 x2->c):c:=h.elim fun x0 h1=>h1.elim fun x1 h2=>h2.elim fun x2 h3=>k x0 x1 x2 h3.1 h3.2.1 h3.2.2.1 h3.2.2.2.1 h3.2.2.2.2.1 h3.2.2.2.2.2.1 h3.2.2.2.2.2.2.1 h3.2.2.2.2.2.2.2.1 h3.2.2.2.2.2.2.2.2
def ns{x:Option α}{a:α}{P:Prop}(h:x=none)(e:x=some a):P:=Option.noConfusion rfl (heq_of_eq (h.symm.trans e))
def noS{x:Option α}(k:∀a,x=some a->False):x=none:=x.rec (motive:=fun x=>(∀a,x=some a->False)->x=none) (fun _=>rfl) (fun a k=>(k a rfl).elim) k
set_option genCtorIdx true in
inductive D where
 |none
 |bool (b:Bool)
 |int (i:Int)
 |str (s:Str)
 |hstr (s:Str)
 |bytes (b:Array UInt8)
 |tup (l:List D)
 |list (l:List D)
 |dict (l:List (Str×D))
 deriving Inhabited
noncomputable def i6(d:D):Option (Int):=@D.casesOn (fun _=>Option (Int)) d .none (fun _=>.none) .some (fun _=>.none) (fun _=>.none) (fun _=>.none) (fun _=>.none) (fun _=>.none) (fun _=>.none)
variable{d:D}
def i5{x:Int}(h:i6 d=some x):d=.int x:=by
 cases d with
 |int=>exact congrArg D.int (dn h)
 |_=>exact ns rfl h
noncomputable def akz(d:D):Option (Bool):=@D.casesOn (fun _=>Option (Bool)) d .none .some (fun _=>.none) (fun _=>.none) (fun _=>.none) (fun _=>.none) (fun _=>.none) (fun _=>.none) (fun _=>.none)
def arn{x:Bool}(h:akz d=some x):d=.bool x:=by
 cases d with
 |bool=>exact congrArg D.bool (dn h)
 |_=>exact ns rfl h
noncomputable def vn(d:D):Option (List D):=@D.casesOn (fun _=>Option (List D)) d .none (fun _=>.none) (fun _=>.none) (fun _=>.none) (fun _=>.none) (fun _=>.none) .some (fun _=>.none) (fun _=>.none)
variable{x:List D}
def ye(h:vn d=some x):d=.tup x:=by
 cases d with
 |tup=>exact congrArg D.tup (dn h)
 |_=>exact ns rfl h
noncomputable def jg(d:D):Option (List D):=@D.casesOn (fun _=>Option (List D)) d .none (fun _=>.none) (fun _=>.none) (fun _=>.none) (fun _=>.none) (fun _=>.none) (fun _=>.none) .some (fun _=>.none)
def ua(h:jg d=some x):d=.list x:=by
 cases d with
 |list=>exact congrArg D.list (dn h)
 |_=>exact ns rfl h
noncomputable def mn(d:D):Option (List (Str×D)):=@D.casesOn (fun _=>Option (List (Str×D))) d .none (fun _=>.none) (fun _=>.none) (fun _=>.none) (fun _=>.none) (fun _=>.none) (fun _=>.none) (fun _=>.none) .some
def af8{x:List (Str×D)}(h:mn d=some x):d=.dict x:=by
 cases d with
 |dict=>exact congrArg D.dict (dn h)
 |_=>exact ns rfl h
def sa(a:Int):i6 (.int a)=some a:=rfl
structure ah where
 f:ai->Option Obj
 lim:Nat
noncomputable def c8(cls:String)(vs:List ae)(n:Nat):Obj:={cls:=.type cls,data:=.seq vs.toArray n}
noncomputable def gy(vs:List ae)(kvs:List (Str×D)):List (Str×ae):=vs.zipWith (fun v kv=>(kv.1,v)) kvs
variable (prog:dm) (w:dv)
mutual
def Rep(g:ah):ae->D->Prop
 |v,.none=>v=.none
 |v,.bool b=>v=.bool b
 |v,.int i=>∃t,v=.int i t
 |v,.str s=>∃t,v=.str s t
 |v,.hstr s=>∃t,v=.str s t/\0<t/\t<g.lim
 |v,.bytes b=>∃t,v=.bytes b t
 |v,.tup l=>∃a vs n,v=.ref a/\g.f a=some (c8 "tuple" vs n)/\a9 g vs l
 |v,.list l=>∃a vs n,v=.ref a/\g.f a=some (c8 "list" vs n)/\a9 g vs l
 |v,.dict kvs=>∃a o vs,v=.ref a/\g.f a=some o/\o.IsDictOf (strKind prog w) (gy vs kvs)/\dz g vs kvs/\(a==sysModules)=false
def a9(g:ah):List ae->List D->Prop
 |vs,[]=>match vs with
  |[]=>True
  |_::_=>False
 |vs,d::ds=>match vs with
  |[]=>False
  |v::vs=>Rep g v d/\a9 g vs ds
def dz(g:ah):List ae->List (Str×D)->Prop
 |vs,[]=>match vs with
  |[]=>True
  |_::_=>False
 |vs,(_,d)::ds=>match vs with
  |[]=>False
  |v::vs=>Rep g v d/\dz g vs ds
end
structure VLe(g g':ah):Prop where
 at':∀a o,g.f a=some o->g'.f a=some o
 lim:g.lim<=g'.lim
mutual
theorem Rep.mono{g g':ah}(h:VLe g g'):∀{v:ae} {d:D},Rep prog w g v d->Rep prog w g' v d
 |_,.none,x=>x
 |_,.bool _,x=>x
 |_,.int _,x=>x
 |_,.str _,x=>x
 |_,.hstr _,x=>let⟨t,e,h0,h1⟩:=x;⟨t,e,h0,i7 h1 h.lim⟩
 |_,.bytes _,x=>x
 |_,.tup l,x=>by
  obtain⟨a,vs,n,e,ha,hl⟩:=x;exact⟨a,vs,n,e,h.at' _ _ ha,a9.mono h hl⟩
 |_,.list l,x=>by
  obtain⟨a,vs,n,e,ha,hl⟩:=x;exact⟨a,vs,n,e,h.at' _ _ ha,a9.mono h hl⟩
 |_,.dict l,x=>by
  obtain⟨a,o,vs,e,ha,hd,hl,hn⟩:=x;exact⟨a,o,vs,e,h.at' _ _ ha,hd,dz.mono h hl,hn⟩
theorem a9.mono{g g':ah}(h:VLe g g'):∀{vs:List ae} {ds:List D},a9 prog w g vs ds->a9 prog w g' vs ds
 |[],[],x=>x
 |v::vs,d::ds,x=>⟨Rep.mono h x.1,a9.mono h x.2⟩
 |[],_::_,x=>rj x
 |_::_,[],x=>rj x
theorem dz.mono{g g':ah}(h:VLe g g'):∀{vs:List ae} {ds:List (Str×D)},dz prog w g vs ds->dz prog w g' vs ds
 |[],[],x=>x
 |v::vs,(k,d)::ds,x=>⟨Rep.mono h x.1,dz.mono h x.2⟩
 |[],_::_,x=>rj x
 |_::_,[],x=>rj x
end
variable {prog} {w}
theorem a9.ind{g:ah}{P:∀vs ds,a9 prog w g vs ds->Prop}(n:P [] [] trivial)(c:∀{v vs d ds} (q:Rep prog w g v d) (r:a9 prog w g vs ds),P vs ds r->P (v::vs) (d::ds) ⟨q,r⟩):∀{vs ds} (r:a9 prog w g vs ds),P vs ds r
 |[],[],_=>n
 |_::_,_::_,r=>c r.1 r.2 (a9.ind n c r.2)
 |[],_::_,r=>rj r
 |_::_,[],r=>rj r
theorem dz.ind{g:ah}{P:∀vs ds,dz prog w g vs ds->Prop}(n:P [] [] trivial)(c:∀{v vs k d ds} (q:Rep prog w g v d) (r:dz prog w g vs ds),P vs ds r->P (v::vs) ((k,d)::ds) ⟨q,r⟩):∀{vs ds} (r:dz prog w g vs ds),P vs ds r
 |[],[],_=>n
 |_::_,(_,_)::_,r=>c r.1 r.2 (dz.ind n c r.2)
 |[],_::_,r=>rj r
 |_::_,[],r=>rj r
structure Gl(prog:dm)(w:dv) where
 mg:Str->Option ae
 mb:Str->Option ae
 hB:bf
 P:ai
 tab:Option Obj->Prop
 ns:hB.Ns mainGlobals mg
 nb:hB.Ns builtinsNs mb
 lim:hB.NoLimit
 dig:∃mc,hB.Ns cStatics mc/\mc "sys.int_max_str_digits" = none
 oP:∃o vs,hB.get? P=some o/\o.data=.fields vs/\o.cls=.none
 pg:mainGlobals≠P
 pb:builtinsNs≠P
 pc:cStatics≠P
 cd:ae
variable (G:Gl prog w)
structure GOK(h:bf):Prop where
 keep:∀a o,a≠G.P->G.hB.get? a=some o->h.get? a=some o
 tab:G.tab (h.get? G.P)
 hasP:∃o vs,h.get? G.P=some o/\o.data=.fields vs/\o.cls=.none
structure Ext(g:ah)(s:af)(g':ah)(s':af):Prop where
 gle:VLe g g'
 new:∀a o,g'.f a=some o->g.f a=some o\/s.heap.get? a=none
 heap:∀a o,a≠G.P->s.heap.get? a=some o->s'.heap.get? a=some o
 view:∀a o,g'.f a=some o->s'.heap.get? a=some o
 gP:g'.f G.P=none
 gok:GOK G s'.heap
 toks:s.toks<=s'.toks
 lim:g'.lim<=s'.toks
 os:s'.os=s.os
 bare:AllBare s'.gens
 gsize:s.gens.size<=s'.gens.size
 gold:∀i,i<s.gens.size->s'.gens[i]?=s.gens[i]?
structure SOK(g:ah)(s:af):Prop where
 view:∀a o,g.f a=some o->s.heap.get? a=some o
 gP:g.f G.P=none
 gok:GOK G s.heap
 toks:0<s.toks
 lim:g.lim<=s.toks
 bare:AllBare s.gens
variable {G}
def VLe.refl(g:ah):VLe g g:=⟨fun _ _ x=>x,ay _⟩
variable{g':ah}
def VLe.trans{g g'':ah}(x:VLe g g')(y:VLe g' g''):VLe g g'':=⟨fun a o e=>y.at' a o (x.at' a o e),aw x.lim y.lim⟩
theorem Ext.refl{g:ah}{s:af}(h:SOK G g s):Ext G g s g s:=
 ⟨.refl _,fun _ _ x=>.inl x,fun _ _ _ x=>x,h.view,h.gP,h.gok,ay _,h.lim,rfl,h.bare,ay _,fun _ _=>rfl⟩
variable{s':af}
def Ext.sok{g:ah}{s:af}(x:Ext G g s g' s')(h:SOK G g s):SOK G g' s':=⟨x.view,x.gP,x.gok,i7 h.toks x.toks,x.lim,x.bare⟩
theorem Ext.trans{g g' g'':ah}{s s' s'':af}(x:Ext G g s g' s')(y:Ext G g' s' g'' s''):Ext G g s g'' s'' where
 gle:=x.gle.trans y.gle
 new:=fun a o h=>by
  refine iy (y.new a o h) (fun h1=>?_) fun h1=>?_
  .exact x.new a o h1
  .refine if ha:a=G.P then ?_ else ?_
   .subst ha;exact ns y.gP h
   .right;refine noS fun o' hq=>?_
    exact ns h1 (x.heap a o' ha hq)
 heap:=fun a o ha h=>y.heap a o ha (x.heap a o ha h)
 view:=y.view
 gP:=y.gP
 gok:=y.gok
 toks:=aw x.toks y.toks
 lim:=y.lim
 os:=y.os.trans x.os
 bare:=y.bare
 gsize:=aw x.gsize y.gsize
 gold:=fun i hi=>(y.gold i (i7 hi x.gsize)).trans (x.gold i hi)
variable{h h':bf}
def GOK.keeps(x:GOK G h)(k:∀a o,h.get? a=some o->h'.get? a=some o):GOK G h' where
 keep:=fun a o ha e=>k a o (x.keep a o ha e)
 tab:=by refine i3 x.hasP fun o _ ho _=>?_;have:=x.tab;replace this:=ho.symm▸this;rw[k _ _ ho];exact this
 hasP:=let⟨o,vs,ho,r⟩:=x.hasP;⟨o,vs,k _ _ ho,r⟩
def Ext.grow{g:ah}{s:af}{tk:Nat}(x:SOK G g s)(k:∀a o,s.heap.get? a=some o->h'.get? a=some o)(ht:s.toks<=tk):Ext G g s g {s with heap:=h',toks:=tk}:=
 ⟨.refl _,fun _ _ x=>.inl x,fun a o _ h=>k a o h,fun a o h=>k a o (x.view a o h),x.gP,x.gok.keeps k,ht,aw x.lim ht,rfl,x.bare,ay _,fun _ _=>rfl⟩
noncomputable def VUp(g:ah)(n:Nat):ah:={g with lim:=n}
def Ext.up{g:ah}{s:af}(x:Ext G g s g' s'):Ext G g s (VUp g' s'.toks) s':=
 ⟨⟨x.gle.at',aw x.gle.lim x.lim⟩,x.new,x.heap,x.view,x.gP,x.gok,x.toks,ay _,x.os,x.bare,x.gsize,x.gold⟩
noncomputable def bu(g:ah)(a:ai)(o:Obj):ah:={g with f:=fun b=>if b=a then some o else g.f b}
variable{a:ai}
def vaE{g:ah}{b:ai}{o o':Obj}{P:Prop}(e:(bu g a o).f b=some o')(k:b=a->o=o'->P)(l:¬b=a->g.f b=some o'->P):P:=ifE e (fun h e=>k h (dn e)) l
def bu.le{g:ah}{o:Obj}(h:g.f a=none):VLe g (bu g a o):=⟨fun b o' e=>if hb:b=a then ns (hb▸h) e else(if_neg hb).trans e,ay _⟩
def bu.self{g:ah}{o:Obj}:(bu g a o).f a=some o:=if_pos rfl
def gu{g:ah}{s:af}(x:SOK G g s)(h:s.heap.get? a=none):g.f a=none:=by
 refine noS fun o hq=>?_
 exact ns h (x.view a o hq)
def Ext.show{g:ah}{s:af}{tk:Nat}{o:Obj}(x:SOK G g s)(ha:s.heap.get? a=none)(ho:h'.get? a=some o)
  (k:∀b o,s.heap.get? b=some o->h'.get? b=some o) (ht:s.toks<=tk):Ext G g s (bu g a o) {s with heap:=h',toks:=tk} where
 gle:=bu.le (gu x ha)
 new:=fun b o' e=>vaE e (fun hb _=>.inr (hb▸ha)) fun _ e=>.inl e
 heap:=fun b o' _ e=>k b o' e
 view:=fun b o' e=>vaE e (fun hb e=>hb▸e▸ho) fun _ e=>k b o' (x.view b o' e)
 gP:=if hb:G.P=a then i3 x.gok.hasP fun o' _ e _=>ns (hb▸ha) e else(if_neg hb).trans x.gP
 gok:=x.gok.keeps k
 toks:=ht
 lim:=aw x.lim ht
 os:=rfl
 bare:=x.bare
 gsize:=ay _
 gold:=fun _ _=>rfl
theorem GOK.ns{h:bf}(x:GOK G h):h.Ns mainGlobals G.mg:=G.ns.at' fun o e=>x.keep _ o G.pg e
theorem GOK.nb{h:bf}(x:GOK G h):h.Ns builtinsNs G.mb:=G.nb.at' fun o e=>x.keep _ o G.pb e
theorem GOK.lim{h:bf}(x:GOK G h):h.NoLimit:=let⟨mc,a,b⟩:=G.lim;⟨mc,a.at' fun o e=>x.keep _ o G.pc e,b⟩
theorem GOK.dig{h:bf}(x:GOK G h):∃mc,h.Ns cStatics mc/\mc "sys.int_max_str_digits" = none:=let⟨mc,a,b⟩:=G.dig;⟨mc,a.at' fun o e=>x.keep _ o G.pc e,b⟩
structure dy(A:az)(n:Nat):Prop where
 hh:A.handled=none
 depth:A.depth+n<recursionLimit
 units:A.units+20 * n+40<cLine
def cu(env:Env)(h:bf)(x:Str)(v:ae):Prop:=
 (env.kindOf x=some .local/\∃m,h.Ns env.locals m/\m x=some v) \/
 ((env.kindOf x=some .cell\/env.kindOf x=some .free)/\∃c,env.cells.lookup x=some c/\h.IsCell c (some v))
structure PS where
 vars:String->Option D
 own:String->Option D
def ij(prog:dm)(w:dv)(g:ah)(h:bf)(a:ai):D->Prop
 |.list l=>∃vs n,h.get? a=some (c8 "list" vs n)/\a9 prog w g vs l
 |.dict kvs=>∃o vs,h.get? a=some o/\o.IsDictOf (strKind prog w) (gy vs kvs)/\dz prog w g vs kvs/\(a==sysModules)=false
 |_=>False
structure ft(G:Gl prog w)(sc:dc)(env:Env)(g:ah)(s:af)(σ:PS):Prop where
 sok:SOK G g s
 kind:env.scope.kind=.function
 globals:env.globals=mainGlobals
 builtins:env.builtins=builtinsNs
 glob:∀x,sc.names.lookup x=some .globalImplicit->env.kindOf x=some .globalImplicit
 cells:∀x,(sc.names.lookup x=some .cell\/sc.names.lookup x=some .free)->(∃c v,env.cells.lookup x=some c/\s.heap.IsCell c v)/\env.kindOf x=some .cell
 apart:∀x y c,env.cells.lookup x=some c->env.cells.lookup y=some c->x=y
 allc:∀x c,env.cells.lookup x=some c->∃v,s.heap.IsCell c v
 code:sc.names.lookup (aj "new_callers")=some .local->env.code=G.cd
 vars:∀x d,σ.vars x=some d->∃v,cu env s.heap (aj x) v/\Rep prog w g v d
 own:∀x d,σ.own x=some d->∃a,cu env s.heap (aj x) (.ref a)/\ij prog w g s.heap a d/\g.f a=none
def z5(x:GOK G h){o:Obj}(e:h.get? a=some o)(hd:∀vs,o.data=.fields vs->o.cls≠.none):a≠G.P:=by
 rintro rfl;refine zx x.hasP fun o' vs e' d c=>?_
 rw[e]at e';cases e';exact hd vs d c
variable{env:Env}{x:Str}
def cu.mono{v:ae}(k:∀a o,a≠G.P->h.get? a=some o->h'.get? a=some o)(gk:GOK G h)(q:cu env h x v):cu env h' x v:=by
 rcases q with⟨q,m,hn,e⟩|⟨q,c,hl,o,ho,hd⟩
 .refine .inl ⟨q,m,hn.at' fun o ho=>k _ o ?_ ho,e⟩
  refine zw hn fun o' es ep ho' hd' _=>?_;clear hn
  rw[ho]at ho';cases ho';exact z5 gk ho (by intro vs hq;rw[hq]at hd';cases hd')
 .exact .inr ⟨q,c,hl,o,k _ o (z5 gk ho (by intro vs hq;rw[hq]at hd;cases hd)) ho,hd⟩
theorem ij.mono{g g':ah}{h h':bf}{a:ai}{d:D}(kg:VLe g g')(k:∀o,h.get? a=some o->h'.get? a=some o)(q:ij prog w g h a d):ij prog w g' h' a d:=by
 cases d with
 |list l=>refine i3 q fun vs n e r=>?_;clear q;exact⟨vs,n,k _ e,a9.mono prog w kg r⟩
 |dict l=>refine xi q fun o vs e r t u=>?_;clear q;exact⟨o,vs,k _ e,r,dz.mono prog w kg t,u⟩
 |_=>exact q.elim
def ij.ne_P{g:ah}(gk:GOK G h)(q:ij prog w g h a d):a≠G.P:=by
 cases d with
 |list l=>refine i3 q fun vs n e r=>?_;clear q;exact z5 gk e (by intro vs hq;exact nomatch hq)
 |dict l=>obtain⟨o,vs,e,⟨es,ep,hx,hd,_⟩,t,u⟩:=q;exact z5 gk e (by intro vs hq;rw[hq]at hd;exact nomatch hd)
 |_=>exact q.elim
def ij.here{g:ah}(q:ij prog w g h a d):∃o,h.get? a=some o:=by
 cases d with
 |list l=>refine i3 q fun vs n e r=>?_;clear q;exact⟨_,e⟩
 |dict l=>refine i3 q fun o vs e _=>?_;clear q;exact⟨_,e⟩
 |_=>exact q.elim
theorem ft.mono{sc:dc}{env:Env}{g g':ah}{s s':af}{σ:PS}(x:ft G sc env g s σ)(y:Ext G g s g' s'):ft G sc env g' s' σ where
 sok:=y.sok x.sok
 kind:=x.kind
 globals:=x.globals
 builtins:=x.builtins
 glob:=x.glob
 cells:=fun n hn=>by
  obtain⟨⟨c,v,hl,o,ho,hd⟩,hk⟩:=x.cells n hn;exact⟨⟨c,v,hl,o,y.heap _ o (z5 x.sok.gok ho (by intro vs hq;rw[hq]at hd;exact nomatch hd)) ho,hd⟩,hk⟩
 apart:=x.apart
 code:=x.code
 allc:=fun n c h=>let⟨v,o,ho,hd⟩:=x.allc n c h;⟨v,o,y.heap _ o (z5 x.sok.gok ho (by intro vs hq;rw[hq]at hd;exact nomatch hd)) ho,hd⟩
 vars:=fun n d hd=>let⟨v,h1,h2⟩:=x.vars n d hd;⟨v,h1.mono y.heap x.sok.gok,h2.mono prog w y.gle⟩
 own:=fun n d hd=>by
  refine kq (x.own n d hd) fun a h1 h2 h3=>?_
  refine⟨a,h1.mono y.heap x.sok.gok,h2.mono y.gle fun o ho=>y.heap a o (h2.ne_P x.sok.gok) ho,?_⟩
  refine noS fun o hq=>?_
  refine iy (y.new a o hq) (fun h=>?_) fun h=>?_
  .exact ns h3 h
  .refine oE h2.here fun o' ho'=>?_;exact ns h ho'
def ajy{o:Obj}{vs:Array ae}{c:ai}{v:Option ae}(hP:h.get? a=some o)(hd:o.data=.fields vs)(hc:h.IsCell c v):c≠a:=by
 rintro rfl;refine oEA hc fun o' e d=>?_;clear hc
 rw[hP]at e;cases e;rw[hd]at d;cases d
section
variable {M:Model} {A:az} {α β:Type} {x:Sem α} {f:α->Sem β} {Q:β->af->Prop} {E:ae->af->Prop} {s s':af} {v:α}
def bP(h:wpAny M A (f v) Q E s):wpAny M A (pure v >>= f) Q E s:=ak (bo h)
def wm{P P':α->af->Prop}(h:wpAny M A x P E s)(k:∀v s',P v s'->P' v s'):wpAny M A x P' E s:=e9 h k fun _ _ f=>f
end
def NoE:ae->af->Prop:=fun _ _=>False
variable (G)
inductive bj (g:ah) (s:af) (d:D) (v:ae) (s':af):Prop
 |mk (g':ah) (e:Ext G g s g' s') (q:Rep prog w g' v d)
def jb(g:ah)(h:bf)(v:ae)(d:D):Prop:=Rep prog w g v d\/∃a,v=.ref a/\ij prog w g h a d/\g.f a=none
inductive agf (g:ah) (s:af) (d:D) (v:ae) (s':af):Prop
 |mk (g':ah) (e:Ext G g s g' s') (q:jb (prog:=prog) (w:=w) g' s'.heap v d)
inductive yk (g:ah) (s:af) (t:Bool) (b:Bool) (s':af):Prop
 |mk (hb:b=t) (g':ah) (e:Ext G g s g' s')
section
variable {M:Model} {A:az} {α β:Type} {x:Sem α} {f:α->Sem β} {P P':α->af->Prop} {Q:β->af->Prop} {E:ae->af->Prop} {s:af}
def wm'(h:wpAny M A x P NoE s)(k:∀v s',P v s'->P' v s'):wpAny M A x P' E s:=e9 h k fun _ _ f=>f.elim
def bm(h:wpAny M A x P E s)(k:∀v s',P v s'->wpAny M A (f v) Q E s'):wpAny M A (x >>= f) Q E s:=ak (wm h k)
end
variable {G}
section
variable {β:Type} {A:az} {g:ah} {s:af} {d:D} {b:Bool} {E:ae->af->Prop} {t:Sem ae} {u:Sem Bool} {Q:ae->af->Prop} {R:Bool->af->Prop}
def gv(h:wpAny (model prog w) A t (bj G g s d) E s)(k:∀v s₁ g1,Ext G g s g1 s₁->Rep prog w g1 v d->Q v s₁):wpAny (model prog w) A t Q E s:=wm h fun v s₁ h=>h.casesOn (k v s₁)
def gv'(h:wpAny (model prog w) A t (bj G g s d) NoE s)(k:∀v s₁ g1,Ext G g s g1 s₁->Rep prog w g1 v d->Q v s₁):wpAny (model prog w) A t Q E s:=wm' h fun v s₁ h=>h.casesOn (k v s₁)
def bgv{f:ae->Sem β}{Q:β->af->Prop}(h:wpAny (model prog w) A t (bj G g s d) E s)(k:∀v s₁ g1,Ext G g s g1 s₁->Rep prog w g1 v d->wpAny (model prog w) A (f v) Q E s₁):wpAny (model prog w) A (t >>= f) Q E s:=ak (gv h k)
def bgx{f:ae->Sem β}{Q:β->af->Prop}(h:wpAny (model prog w) A t (bj G g s d) NoE s)(k:∀v s₁ g1,Ext G g s g1 s₁->Rep prog w g1 v d->wpAny (model prog w) A (f v) Q E s₁):wpAny (model prog w) A (t >>= f) Q E s:=ak (gv' h k)
def gB(h:wpAny (model prog w) A t (agf G g s d) E s)(k:∀v s₁ g1,Ext G g s g1 s₁->jb (prog:=prog) (w:=w) g1 s₁.heap v d->Q v s₁):wpAny (model prog w) A t Q E s:=wm h fun v s₁ h=>h.casesOn (k v s₁)
def gT(h:wpAny (model prog w) A u (yk G g s b) E s)(k:∀v s₁,v=b->∀g1,Ext G g s g1 s₁->R v s₁):wpAny (model prog w) A u R E s:=wm h fun v s₁ h=>h.casesOn (k v s₁)
end
variable (G)
def Den(sc:dc)(n:Nat)(e:al)(f:PS->Option D):Prop:=
 ∀⦃A env g s σ d⦄,dy A n->ft G sc env g s σ->f σ=some d->wpAny (model prog w) A (eval e env) (bj G g s d) NoE s
def wa(sc:dc)(n:Nat)(e:al)(f:PS->Option D):Prop:=
 ∀⦃A env g s σ d⦄,dy A n->ft G sc env g s σ->f σ=some d->wpAny (model prog w) A (eval e env) (agf G g s d) NoE s
def q6(sc:dc)(n:Nat)(e:al)(f:PS->Option Bool):Prop:=
 ∀⦃A env g s σ d⦄,dy A n->ft G sc env g s σ->f σ=some d->wpAny (model prog w) A (isTrue e env (eval e env)) (yk G g s d) NoE s
variable {G} {sc:dc} {n:Nat}
variable{e:al}{f:PS->Option D}
def Den.b(h:Den G sc n e f):wa G sc n e f:=fun _ _ _ _ _ _ r x y=>
 gv (h r x y) (fun _ _ g' e q=>⟨g',e,.inl q⟩)
theorem bj.grow{g:ah}{s:af}{h':bf}{tk:Nat}{v:ae}{d:D}(x:SOK G g s)(k:∀a o,s.heap.get? a=some o->h'.get? a=some o)(q:Rep prog w g v d)(ht:s.toks<=tk:=by first|exact ay _|exact fm _|assumption|omega) :
  bj G g s d v {s with heap:=h',toks:=tk}:=⟨g,Ext.grow x k ht,q⟩
def bj.tok{g:ah}{s:af}{tk:Nat}{v:ae}(x:SOK G g s)(q:Rep prog w g v d)(ht:s.toks<=tk:=by first|exact ay _|exact fm _|assumption|omega):bj G g s d v {s with toks:=tk}:=
 ⟨g,Ext.grow (h':=s.heap) x (fun _ _ e=>e) ht,q⟩
theorem bj.up{g:ah}{s:af}{v:ae}{d:D}{tk:Nat}(x:SOK G g s)(q:Rep prog w (VUp g tk) v d)(ht:s.toks<=tk):bj G g s d v {s with toks:=tk}:=
 ⟨VUp g tk,(Ext.grow (h':=s.heap) (tk:=tk) x (fun _ _ e=>e) ht).up,q⟩
def bj.newObj{g:ah}{s:af}{o:Obj}{tk:Nat}(x:SOK G g s)(ha:s.heap.get? a=none)(ho:h'.get? a=some o)(k:∀b o,s.heap.get? b=some o->h'.get? b=some o)
  (q:Rep prog w (bu g a o) (.ref a) d) (ht:s.toks<=tk:=by first|exact ay _|exact fm _|assumption|omega):bj G g s d (.ref a) {s with heap:=h',toks:=tk}:=
 ⟨_,Ext.show x ha ho k ht,q⟩
def dq(h:bf):h.get? h.objs.size=none:=by
 refine noS fun o e=>?_
 exact absurd (il e) (adt _)
def qq{M:Model}{A:az}{s:af}{t:Sem α}{Q:α->af->Prop}{E:ae->af->Prop}(h:wpAny M A t (fun a s'=>s.toks<=s'.toks->Q a s') E s):wpAny M A t Q E s:=by
 refine e9 (wpAny_toks_of (n:=s.toks) (ay _) h) ?_ ?_<;>intro a s' q
 .exact q.2 q.1
 .exact q.2
def bj.same{g:ah}{s:af}{v:ae}(x:SOK G g s)(q:Rep prog w g v d):bj G g s d v s:=⟨g,Ext.refl x,q⟩
variable{s'':af}
def bj.after{g:ah}{s:af}{v:ae}(x:Ext G g s g' s')(y:bj G g' s' d v s''):bj G g s d v s'':=
 let⟨g'',e,q⟩:=y;⟨g'',x.trans e,q⟩
def yk.after{g:ah}{s:af}{t b:Bool}(x:Ext G g s g' s')(y:yk G g' s' t b s''):yk G g s t b s'':=
 let⟨q,g'',e⟩:=y;⟨q,g'',x.trans e⟩
def agf.after{g:ah}{s:af}{v:ae}(x:Ext G g s g' s')(y:agf G g' s' d v s''):agf G g s d v s'':=
 let⟨g'',e,q⟩:=y;⟨g'',x.trans e,q⟩
noncomputable def kD(d:D):PS->Option D:=fun _=>some d
noncomputable def var(x:String):PS->Option D:=fun σ=>σ.vars x
noncomputable def aa(x:String):PS->Option D:=fun σ=>(σ.own x).or (σ.vars x)
def cg{i:Int}{k pos:_}:Den G sc n (.Constant (.int i) k pos) (kD (.int i)):=fun _ _ _ _ _ _ _ x y=>by
 cases y;exact amx (bj.tok x.sok ⟨_,rfl⟩)
variable{i:Str}
def dg{k pos:_}:Den G sc n (.Constant (.str i) k pos) (kD (.str i)):=fun _ _ _ _ _ _ _ x y=>by
 cases y;exact ahz (bj.tok x.sok ⟨_,rfl⟩)
def a2v{k pos:_}:Den G sc n (.Constant (.str i) k pos) (kD (.hstr i)):=fun _ _ _ _ _ _ _ x y=>by
 cases y;exact ahz (bj.up x.sok ⟨_,rfl,x.sok.toks,abf _⟩ (fm _))
def xy{k pos:_}:Den G sc n (.Constant .none k pos) (kD .none):=fun _ _ _ _ _ _ _ x y=>by
 cases y;exact wpAny_Constant_none (bj.same x.sok rfl)
def akc{b:Bool}{k pos:_}:Den G sc n (.Constant (.bool b) k pos) (kD (.bool b)):=fun _ _ _ _ _ _ _ x y=>by
 cases y;exact aup (bj.same x.sok rfl)
variable{pos:Pos}
def afc{A:az}{s:af}{v:ae}{Q:ae->af->Prop}{E:ae->af->Prop}(hk:env.scope.kind=.function)(h:cu env s.heap x v)(q:Q v s)
  (hd:(x==("__debug__" : Str))=false) (hn:(x==("__classdict__" : Str))=false):wpAny (model prog w) A (eval (.Name x pos) env) Q E s:=by
 refine ag4 ?_ hd;rcases h with⟨hl,m,hns,hm⟩|⟨hl|hl,c,hc,hv⟩
 .exact ah3 hk hl hns hm q
 .exact auo hk hl hc hv q
 .exact aun hk hl hc hv q hn
noncomputable def okN(x:String):Bool:=!(aj x==("__debug__" : Str)) && !(aj x==("__classdict__" : Str))
variable{x:String}
def okd(h:okN x=true):(aj x==("__debug__" : Str))=false:=by simpa using(l8.1 h).1
def okc(h:okN x=true):(aj x==("__classdict__" : Str))=false:=by simpa using(l8.1 h).2
def av(ok:okN x=true:=by exact rfl) :
  Den G sc n (.Name (aj x) pos) (var x):=fun _ _ _ _ _ _ _ X y=>by
 obtain⟨v,h1,h2⟩:=X.vars _ _ y;exact afc X.kind h1 (bj.same X.sok h2) (okd ok) (okc ok)
def cy(ok:okN x=true:=by exact rfl) :
  wa G sc n (.Name (aj x) pos) (aa x):=fun _ _ g s σ d _ X y=>by
 unfold aa at y;cases ho:σ.own x with
 |none=>
  rw[ho]at y;obtain⟨v,h1,h2⟩:=X.vars _ _ y;exact afc X.kind h1 ⟨g,Ext.refl X.sok,.inl h2⟩ (okd ok) (okc ok)
 |some d'=>
  rw[ho]at y;cases y;obtain⟨a,h1,h2,h3⟩:=X.own _ _ ho;exact afc X.kind h1 ⟨g,Ext.refl X.sok,.inr ⟨a,rfl,h2,h3⟩⟩ (okd ok) (okc ok)
def yq(G:Gl prog w)(n:Nat)(op:Operator)(F:D->D->Option D):Prop:=
 ∀⦃A g s v1 v2 d1 d2 d⦄,dy A n->SOK G g s->Rep prog w g v1 d1->Rep prog w g v2 d2->F d1 d2=some d->wpAny (model prog w) A (binaryOp op v1 v2) (bj G g s d) NoE s
noncomputable def bin(F:D->D->Option D)(f₁ f₂:PS->Option D):PS->Option D:=fun σ=>(f₁ σ).bind fun a=>(f₂ σ).bind fun b=>F a b
variable{op:Operator}
def i9{F:D->D->Option D}{l r:al}{f₁ f₂:PS->Option D}(hop:yq G n op F)(h1:Den G sc n l f₁)(h2:Den G sc n r f₂) :
  Den G sc n (.BinOp l op r pos) (bin F f₁ f₂):=fun _ _ _ _ _ _ R X y=>by
 refine aq y ?_;clear y;intro a ha y;refine aq y ?_;clear y;intro b hb y;refine wpAny_BinOp (gv (h1 R X ha) (fun v1 s₁ g1 e1 q1=>gv (h2 R (X.mono e1) hb) (fun v2 s₂ g₂ e2 q2=>?_)))
 exact wm (hop R (e2.sok (e1.sok X.sok)) (q1.mono prog w e2.gle) q2 y) (fun _ _ z=>(z.after e2).after e1)
noncomputable def acm(F:Int->Int->Option Int)(a b:D):Option D:=(i6 a).bind fun a=>(i6 b).bind fun b=>(F a b).map .int
def akk{F:Int->Int->Option Int}(K:∀{A g s a b c t u},SOK G g s->F a b=some c->wpAny (model prog w) A (binaryOp op (.int a t) (.int b u)) (bj G g s (.int c)) NoE s):yq G n op (acm F):=fun A g s v1 v2 d1 d2 d _ x q1 q2 y=>by
 refine aq y fun a ha y=>aq y fun b hb y=>b9 y fun c hc e=>?_
 replace ha:=i5 ha;replace hb:=i5 hb;subst e ha hb;refine oE q1 fun t e=>oE q2 fun u e'=>?_
 subst e e';exact K x hc
noncomputable def subD:=acm fun a b=>some (a - b)
noncomputable def dp:=acm fun a b=>if b=0 then none else some (a.fmod b)
noncomputable def gx:=acm fun a b=>if b=0\/wc a b=true then none else some (a.fdiv b)
noncomputable def zr:=acm fun a b=>if 0<=b/\(zb a:Int) * b<=2 ^ 27 then some (a ^ b.toNat)else none
def a3j:yq G n .Sub subD:=akk fun x h=>by cases h;exact P.sub_int (bj.tok x ⟨_,rfl⟩)
def af5:yq G n .Mod dp:=akk fun x h=>by
 refine ifN h fun hb e=>?_;subst e
 exact a4y hb (bj.tok x ⟨_,rfl⟩)
def akl:yq G n .FloorDiv gx:=akk fun x h=>by
 refine ifN h fun hb e=>?_;subst e
 exact a47 (fun e=>hb (.inl e)) (bj.tok x ⟨_,rfl⟩) (.inl (ad7.2 fun e=>hb (.inr e)))
def bgu:yq G n .Pow zr:=akk fun x h=>by
 refine ifS h fun hb e=>?_;subst e
 exact a4w hb.1 hb.2 (bj.tok x ⟨_,rfl⟩)
noncomputable def b7(d:D):Option Str:=@D.casesOn (fun _=>Option Str) d .none (fun _=>.none) (fun _=>.none) .some .some (fun _=>.none) (fun _=>.none) (fun _=>.none) (fun _=>.none)
variable{x:Str}
def gr{g:ah}{v:ae}(q:Rep prog w g v d)(h:b7 d=some x):∃t,v=.str x t:=by
 cases d with
 |str s=>cases h;exact q
 |hstr s=>cases h;refine oEA q fun t e _=>?_;clear q;exact⟨t,e⟩
 |_=>exact ns rfl h
def ve{g:ah}{t:Tok}:Rep prog w g (.str x t) (.str x):=⟨t,rfl⟩
def zj{g:ah}{x:Int}{t:Tok}:Rep prog w g (.int x t) (.int x):=⟨t,rfl⟩
def aoi{g:ah}{x:Bool}:Rep prog w g (.bool x) (.bool x):=rfl
theorem a9.length{g:ah}{vs:List ae}{ds:List D}(h:a9 prog w g vs ds):vs.length=ds.length:=by
 induction h using a9.ind with
 |n=>rfl
 |c _ _ ih=>exact congrArg (·+1) ih
variable{ds:List D}
def a9.append{g:ah}{vs ws:List ae}{es:List D}(h:a9 prog w g vs ds)(k:a9 prog w g ws es):a9 prog w g (vs++ws) (ds++es):=by
 induction h using a9.ind with
 |n=>exact k
 |c q _ ih=>exact⟨q,ih⟩
def a9.get{g:ah}{vs:List ae}{i:Nat}(r:a9 prog w g vs ds)(h:ds[i]?=some d):∃v,vs[i]?=some v/\Rep prog w g v d:=by
 induction r using a9.ind generalizing i with
 |n=>exact nomatch h
 |c q _ ih=>induction i with
  |zero=>exact⟨_,rfl,dn h▸q⟩
  |succ i=>exact ih h
def a9.snoc{g:ah}{vs:List ae}{v:ae}(h:a9 prog w g vs ds)(k:Rep prog w g v d):a9 prog w g (vs++[v]) (ds++[d]):=
 h.append ⟨k,trivial⟩
noncomputable def ak3(x:Str)(b:D):Option D:=(b7 b).bind fun y=>if x.length+y.length<=sizeLine then some (.str (x++y))else none
noncomputable def bb(a b:D):Option D:=match a with
 |.int a=>(i6 b).map fun b=>.int (a+b)
 |.list a=>(jg b).bind fun b=>if a.length+b.length<=sizeLine then some (.list (a++b))else none
 |.str x=>ak3 x b
 |.hstr x=>ak3 x b
 |.none=>none
 |.bool _=>none
 |.bytes _=>none
 |.tup _=>none
 |.dict _=>none
inductive agq:D->D->D->Prop
 |int (a b:Int):agq (.int a) (.int b) (.int (a+b))
 |list {a b:_} (h:a.length+b.length<=sizeLine):agq (.list a) (.list b) (.list (a++b))
 |str {a b x y:_} (hx:b7 a=some x) (hy:b7 b=some y) (h:x.length+y.length<=sizeLine):agq a b (.str (x++y))
def a30{a b:D}(hx:b7 a=some x)(h:ak3 x b=some d):agq a b d:=
 aq h fun _ hy h=>ifS h fun h e=>e▸.str hx hy h
def bhz{a b:D}(h:bb a b=some d):agq a b d:=by
 cases a with
 |int=>exact b9 h fun _ h e=>e▸i5 h▸.int ..
 |list=>exact aq h fun _ h' h=>ifS h fun h e=>e▸ua h'▸.list h
 |str=>exact a30 rfl h
 |hstr=>exact a30 rfl h
 |_=>exact ns rfl h
def fz{vs:List ae}{m:Nat}(e:h.get? a=some (c8 "list" vs m)):h.IsList a vs.toArray:=⟨_,e,rfl,m,rfl⟩
def nq:yq G n .Add bb:=fun A g s v1 v2 d1 d2 d R x q1 q2 y=>by
 replace y:=bhz y;induction y with
 |int a b=>
  obtain⟨t,rfl⟩:=q1;obtain⟨u,rfl⟩:=q2;exact P.add_int (bj.tok x ⟨_,rfl⟩)
 |list hz=>
  obtain⟨a1,vs,m,rfl,e1,r1⟩:=q1;obtain⟨a2,ws,m',rfl,e2,r2⟩:=q2;have e1':=x.view _ _ e1;have e2':=x.view _ _ e2;refine concat_meets ⟨_,e1',rfl⟩ ⟨_,e2',rfl⟩ noFill_list_add seq_list_add PySem.F.slot_list_add PySem.F.entry_list_add (PySem.F.args_list_add_2 _ _)
   (list_addW a1 a2 vs.toArray ws.toArray m m' none none #[] #[] (by simp only[ko];rw[r1.length,r2.length];exact hz)) ⟨e1',e2',?_⟩
  refine bj.newObj x (dq _) (dw _ rfl) (fun b o e=>b4 _ e) ?_
  refine⟨_,vs++ws,0,rfl,?_,?_⟩
  .rw[bu.self];simp[c8]
  .exact(r1.append r2).mono prog w (bu.le (gu x (dq _)))
 |str h1 h2 hz=>
  refine oE (gr q1 h1) fun t ez1=>?_;subst ez1;refine oE (gr q2 h2) fun u ez1=>?_;subst ez1
  refine qq (SB.add ?_ hz);intro t' k ht;exact bj.tok x ve ht
noncomputable def apf(x:Str)(b:D):Option D:=(i6 b).bind fun b=>if 0<=b/\b<=1000/\x.length<=1000 then some (.str (adh x b))else none
noncomputable def kr(a b:D):Option D:=match a with
 |.int a=>(i6 b).bind fun b=>if zb a<=64\/zb b<=64 then some (.int (a * b))else none
 |.list l=>(i6 b).bind fun b=>if 0<=b/\b<=1000/\l.length<=1000 then some (.list (k9 b.toNat l).flatten)else none
 |.str x=>apf x b
 |.hstr x=>apf x b
 |.none=>none
 |.bool _=>none
 |.bytes _=>none
 |.tup _=>none
 |.dict _=>none
inductive age:D->D->D->Prop
 |int {a b:Int} (h:zb a<=64\/zb b<=64):age (.int a) (.int b) (.int (a * b))
 |list {l b} (h:0<=b/\b<=1000/\l.length<=1000):age (.list l) (.int b) (.list (k9 b.toNat l).flatten)
 |str {a b x:_} (hx:b7 a=some x) (h:0<=b/\b<=1000/\x.length<=1000):age a (.int b) (.str (adh x b))
def a0l{a b:D}(hx:b7 a=some x)(h:apf x b=some d):age a b d:=
 aq h fun _ h' h=>ifS h fun h e=>e▸i5 h'▸.str hx h
def baw{a b:D}(h:kr a b=some d):age a b d:=by
 cases a with
 |int=>exact aq h fun _ h' h=>ifS h fun h e=>e▸i5 h'▸.int h
 |list=>exact aq h fun _ h' h=>ifS h fun h e=>e▸i5 h'▸.list h
 |str=>exact a0l rfl h
 |hstr=>exact a0l rfl h
 |_=>exact ns rfl h
theorem a9.replicate{g:ah}{vs:List ae}{ds:List D}(h:a9 prog w g vs ds):∀k:Nat,a9 prog w g (k9 k vs).flatten (k9 k ds).flatten
 |0=>trivial
 |k+1=>by simp only[abq,at4];exact h.append (a9.replicate h k)
theorem a1x{α:Type}:∀(l:List (Array α)) (a:Array α),l.foldl (fun x y=>x++y) a=a++(l.map (·.toList)).flatten.toArray
 |[],a=>rfl
 |x::l,a=>by rw[q8,a1x l];apply ad4.mp;simp
set_option tactic.hygienic true in
def bgw:yq G n .Mult kr:=fun A g s v1 v2 d1 d2 d R x q1 q2 y=>by
 replace y:=baw y;induction y with
 |int hz=>
  refine oE q1 fun t ez1=>?_;clear q1;subst ez1;refine oE q2 fun u ez1=>?_;clear q2;subst ez1
  exact P.mul_int (bj.tok x zj) (hz.elim IntMulOk.of_left IntMulOk.of_right)
 |@list l b hz=>
   have lt:b<2 ^ 63:=aed hz.2.1 (by decide)
   refine zw q1 fun a1 vs m ez3 e1 r1=>?_;clear q1;subst ez3;refine oE q2 fun u ez1=>?_;clear q2;subst ez1
   have e1':=x.view _ _ e1;have hl:vs.toArray.size<=1000:=by exact ko▸r1.length▸hz.2.2
   have hb:b.toNat<=1000:=alz.2 hz.2.1;have hm:vs.toArray.size * b.toNat<=1000 * 1000:=as8 hl hb;refine wpAny_binaryOp_repeat_ref (T := "list") (U := "int") (by decide) ⟨_,e1',rfl⟩ (fun s'=>typeIs_int s' b u) noFill_list_mul PySem.F.fills_int_mul ava repeat_list PySem.F.slot_int_index.lookup
    (ri ava (typeIs_int s b u) PySem.F.entry_int_rmul (PySem.F.args_int_rmul_2 _ _) (int___rmul___int_list b u a1 vs.toArray m)
     ⟨e1',rfl,⟨_,e1',rfl⟩,ri PySem.F.slot_list_mul ⟨_,e1',rfl⟩ PySem.F.entry_list_mul (PySem.F.args_list_mul_2 _ _)
      (AutoListH.list___mul___list_int_3 a1 vs.toArray m b u (by simp[a5b];exact⟨wk (by decide) hz.1,aed hz.2.1 (by decide)⟩) (gi.2 (aw hm (by decide))) (by simp only[a43,sizeLine];simp at hm |-;exact aw (by assumption) (by decide)))
      ⟨e1',?_⟩⟩)
   refine bj.newObj x (dq _) (dw _ rfl) (fun b o e=>b4 _ e) ?_
   refine⟨_,(k9 b.toNat vs).flatten,0,rfl,?_,(r1.replicate _).mono prog w (bu.le (gu x (dq _)))⟩;refine bu.self.symm▸?_;dsimp only[c8,ahx,Obj.mk.injEq,true_and,Data.seq.injEq,and_true];rw[a1x];induction vs with
   |nil=>simp
   |cons v vs=>simp
 |@str _ b p hp hz=>
   have lt:b<2 ^ 63:=aed hz.2.1 (by decide)
   refine oE (gr q1 hp) fun t ez1=>?_;subst ez1;refine oE q2 fun u ez1=>?_;clear q2;subst ez1
   refine qq (SB.mul ⟨by simp;exact⟨wk (by decide) hz.1,aed hz.2.1 (by decide)⟩,fun _ _=>?_,fun _ _=>?_⟩ ?_)
   rotate_left 2
   .intro t' k ht;exact bj.tok x ve ht
   .intro hc;have h1:(1000:Int)<=(2 ^ 63 - 1) / b:=by
     refine iy (Int.lt_or_le b 1) (fun h=>?_) fun h=>?_
     .exact absurd h ‹¬b<1›
     .rw[Int.le_ediv_iff_mul_le (by assumption)]
      exact wk (Int.mul_le_mul_of_nonneg_left hz.2.1 (by decide)) (by decide)
    exact aa3.2 (wk (km.2 hz.2.2) h1) hc
   .have:p.length * b.toNat<=1000 * 1000:=as8 hz.2.2 (alz.2 hz.2.1);simp only[avg,sizeLine];simp;exact aw (by assumption) (by decide)
noncomputable def fq(d:D):Option D:=(i6 d).map fun a=>.int (-a)
noncomputable def un(F:D->Option D)(f:PS->Option D):PS->Option D:=fun σ=>(f σ).bind F
def aka(h:Den G sc n e f):Den G sc n (.UnaryOp .USub e pos) (un fq f):=fun _ _ _ _ _ _ R X y=>by
 refine aq y fun a ha y=>b9 y fun i hi e=>e▸?_
 replace hi:=i5 hi;subst hi;exact wpAny_UnaryOp (gv (h R X ha) fun v s₁ g1 e1 q1=>oE q1 fun t ez1=>ez1▸P.neg_int ((bj.tok (e1.sok X.sok) zj).after e1))
end Mine
namespace Mine.O
section
variable {a b c d e f g h i j k l:Nat} {P Q R S T U:Prop}
noncomputable abbrev E.x0:=E.v 0
noncomputable abbrev E.x1:=E.v 1
noncomputable abbrev E.x2:=E.v 2
noncomputable abbrev E.x3:=E.v 3
noncomputable abbrev E.x4:=E.v 4
noncomputable abbrev E.x5:=E.v 5
noncomputable abbrev E.x6:=E.v 6
noncomputable abbrev E.x7:=E.v 7
noncomputable abbrev E.x8:=E.v 8
end
section
open E
variable {a b c d e f g h i j k l:Nat} {P Q R S T U:Prop}
def o0:den [a,b,c] (.le x0 x1) [.le (.a x0 x2) x1]:=chk 11 rfl
def o2:den [a,b] (.le x0 x1) [.eq x0 x1]:=chk 101 rfl
def o4:den [a,b,c,d] (.lt x0 x1) [.eq x1 x2,.eq (.a x0 (.a x3 (.c 1))) x2]:=chk 1101 rfl
def o6:den [a,b,c] (.eq (.a (.a x0 (.c 1)) x1) x2) [.eq (.a x0 (.a x1 (.c 1))) x2]:=chk 1181019 rfl
def o10:den [a,b] (.eq (.s x0 (.a x1 (.c 1))) (.s (.s x0 x1) (.c 1))) []:=chk 18198181099818198100181199981001810198108109981001811981819999 (by kernel_rfl)
def o15:den [a,b] (.eq (.s x0 x1) (.a (.s (.s x0 x1) (.c 1)) (.c 1))) [.lt (.c 0) (.s x0 x1)]:=chk 1000081981819981000081981000081000099981000081000098108109981000081000098181999981010081981819981100819810018119998110081019810810998100018119818199999 (by kernel_rfl)
def o16:den [a,b,c] (.eq (.s x0 (.a x1 (.c 1))) x2) [.lt (.c 0) (.s x0 x1),.eq (.s x0 x1) (.a x2 (.c 1))]:=chk 10081981008100998100000819810000081000009998100819810081009981000108198101810019999 (by kernel_rfl)
def o17:den [a] (.eq (.a (.c 0) x0) x0) []:=chk 1819 rfl
def o18:den [a] (.n (.an (.h P) (.eq x0 (.c 46)))) [.le (.c 128) x0]:=chk 110 rfl
def o33:den [a] (.lt (.s x0 (.c 0)) (.a x0 (.c 1))) []:=chk 1819 rfl
def o37:den [a] (.le x0 (.c 16777216)) [.le x0 (.c 8000000)]:=chk 11 rfl
def o50:den [a] (.le x0 (.a x0 (.c 1))) []:=chk 1 rfl
def o51:den [a] (.le (.a x0 (.c 2)) (.c 16777216)) [.le x0 (.c 1000000)]:=chk 11 rfl
def o60:den [a,b,c] (.le x0 (.a x1 x2)) [.le x0 x1]:=chk 11 rfl
def o69:den [a,b,c,d,e] (.o (.an (.eq (.a (.a x0 (.c 1)) x1) x2) (.le x2 x3)) (.an (.eq x1 (.c 0)) (.le x2 (.a x0 (.c 1))))) [.eq (.a x0 (.a x4 (.c 1))) x3,.o (.an (.eq (.a x0 (.a x1 (.c 1))) x2) (.le x2 x3)) (.an (.eq (.a x1 (.c 1)) (.c 0)) (.le x2 x0))]:=chk 1000081810000998100008181000099810000818100009999811081811099810108181010998100108181001099999 (by kernel_rfl)
def o70:den [a,b,c,d] (.eq (.s (.a x0 (.c 1)) x1) (.s x0 x1)) [.o (.an (.eq (.a x0 (.a x2 (.c 1))) x1) (.le x1 x3)) (.an (.eq (.a x2 (.c 1)) (.c 0)) (.le x1 x0))]:=chk 1819810000081000009981000008100000981810000099981819810181199810181198181000109999 (by kernel_rfl)
def o72:den [a,b,c,d,e] (.o (.an (.eq (.a (.a x0 (.c 1)) (.s x1 (.c 1))) (.a x0 x1)) (.le (.a x0 x1) x2)) (.an (.eq (.s x1 (.c 1)) (.c 0)) (.le (.a x0 x1) (.a x0 (.c 1))))) [.le (.c 1) x1,.eq x3 x2,.eq (.a x0 (.a x4 (.c 1))) x2,.an (.le (.a x0 x1) x3) (.h P)]:=chk 10001108181981000110081000110099981108181981000001000811009998101818198100000100081001999981081819810081009998108181981008100999999 (by kernel_rfl)
def o76:den [a,b] (.eq (.a x0 (.s x1 x0)) x1) [.le x0 x1]:=chk 1181019818199 rfl
def o77:den [a,b] (.lt x0 x1) [.lt (.a x0 (.c 1)) x1]:=chk 11 rfl
def o79:den [a,b] (.le (.c 1) x0) [.le (.c 1) x1,.eq x0 x1]:=chk 1011 rfl
def o85:den [a,b] (.le x0 x1) [.le (.a x0 (.c 1)) x1]:=chk 11 rfl
def o89:den [a,b,c,d] (.lt (.s x0 (.a x1 x2)) x3) [.lt (.s x0 x1) (.a x3 (.c 1)),.lt x1 x0,.lt (.c 0) x2]:=chk 1010008101000981100181010199 rfl
def o90:den [a,b,c] (.lt (.s x0 (.a x1 (.c 1))) x2) [.lt (.s x0 x1) (.a x2 (.c 1)),.lt x1 x0]:=chk 110810100981108100199 rfl
def a0d:den [a,b] (.i (.le x0 x1) (.h P)) [.lt (.s x1 x0) (.c 0)]:=chk 108119 rfl
def o109:den [a,b] (.le (.a x0 (.c 1)) x1) [.lt x0 x1]:=chk 11 rfl
def o113:den [a,b,c,d,e] (.lt (.s x0 (.a x1 (.c 1))) x2) [.lt (.s x0 x1) (.a x2 (.c 1)),.lt x1 x0,.n (.an (.eq x3 (.c 13)) (.an (.lt (.a x1 (.c 1)) x0) (.eq x4 (.c 10)))),.o (.eq x3 (.c 13)) (.eq x3 (.c 10))]:=chk 100010810100000981000108101000009981000108101000009810001081010000099981000108101000009810001081010000099981000108101000009810001081010000099810001081010000098100010810100000999981000108100000198100010810000019981000108100000198100010810000019998100010810000019810001081000001999810001081000001981000108100000199810001081000001981000108100000199999 (by kernel_rfl)
def a98:den [a,b,c,d,e] (.lt (.s x0 (.a x1 (.c 1))) x2) [.lt (.s x0 x1) (.a x2 (.c 1)),.lt x1 x0,.n (.an (.eq x3 (.c 13)) (.an (.lt (.a x1 (.c 1)) x0) (.eq x4 (.c 10)))),.n (.o (.eq x3 (.c 13)) (.eq x3 (.c 10)))]:=chk 10001081010000098100010810100000998110081010000098100010810100000999810001081010000098100010810100000998110081010000098100010810100000999981000108101000009810001081010000099811008110098100010810100000999981000108101000009810001081010000099810001081010000098100010810100000999810001081010000098100010810100000998101008101000009810001081010000099999810001081000001981000108100000199811008100000198100010810000019998100010810000019810001081000001998110081000001981000108100000199998100010810000019810001081000001998110081000001981000108100000199998100010810000019810001081000001998100010810000019810001081000001999810001081000001981000108100000199810100810000019810001081000001999999 (by kernel_rfl)
def a0c:den [a] (.lt (.s x0 (.c 0)) (.a x0 (.c 1))) [.le x0 (.c 1000000)]:=chk 1819 rfl
def a0b:den [a,b] (.eq (.a (.a x0 x1) (.c 1)) (.a (.a x0 (.c 1)) x1)) []:=chk 1819 rfl
def apc:den [a,b,c,d] (.le x0 (.a x1 (.a x2 (.c 1)))) [.le x0 (.a x3 x2),.le x3 (.a x1 (.c 1))]:=chk 111 rfl
def a97:den [a,b] (.eq (.s x0 x1) (.a (.s (.s x0 x1) (.c 1)) (.c 1))) [.le (.a x1 (.c 1)) x0]:=chk 101008198181998110081981001811999811008101981081099810001811981819999 (by kernel_rfl)
def apb:den [a] (.le x0 (.c 1000000)) [.le x0 (.c 63)]:=chk 11 rfl
def a96:den [a] (.eq (.a (.mi (.c 12) x0) (.s (.c 12) (.mi (.c 12) x0))) (.c 12)) [.le x0 (.c 63)]:=chk 118101981819981081098101810019998181981181001998181981819999 (by kernel_rfl)
def aje:den [a] (.lt x0 (.c 16777216)) [.le x0 (.c 12)]:=chk 11 rfl
def a0a:den [a,b] (.le x0 (.c 10000)) [.le x1 (.c 40),.le x0 x1]:=chk 111 rfl
def az9:den [a] (.le x0 (.c 100000)) [.le x0 (.c 40)]:=chk 11 rfl
def apa:den [a,b] (.le x0 x1) [.eq x1 (.c 12),.le x0 (.c 12)]:=chk 111 rfl
def ao9:den [a] (.le x0 (.c 1000)) [.eq x0 (.c 12)]:=chk 101 rfl
def ao8:den [a] (.le x0 (.c 200)) [.le x0 (.c 97)]:=chk 11 rfl
def ajd:den [a] (.le x0 (.c 100000)) [.le x0 (.c 97)]:=chk 11 rfl
def ao7:den [a,b] (.lt x0 (.c 12)) [.lt x0 x1,.le x1 (.c 12)]:=chk 111 rfl
def az8:den [a,b] (.le x0 (.c 1000000)) [.le x0 x1,.le x1 (.c 97)]:=chk 111 rfl
def az7:den [a] (.le x0 (.c 16777216)) [.le x0 (.c 6)]:=chk 11 rfl
def ao6:den [a] (.le x0 (.c 1000000)) [.le x0 (.c 97)]:=chk 11 rfl
def ao5:den [a,b] (.le x0 (.c 16777216)) [.le x1 (.c 1000),.le x0 x1]:=chk 111 rfl
def ao4:den [a] (.le x0 (.c 100000)) [.le x0 (.c 40),.le (.c 1) x0]:=chk 101 rfl
def az6:den [a,b] (.le x0 (.c 100000)) [.le x1 (.c 40),.le (.c 1) x1,.le x0 (.m 2 x1)]:=chk 2011 rfl
def az5:den [a] (.le x0 (.c 1000)) [.le x0 (.c 200)]:=chk 11 rfl
def az4:den [a,b] (.lt x0 (.c 1000000)) [.lt x0 x1,.le x1 (.c 1000)]:=chk 111 rfl
def az3:den [a] (.lt x0 (.c 9223372036854775808)) [.le x0 (.c 100000)]:=chk 11 rfl
def az2:den [a,b] (.le x0 (.c 100000)) [.le x1 (.c 500),.le x0 (.m 200 x1)]:=c0 _ _ _ (.l [1,1,200]) rfl
def az1:den [a,b] (.le x0 (.a x1 (.c 2))) [.le x0 x1]:=chk 11 rfl
def az0:den [a,b] (.le x0 (.a x1 (.c 1))) [.le (.a x0 (.c 1)) x1]:=chk 11 rfl
def ao3:den [a] (.lt x0 (.c 16777216)) [.le x0 (.c 1000)]:=chk 11 rfl
def azz:den [a] (.le x0 (.c 1000)) [.le x0 (.c 500)]:=chk 11 rfl
def ajc:den [a] (.lt x0 (.c 55296)) [.lt x0 (.c 128)]:=chk 11 rfl
def aca:den [a,b] (.lt x0 (.c 13)) [.le x1 (.c 12),.lt x0 x1]:=chk 111 rfl
def azy:den [a,b,c] (.le (.a x0 x1) (.m 10 (.a x2 (.c 1)))) [.le x0 (.c 10),.le x1 (.m 10 x2)]:=chk 111 rfl
def azx:den [a,b,c] (.le (.a x0 x1) (.c 20000)) [.le x2 (.c 1000),.le x0 (.m 10 x2),.le x1 (.c 2)]:=c0 _ _ _ (.l [1,1,1,10]) rfl
def azw:den [a] (.le (.a (.c 0) x0) (.c 20000)) [.le x0 (.c 20000)]:=chk 11 rfl
def azv:den [a,b,c,d] (.lt (.a x0 x1) x2) [.le x1 x3,.lt (.a x0 x3) x2]:=chk 111 rfl
def azu:den [a,b,c,d] (.lt (.a (.a x0 (.m 20 x1)) (.c 40)) x2) [.le x1 x3,.lt (.a (.a x0 (.m 20 x3)) (.c 40)) x2]:=c0 _ _ _ (.l [1,1,20]) rfl
def ae8:den [a,b,c] (.lt x0 x1) [.lt (.a x0 (.a x2 (.c 1))) x1]:=chk 11 rfl
def ae7:den [a,b,c] (.lt (.a (.a x0 (.c 1)) x1) x2) [.lt (.a x0 (.a x1 (.c 1))) x2]:=chk 11 rfl
def azt:den [a,b,c] (.lt (.a (.a (.a x0 (.c 3)) (.m 20 x1)) (.c 40)) x2) [.lt (.a (.a x0 (.m 20 (.a x1 (.c 1)))) (.c 40)) x2]:=chk 11 rfl
def ajb:den [a] (.le x0 (.a (.a x0 (.c 1)) (.c 1))) []:=chk 1 rfl
def ao2:den [a,b,c] (.lt x0 x1) [.lt (.a x0 x2) x1]:=chk 11 rfl
def a95:den [a,b] (.eq (.s (.s x0 (.c 1)) (.s x0 (.a x1 (.c 1)))) x1) [.lt x1 x0]:=chk 10819810100819981010819810018110099981010081981000181019981081981819999 (by kernel_rfl)
def aja:den [a,b] (.lt (.s (.a x0 (.c 1)) (.a x1 (.c 1))) (.s (.a x0 (.c 1)) x1)) [.lt x1 x0]:=chk 10108100198118199 rfl
def ao1:den [a,b] (.eq x0 x1) [.le x0 x1,.n (.lt x0 x1)]:=chk 1181019 rfl
def ai9:den [a,b,c] (.lt x0 x1) [.eq x2 x1,.lt x0 x2]:=chk 1011 rfl
def azs:den [a,b,c,d,e] (.eq (.s x0 x1) (.a (.s x0 (.a x1 (.c 1))) (.c 1))) [.eq x2 x3,.eq x2 x0,.eq x3 x4,.lt x1 x0]:=chk 10108198110081100998101081198181999 rfl
def azr:den [a,b,c] (.eq (.s x0 (.a x1 (.c 1))) x2) [.eq (.s x0 x1) (.a x2 (.c 1)),.lt x1 x0]:=chk 1000819810008100099811081981001810001999 rfl
def azq:den [a,b] (.eq (.s x0 x1) (.a (.s (.s x0 x1) (.c 1)) (.c 1))) [.lt x1 x0]:=chk 101008198181998110081981001811999811008101981081099810001811981819999 (by kernel_rfl)
def azp:den [a,b,c,d] (.le (.s (.mi x0 x1) x2) x3) [.le x1 x3]:=chk 1810019818110199 rfl
def azo:den [a] (.le (.a x0 (.c 1)) (.a (.c 0) (.a x0 (.c 1)))) []:=chk 1 rfl
end
end Mine.O
namespace Mine
noncomputable def l5(F:D->D->Option Bool)(l:List D):List D->Option Bool:=
 l.rec (motive:=fun _=>List D->Option Bool) (fun _=>some true) fun a _ r m=>m.casesOn (some true) fun b m=>(F a b).bind fun x=>(r m).map (x && ·)
noncomputable def jq(l:List (Str×D))(x:Str):Option D:=l.rec (motive:=fun _=>Option D) none fun kd _ r=>if kd.1=x then some kd.2 else r
noncomputable def acv(F:D->D->Option Bool)(m l:List (Str×D)):Option Bool:=
 l.rec (motive:=fun _=>Option Bool) (some true) fun kd _ r=>(jq m kd.1).elim (some false) fun d'=>(F kd.2 d').bind fun x=>if x then r else some false
noncomputable def isN(d:D):Bool:=@D.casesOn (fun _=>Bool) d true (fun _=>false) (fun _=>false) (fun _=>false) (fun _=>false) (fun _=>false) (fun _=>false) (fun _=>false) (fun _=>false)
variable{d:D}
def bcg(h:isN d=true):d=.none:=by
 cases d with
 |none=>rfl
 |_=>exact absurd h wy
noncomputable def eqC(F:D->D->Option Bool)(a b:D):Option Bool:=match a with
 |.none=>if isN b=true then some true else none
 |.int x=>(i6 b).map fun y=>x==y
 |.list l=>(vn b).elim ((jg b).bind fun m=>if l.length=m.length then l5 F l m else some false) fun _=>some false
 |.bool x=>(akz b).map fun y=>x==y
 |.tup l=>(vn b).bind fun m=>(l5 F l m).map (· && l.length==m.length)
 |.str x=>(b7 b).map fun y=>x==y
 |.hstr x=>(b7 b).map fun y=>x==y
 |.bytes _=>none
 |.dict _=>none
noncomputable def ky:Nat->D->D->Option Bool
 |0,_,_=>none
 |k+1,a,b=>eqC (ky k) a b
variable{k:Nat}{l m:List D}
def bex(e:l.length=m.length)(h:l5 (ky k) l m=some true):ky (k+1) (.tup l) (.tup m)=some true:=by
 show(l5 (ky k) l m).map _=_;rw[h,e];exact congrArg some (beq_self_eq_true _)
noncomputable def eqE(F:D->D->Option Bool)(z:Option Bool)(a b:D):Option Bool:=
 (vn a).elim ((mn a).elim z fun l=>(mn b).elim z fun m=>if l.length=m.length then acv F m l else some false) fun l=>(vn b).elim z fun m=>(l5 F l m).map (· && l.length==m.length)
noncomputable def jf:Nat->D->D->Option Bool
 |0,_,_=>none
 |k+1,a,b=>eqE (jf k) (ky (k+1) a b) a b
inductive EqC (F:D->D->Option Bool):D->D->Bool->Prop
 |none:EqC F .none .none true
 |int (a b:Int):EqC F (.int a) (.int b) (a==b)
 |list {l m b:_} (e:l.length=m.length) (h:l5 F l m=some b):EqC F (.list l) (.list m) b
 |lt (l m:_):EqC F (.list l) (.tup m) false
 |nlist {l m:_} (e:¬l.length=m.length):EqC F (.list l) (.list m) false
 |bool (a b:Bool):EqC F (.bool a) (.bool b) (a==b)
 |tup {l m c:_} (h:l5 F l m=some c):EqC F (.tup l) (.tup m) (c && l.length==m.length)
 |str {a b x y:_} (hx:b7 a=some x) (hy:b7 b=some y):EqC F a b (x==y)
variable{c:Bool}
def a2h{F:D->D->Option Bool}{a b:D}(h:eqC F a b=some c):EqC F a b c:=by
 cases a with
 |none=>refine ifS h fun h e=>e▸?_;replace h:=bcg h;subst h;exact .none
 |int=>exact b9 h fun _ h e=>e▸i5 h▸.int ..
 |list=>exact oel h (fun _ h=>aq h fun _ h' h=>ua h'▸ifE h (fun h e=>.list h e) fun h e=>dn e▸.nlist h) fun _ h e=>dn e▸ye h▸.lt ..
 |bool=>exact b9 h fun _ h e=>e▸arn h▸.bool ..
 |tup=>exact aq h fun _ h' h=>b9 h fun _ h e=>e▸ye h'▸.tup h
 |str=>exact b9 h fun _ h e=>e▸.str rfl h
 |hstr=>exact b9 h fun _ h e=>e▸.str rfl h
 |bytes=>exact ns rfl h
 |dict=>exact ns rfl h
variable {prog:dm} {w:dv} {G:Gl prog w} {sc:dc} {n:Nat}
def arq{F:D->D->Option Bool}{b:Bool}(h:l5 F l m=some b) :
  ∃e:Nat->Bool,(∀j (h1:j<l.length) (h2:j<m.length),F l[j] m[j]=some (e j))/\(ed (min l.length m.length)).all e=b:=by
 induction l generalizing m b with
 |nil=>exact⟨fun _=>true,fun j h1=>absurd h1 (oz _),by rw[jt,ag9];exact dn h⟩
 |cons a l ih=>induction m with
  |nil=>exact⟨fun _=>true,fun j _ h2=>absurd h2 (oz _),by rw[jt,Nat.min_zero];exact dn h⟩
  |cons c m=>
   refine aq h fun x hx h=>b9 h fun y hy e=>e▸?_
   refine oEA (ih hy) fun e he hb=>⟨fun j=>j.casesOn x e,fun j h1 h2=>?_,?_⟩
   .induction j with
    |zero=>exact hx
    |succ j=>exact he j (uh h1) (uh h2)
   .rw[dh,dh,Nat.succ_min_succ,List.range_succ_eq_map,al6,List.all_map,<-hb];rfl
variable{ds:List D}
def a9.getElem{g:ah}{vs:List ae}(r:a9 prog w g vs ds){j:Nat}(h1:j<vs.length)(h2:j<ds.length):Rep prog w g vs[j] ds[j]:=by
 refine oEA (a9.get r (gq h2)) fun v hv q=>?_
 rw[gq h1]at hv;cases hv;exact q
variable{a:ai}{h:bf}
def ly{vs:List ae}{m:Nat}(e:h.get? a=some (c8 "tuple" vs m)):h.IsTuple a vs.toArray:=⟨_,e,rfl,m,rfl⟩
def arp{F:D->D->Option Bool}{g:ah}(hF:∀v d d' b,Rep prog w g v d->Rep prog w g v d'->F d d'=some b->b=true){vs:List ae}{b:Bool}
  (r:a9 prog w g vs l) (q:a9 prog w g vs m) (h:l5 F l m=some b):b=true:=by
 induction r using a9.ind generalizing m b with
 |n=>exact(dn h).symm
 |c r _ ih=>induction m with
  |nil=>exact(dn h).symm
  |cons c m=>exact aq h fun x hx h=>b9 h fun y hy e=>e▸by rw[hF _ _ _ _ r q.1 hx,ih q.2 hy];rfl
inductive Sq (prog:dm) (w:dv) (g:ah) (T:String) (ds:List D):ae->Prop
 |mk {a vs m:_} (e:g.f a=some (c8 T vs m)) (r:a9 prog w g vs ds):Sq prog w g T ds (.ref a)
def jy{g:ah}{v:ae}(q:Rep prog w g v (.list l)):Sq prog w g "list" l v:=by
 refine zw q fun a vs m ez3 e r=>?_;clear q;subst ez3;exact⟨e,r⟩
def lq{g:ah}{v:ae}(q:Rep prog w g v (.tup l)):Sq prog w g "tuple" l v:=by
 refine zw q fun a vs m ez3 e r=>?_;clear q;subst ez3;exact⟨e,r⟩
def Sq.same{g:ah}{T:String}{v:ae}(q:Sq prog w g T l v)(q':Sq prog w g T m v):∃vs,a9 prog w g vs l/\a9 prog w g vs m:=by
 induction q with
 |@mk a vs k e r=>
  cases q' with
  |@mk _ ws k' e' r'=>
   exact⟨vs,r,(show vs=ws from congrArg (fun o:Option Obj=>match o with|some ⟨_,_,.seq x _,_⟩=>x.toList|_=>[]) (e.symm.trans e'))▸r'⟩
def a2s{g:ah}:∀(k:Nat) (v:ae) (d d':D) (b:Bool),Rep prog w g v d->Rep prog w g v d'->ky k d d'=some b->b=true:=by
 intro k;induction k with
 |zero=>exact fun v d d' b _ _ h=>ns rfl h
 |succ k ih=>
  intro v d d' b q q' h;replace h:=a2h h;induction h with
  |none=>rfl
  |int a c=>refine oE q fun t ez1=>?_;clear q;subst ez1;refine oE q' fun u e=>?_;clear q';cases e;exact beq_self_eq_true _
  |list e h=>refine oEA ((jy q).same (jy q')) fun vs r r'=>?_;exact arp ih r r' h
  |lt l m=>
   obtain⟨e1,r1⟩:=jy q;obtain⟨e2,r2⟩:=lq q';exact absurd (Value.type.inj (congrArg Obj.cls (dn (e1.symm.trans e2)))) (by decide)
  |bool a c=>cases(show v=.bool a from q).symm.trans (show v=.bool c from q');exact beq_self_eq_true _
  |tup hh=>
   refine oEA ((lq q).same (lq q')) fun vs r r'=>?_
   exact(arp ih r r' hh).symm▸(beq_iff_eq.2 (r.length.symm.trans r'.length))
  |nlist e=>refine oEA ((jy q).same (jy q')) fun vs r r'=>?_;exact absurd (r.length.symm.trans r'.length) e
  |str hx hy=>refine oE (gr q hx) fun t ez1=>?_;subst ez1;refine oE (gr q' hy) fun u e=>?_;cases e;exact beq_self_eq_true _
variable{e:Nat->Bool}
def els{Q:ae->ae->Bool->Prop}{F:D->D->Option Bool}{g:ah}(ih:∀v v' d d' b,Rep prog w g v d->Rep prog w g v' d'->F d d'=some b->Q v v' b){vs ws:List ae}(r1:a9 prog w g vs l)(r2:a9 prog w g ws m)
  (he:∀j (h1:j<l.length) (h2:j<m.length),F l[j] m[j]=some (e j)) (j:Nat) (h1:j<vs.length) (h2:j<ws.length):Q vs[j] ws[j] (e j):=
 ih _ _ _ _ _ (r1.getElem h1 (r1.length▸h1)) (r2.getElem h2 (r2.length▸h2)) (he j (r1.length▸h1) (r2.length▸h2))
open SeqAt in
def bea{g:ah}{s:af}(V:∀a o,g.f a=some o->s.heap.get? a=some o):∀(k:Nat) (A:az) (v v':ae) (d d':D) (b:Bool),A.units+k<cLine->Rep prog w g v d->Rep prog w g v' d'->ky k d d'=some b ->
  RcAt A s v v' b/\EqAt A s v v' b:=by
 intro k;induction k with
 |zero=>exact fun A v v' d d' b _ _ _ h=>ns rfl h
 |succ k ih=>
  intro A v v' d d' b hu q q' h;have hu0:A.units<cLine:=O.ae8 hu;have refs:∀{a1 a2},v=.ref a1->v'=.ref a2->RcAt A s v v' b->RcAt A s v v' b/\EqAt A s v v' b:=fun{a1 a2} e e' R=>
   ⟨R,if hn:a1=a2 then((fun q'=>a2s (k+1) v d d' b q q' h) (e.trans (hn▸e'.symm)▸q')).symm▸(e.trans (hn▸e'.symm))▸ag8 _ else by subst e e';exact atf hn R⟩
  replace h:=a2h h;induction h with
  |none=>cases(show v=.none from q);cases(show v'=.none from q');exact⟨RcAt.none_none,ag8 _⟩
  |int a c=>refine oE q fun t ez1=>?_;clear q;subst ez1;refine oE q' fun u ez1=>?_;clear q';subst ez1;exact⟨RcAt.int_int _ _ _ _,EqAt.int_int _ _ _ _⟩
  |list e h=>
   obtain⟨e1,r1⟩:=jy q;obtain⟨e2,r2⟩:=jy q';refine oEA (arq h) fun f he hb=>?_
   refine refs rfl rfl ?_;have R:=asx (A:=A) (e:=f) (fz (V _ _ e1)) (fz (V _ _ e2)) (r1.length.trans (e.trans r2.length.symm)) hu0
    (els (fun v v' d d' b q q' h=>(ih A.in1 v v' d d' b (O.ae7 hu) q q' h).2) r1 r2 he)
   rw[<-e,adq,<-r1.length]at hb;exact hb▸R
  |nlist e=>
   obtain⟨e1,r1⟩:=jy q;obtain⟨e2,r2⟩:=jy q';exact refs rfl rfl (au9 (fz (V _ _ e1)) (fz (V _ _ e2)) (bne_iff_ne.2 fun z=>e (r1.length.symm.trans (z.trans r2.length))) hu0)
  |lt l m=>
   obtain⟨e1,r1⟩:=jy q;obtain⟨e2,r2⟩:=lq q';exact⟨RcAt.list_tuple (fz (V _ _ e1)) (ly (V _ _ e2)) hu0,EqAt.list_tuple (fz (V _ _ e1)) (ly (V _ _ e2)) hu0⟩
  |bool a c=>cases(show v=.bool a from q);cases(show v'=.bool c from q');exact⟨RcAt.bool_bool _ _,EqAt.bool_bool _ _⟩
  |tup hh=>
   obtain⟨e1,r1⟩:=lq q;obtain⟨e2,r2⟩:=lq q';refine oEA (arq hh) fun f he hb=>?_
   refine refs rfl rfl ?_;have R:=RcAt.tuples (A:=A) (e:=f) (ly (V _ _ e1)) (ly (V _ _ e2)) hu0 (els (fun v v' d d' b q q' h=>(ih A.in1 v v' d d' b (O.ae7 hu) q q' h).2) r1 r2 he)
   simp only[ko,r1.length,r2.length,hb]at R;exact R
  |str hx hy=>
   refine oE (gr q hx) fun t ez1=>?_;subst ez1;refine oE (gr q' hy) fun u ez1=>?_;subst ez1
   exact⟨RcAt.str_str _ _ _ _,amm _ _ _ _⟩
def RcW(prog:dm)(w:dv)(A:az)(s:af)(v v':ae)(b:Bool):Prop:=
 ∀(E:ae->af->Prop) (Q:ae->af->Prop),Q (.bool b) s->wpAny (model prog w) A (richCompare .Eq v v') Q E s
def EqW(prog:dm)(w:dv)(A:az)(s:af)(v v':ae)(b:Bool):Prop:=
 ∀(E:ae->af->Prop) (Q:Bool->af->Prop),Q b s->wpAny (model prog w) A (eqBool v v') Q E s
variable{l:ai}
def EqW.refs{A:az}{s:af}{b:ai}{k:Bool}(hk:l=b->k=true)(h:RcW prog w A s (.ref l) (.ref b) k):EqW prog w A s (.ref l) (.ref b) k:=fun E Q hq=>by
 by_cases hne:l=b
 .subst hne;rw[hk rfl]at hq;exact ag8 _ prog w E Q hq
 .refine jc ?_;rw[if_neg (by simpa using hne)]
  exact ak (h E _ (ahw hq))
variable{Q:ae->af->Prop}{m':Nat}
def a55{A:az}{s:af}{b:ai}{xs ys:List ae}{m:Nat}{E:ae->af->Prop}
  (hl:s.heap.get? l=some (c8 "tuple" xs m)) (hb:s.heap.get? b=some (c8 "tuple" ys m'))
  (he:∀j (h1:j<xs.length) (h2:j<ys.length),EqW prog w A s xs[j] ys[j] (e j))
  (h:Q (.bool ((ed (min xs.length ys.length)).all e && xs.length==ys.length)) s) :
  wpAny (model prog w) A (Builtin.«tuple.__eq__» ⟨[.ref l,.ref b],[]⟩) (fun fin s'=>∃v,fin=.done (.ret v)/\v≠.notImplemented/\Q v s') E s:=by
 have f2:=AutoSeq1.sub_tuple_tuple;obtain⟨hp,gs,dr,tk,os⟩:=s;unfold c8 at hl hb
 wp_walk using wpAny_loadPart' hl,wpAny_loadPart' hb,aml _ (fun rest (c:Option _×PUnit) s'=>c.1=none/\s'=⟨hp,gs,dr,tk,os⟩/\∃i,rest=(xs.zip ys).drop i/\i<=(xs.zip ys).length /\
   (ed (min xs.length ys.length)).all e=((ed (min xs.length ys.length)).drop i).all e) _
 case turn=>
  rintro⟨y,x⟩ rest c s' ⟨hc,rfl,i,hz,hi,ha⟩;have hlt:i<(xs.zip ys).length:=by
   rcases uu i (xs.zip ys).length with q|q
   .exact q
   .rw[rg q]at hz;cases hz
  have hm:i<min xs.length ys.length:=by simpa using hlt
  have h1:i<xs.length:=O.ck [_,_,_] [.lt .x0 (.mi .x1 .x2)] (.lt .x0 .x1) 1118119 rfl hm;have h2:i<ys.length:=O.ck [_,_,_] [.lt .x0 (.mi .x2 .x1)] (.lt .x0 .x1) 1181119 rfl hm;rw[lh hlt]at hz;injection hz with hyx hrest;have hy:y=xs[i]:=by simpa using congrArg Prod.fst hyx
  have hx:x=ys[i]:=by simpa using congrArg Prod.snd hyx
  subst hy hx;rw[lh (by simpa using hm)]at ha
  simp only[al6,ahy]at ha;refine ak (he i h1 h2 _ _ ?_);cases hv:e i with
  |true=>
   rw[hv,asw]at ha
   wp_walk
   exact⟨rfl,rfl,i+1,hrest,hlt,ha⟩
  |false=>
   rw[hv,ahj]at ha;rw[ha,ahj]at h
   wp_walk
   exact⟨_,rfl,by decide,h⟩
 case fin=>
  rintro⟨b1,b2⟩ s' ⟨hc,rfl,i,hz,hi,ha⟩;subst hc;have hge:min xs.length ys.length<=i:=by
   rcases uu i (xs.zip ys).length with q|q
   .rw[lh q]at hz;cases hz
   .simpa using q
  rw[rg (by simpa using hge),List.all_nil]at ha
  rw[ha,asw]at h
  wp_walk
  exact⟨_,rfl,by simp[a5c],by assumption⟩
 case h=>
  exact⟨rfl,rfl,0,ix _,g9 _,rfl⟩
def RcW.tuples{A:az}{s:af}{b:ai}{xs ys:List ae}{m:Nat}(hu:A.units<cLine)
  (hl:s.heap.get? l=some (c8 "tuple" xs m)) (hb:s.heap.get? b=some (c8 "tuple" ys m'))
  (he:∀j (h1:j<xs.length) (h2:j<ys.length),EqW prog w A.in1 s xs[j] ys[j] (e j)) :
  RcW prog w A s (.ref l) (.ref b) ((ed (min xs.length ys.length)).all e && xs.length==ys.length):=fun E Q h=>by
 refine awa (op:=.Eq) (T := "tuple") ⟨_,hl,rfl⟩ ⟨_,hb,rfl⟩ au8 (m0 au8 ⟨_,hl,rfl⟩ PySem.F.entry_tuple_eq ?_ (PySem.F.args_tuple_eq_2 _ _)) hu;exact a55 hl hb he h
inductive vz (prog:dm) (w:dv) (A:az) (s:af) (kb:List (Str×ae)):List (Str×ae)->Bool->Prop
 |nil:vz prog w A s kb [] true
 |miss {k v r:_}:valueAt kb k=none->vz prog w A s kb ((k,v)::r) false
 |no {k v r y:_}:valueAt kb k=some y->EqW prog w A s v y false->vz prog w A s kb ((k,v)::r) false
 |hit {k v r y b:_}:valueAt kb k=some y->EqW prog w A s v y true->vz prog w A s kb r b->vz prog w A s kb ((k,v)::r) b
variable{r:Bool}
def a72{A:az}{s:af}{nm:String}{b:ai}{oa ob:Obj}{ka kb:List (Str×ae)}{Q:Bool->af->Prop}{E:ae->af->Prop}(ha:(a==sysModules)=false)(hb:(b==sysModules)=false)
  (ea:s.heap.get? a=some oa) (eb:s.heap.get? b=some ob) (da:oa.IsDictOf (strKind prog w) ka) (db:ob.IsDictOf (strKind prog w) kb) (hlen:ka.length=kb.length) (hits:vz prog w A s kb ka r) (h:Q r s) :
  wpAny (model prog w) A (am7 nm a b) Q E s:=by
 obtain⟨es,ep,xa,da,keysa,pa,na⟩:=da;obtain⟨es',ep',xb,db,keysb,pb,nb⟩:=db;have la:ka.length=es.size:=by exact pa.length.symm▸l7
 have lb:kb.length=es'.size:=by exact pb.length.symm▸l7
 have look:∀k,(es'.find? fun e=>(strKind prog w).is k e.key).map (·.val)=valueAt kb k:=fun k=>by
  refine(pb.find k).symm▸?_;cases es' with|mk l=>simp
 delta am7 au7;simp only[ha,hb,ue,if_false];refine bP (bP (ak (za ea da ?_)));refine ak (za eb db ?_);have hsz:(es.size != es'.size)=false:=by simp;exact O.ck [_,_,_,_] [.eq .x2 .x3,.eq .x2 .x0,.eq .x3 .x1] (.eq .x0 .x1) 110011810011019 rfl hlen la lb
 simp only[hsz,ue,if_false];refine ak (wpAny_dictEpoch ea da ?_);refine ak ?_;rw[agx];refine aml _ (fun rest (q:Option Bool×PUnit) s'=>s'=s/\q=(none,⟨⟩)/\∃i,rest=uo i (es.size - i)/\i<=es.size/\vz prog w A s kb (ka.drop i) r) _ ?_ ?_ _ _ ⟨rfl,rfl,0,by simp,g9 _,hits⟩
 .rintro x rest q s' ⟨rfl,rfl,i,hr,hi,hp⟩;have hlt:i<es.size:=by
   rcases uu i es.size with q|q
   .exact q
   .replace hr:=(so q).symm▸hr;exact nomatch hr
  have hstep:es.size - i=(es.size - (i+1))+1:=O.azs hlen la lb hlt;rw[hstep,abe]at hr;injection hr with hx hrest;subst hx;have hlt':x<ka.length:=O.ck [_,_,_,_,_] [.eq .x1 .x2,.eq .x1 .x3,.eq .x2 .x4,.lt .x0 .x3] (.lt .x0 .x1) 10011 rfl hlen la lb hlt;replace hp:=(lh hlt').symm▸hp;rcases hkv:ka[x]with⟨kx,vx⟩;have hke:ka[x]?=some (kx,vx):=by rw[gq hlt',hkv]
  have hee:es[x]?=some es[x]:=ui hlt;obtain⟨hkey,hval⟩:=Pairs.get? pa (i:=x) (e:=es[x]) (by rw[au6];exact hee) hke
  obtain⟨k',hk',hash⟩:=keysa es[x] (Array.getElem_mem hlt);have hkk:k'=kx:=(strKind prog w).inj _ _ _ hk' hkey;subst hkk;replace hp:=hkv.symm▸hp;refine ak (za ea da ?_);refine hee▸?_;show wpAny _ _ (holding [es[x].key,es[x].val] _ >>= _) _ _ _;rw[hash];refine ak (jc (ak (wpAny_dictFind_of hkey eb db keysb ?_)));have look':=look k';have found:∀y,valueAt kb k'=some y->∃j,∃hj:j<es'.size,(es'.findIdx? fun e=>(strKind prog w).is k' e.key)=some j/\es'[j].val=y:=fun y hy=>by
   replace look':=hy.symm▸look';cases hq:es'.findIdx? fun e=>(strKind prog w).is k' e.key with
   |none=>
    rw[av6]at hq;have:es'.find? (fun e=>(strKind prog w).is k' e.key)=none:=by rw[Array.find?_eq_none];intro e he;simpa using hq e he
    rw[this]at look';exact nomatch look'
   |some j=>
    obtain⟨hj,_,_⟩:=awi.mp hq;refine⟨j,hj,rfl,?_⟩;have hfb:=aue (strKind prog w).is es' k';replace hfb:=hq.symm▸hfb;simp only[findBy,look',ui hj,bt,ahx]at hfb;exact hfb.symm
  have missed:valueAt kb k'=none->(es'.findIdx? fun e=>(strKind prog w).is k' e.key)=none:=fun hn=>by
   cases hq:es'.findIdx? fun e=>(strKind prog w).is k' e.key with
   |none=>rfl
   |some j=>
    obtain⟨hj,_,_⟩:=awi.mp hq;have hfb:=aue (strKind prog w).is es' k';replace hfb:=hq.symm▸hfb;simp only[findBy,look',hn,ui hj,bt]at hfb;exact nomatch hfb
  cases hp with
  |miss hn=>
   refine(missed hn)▸?_;refine bo ?_;rw[if_pos (by decide)]
   exact bo (bo h)
  |no hy he=>
   obtain⟨j,hj,e1,e2⟩:=found _ hy;refine e1▸?_;refine ak (za eb db ?_);rw[ui hj];rw[<-e2,<-hval]at he;refine jc (he _ _ ?_);rw[if_pos (by decide)]
   exact bo (bo h)
  |hit hy he hr=>
   obtain⟨j,hj,e1,e2⟩:=found _ hy;refine e1▸?_;refine ak (za eb db ?_);rw[ui hj];rw[<-e2,<-hval]at he;refine jc (he _ _ ?_);rw[if_neg (by decide)]
   refine ak (wpAny_dictEpoch ea da ?_);rw[if_neg (by simp)]
   exact bo ⟨rfl,rfl,x+1,hrest,hlt,hr⟩
 .rintro q s' ⟨rfl,rfl,i,hr,hi,hp⟩;have hin:i=es.size:=by
   rcases uu i es.size with q|q
   .have:es.size - i=(es.size - (i+1))+1:=O.azs hlen la lb q;rw[this,abe]at hr;exact nomatch hr
   .exact O.ck [_,_,_,_,_] [.eq .x2 .x3,.eq .x2 .x1,.eq .x3 .x4,.le .x0 .x1,.le .x1 .x0] (.eq .x0 .x1) 1181019 rfl hlen la lb hi q
  rw[hin,<-la,ad3]at hp;cases hp;exact bo h
def RcW.dicts{A:az}{s:af}{b:ai}{oa ob:Obj}{ka kb:List (Str×ae)}(hu:A.units<cLine)(ha:(a==sysModules)=false)(hb:(b==sysModules)=false)
  (ea:s.heap.get? a=some oa) (eb:s.heap.get? b=some ob) (da:oa.IsDictOf (strKind prog w) ka) (db:ob.IsDictOf (strKind prog w) kb) (hits:if ka.length=kb.length then vz prog w A.in1 s kb ka r else r=false) :
  RcW prog w A s (.ref a) (.ref b) r:=fun E Q h=>by
 have ta:s.TypeIs (.ref a) "dict" := ⟨_,ea,let⟨_,_,x,_⟩:=da;x.1⟩;have tb:s.TypeIs (.ref b) "dict" := ⟨_,eb,let⟨_,_,x,_⟩:=db;x.1⟩;refine awa (op:=.Eq) ta tb auu (m0 auu ta PySem.F.entry_dict_eq ?_ (PySem.F.args_dict_eq_2 _ _)) hu;refine ak ?_;refine ak (wpAny_notOrdered_dict ta (bo ?_));refine ak (ad2 (T := "dict") tb PySem.F.sub_dict_dict ?_);refine bP (bP (ak ?_));split at hits
 .rename_i hlen;exact a72 ha hb ea eb da db hlen hits (bo ⟨_,rfl,(fun x=>nomatch x),by simpa using h⟩)
 .rename_i hlen;subst hits;obtain⟨es,ep,xa,da,keysa,pa,na⟩:=da;obtain⟨es',ep',xb,db,keysb,pb,nb⟩:=db;delta am7 au7;simp only[ha,hb,ue,if_false];refine bP (bP (ak (za ea da ?_)));refine ak (za eb db ?_);simp only[(by simp;exact O.ck [_,_,_,_] [.n (.eq .x2 .x3),.eq .x2 .x0,.eq .x3 .x1] (.n (.eq .x0 .x1)) 1011001811001109 rfl hlen (by exact pa.length.symm▸l7:ka.length=es.size) (by exact pb.length.symm▸l7:kb.length=es'.size):(es.size != es'.size)=true),if_true]
  exact ak (wh (bo (bo ⟨_,rfl,(fun x=>nomatch x),by simpa using h⟩)))
variable{l:List (Str×D)}
def a5f{g:ah}{vs:List ae}(r:dz prog w g vs l):(gy vs l).map (·.1)=l.map (·.1):=by
 induction r using dz.ind with
 |n=>rfl
 |c _ _ ih=>exact congrArg (_::·) ih
def sz{g:ah}{vs:List ae}(r:dz prog w g vs l):(gy vs l).length=l.length:=by
 simpa using congrArg pd (a5f r)
variable{x:Str}
def anl{kv:Str×ae}{l:List (Str×ae)}:valueAt (kv::l) x=if kv.1=x then some kv.2 else valueAt l x:=by
 rw[valueAt,List.find?_cons]
 if h:kv.1=x then rw[if_pos h,decide_eq_true h];rfl else rw[if_neg h,decide_eq_false h];rfl
def ajk{g:ah}{vs:List ae}(r:dz prog w g vs l)(h:jq l x=some d):∃v,valueAt (gy vs l) x=some v/\Rep prog w g v d:=by
 induction r using dz.ind with
 |n=>exact ns rfl h
 |c q _ ih=>exact ifE h (fun hk e=>⟨_,anl.trans (if_pos hk),dn e▸q⟩) fun hk h=>oEA (ih h) fun v' hv q=>⟨v',anl.trans ((if_neg hk).trans hv),q⟩
def look_none{g:ah}{vs:List ae}(r:dz prog w g vs l)(h:jq l x=none):valueAt (gy vs l) x=none:=by
 induction r using dz.ind with
 |n=>rfl
 |c _ _ ih=>exact ifE h (fun _ h=>nomatch h) fun hk h=>anl.trans ((if_neg hk).trans (ih h))
def a9p{es:List DictEntry}:∀{l m:List (Str×ae)},Pairs (strKind prog w) es l->Pairs (strKind prog w) es m->l=m:=by
 induction es with
 |nil=>intro l m a b;cases a;cases b;rfl
 |cons e es ih=>
  intro l m a b;cases a with
  |@cons _ kv _ kvs h1 h2 h3=>
   cases b with
   |@cons _ kv' _ kvs' h1' h2' h3'=>
    rw[ih h3 h3',show kv=kv' from Prod.ext ((strKind prog w).inj _ _ _ h1 h1') (h2.symm.trans h2')]
def bch{o:Obj}{l m:List (Str×ae)}(a:o.IsDictOf (strKind prog w) l)(b:o.IsDictOf (strKind prog w) m):l=m:=
 ab9 a fun es ep _ da _ pa _=>ab9 b fun es' ep' _ db _ pb _=>a9p pa ((Data.dict.inj (da.symm.trans db)).1▸pb)
variable{m:List (Str×D)}
def a6w{F:D->D->Option Bool}{g:ah}{vs:List ae}(hF:∀v d d' b,Rep prog w g v d->Rep prog w g v d'->F d d'=some b->b=true)(rm:dz prog w g vs m){us:List ae}{b:Bool}
  (r:dz prog w g us l) (hv:∀k v,(k,v)∈gy us l->valueAt (gy vs m) k=some v) (h:acv F m l=some b):b=true:=by
 induction r using dz.ind generalizing b with
 |n=>exact(dn h).symm
 |c q _ ih=>
  refine oel h (fun hn _=>ns (look_none rm hn) (hv _ _ (.head _))) fun d' hd h=>oEA (ajk rm hd) fun v' hv' q'=>aq h fun x hx h=>?_
  replace hx:=hF _ _ _ _ q (dn (hv'.symm.trans (hv _ _ (.head _)))▸q') hx;subst hx;exact ih (fun k v hm=>hv k v (.tail _ hm)) h
def a5m{l:List (Str×ae)}(hn:(l.map (·.1)).Nodup){k:Str}{v:ae}(h:(k,v)∈l):valueAt l k=some v:=by
 obtain⟨i,hi,e⟩:=am0 h;exact valueAt_of_get hn (i:=i) (by rw[gq hi,e])
inductive EqE (F Z:D->D->Option Bool):D->D->Bool->Prop
 |tup {l m c:_} (h:l5 F l m=some c):EqE F Z (.tup l) (.tup m) (c && l.length==m.length)
 |dict {l m b:_} (e:l.length=m.length) (h:acv F m l=some b):EqE F Z (.dict l) (.dict m) b
 |ndict {l m:_} (e:¬l.length=m.length):EqE F Z (.dict l) (.dict m) false
 |low {a b c:_} (h:Z a b=some c):EqE F Z a b c
def a2g{F Z:D->D->Option Bool}{a b:D}(h:eqE F (Z a b) a b=some c):EqE F Z a b c:=
 oel h (fun _ h=>oel h (fun _ h=>.low h) fun l hl h=>oel h (fun _ h=>.low h) fun m hm h=>af8 hl▸af8 hm▸ifE h (fun h e=>.dict h e) fun h e=>dn e▸.ndict h)
  fun l hl h=>oel h (fun _ h=>.low h) fun m hm h=>b9 h fun x hx e=>e▸ye hl▸ye hm▸.tup hx
inductive Dq (prog:dm) (w:dv) (g:ah) (l:List (Str×D)):ae->Prop
 |mk {a o vs:_} (e:g.f a=some o) (d:o.IsDictOf (strKind prog w) (gy vs l)) (r:dz prog w g vs l) (y:(a==sysModules)=false):Dq prog w g l (.ref a)
def rv{g:ah}{v:ae}(q:Rep prog w g v (.dict l)):Dq prog w g l v:=by
 refine ai8 q fun a o vs ez3 e d r y=>?_;clear q;subst ez3;exact⟨e,d,r,y⟩
def Dq.same{g:ah}{v:ae}(q:Dq prog w g l v)(q':Dq prog w g m v):∃vs ws,dz prog w g vs l/\dz prog w g ws m/\gy vs l=gy ws m/\((gy vs l).map (·.1)).Nodup:=by
 induction q with
 |@mk a o vs e d r y=>
  cases q' with
  |@mk _ o' ws e' d' r' y'=>
   cases e.symm.trans e';refine⟨vs,ws,r,r',bch d d',?_⟩;refine ab9 d fun _ _ _ _ _ _ hn=>?_;clear d;exact hn
def bez{g:ah}:∀(k:Nat) (v:ae) (d d':D) (b:Bool),Rep prog w g v d->Rep prog w g v d'->jf k d d'=some b->b=true:=by
 intro k;induction k with
 |zero=>exact fun v d d' b _ _ h=>ns rfl h
 |succ k ih=>
  intro v d d' b q q' h;replace h:=a2g (Z:=ky (k+1)) h;induction h with
  |tup hh=>
   refine oEA ((lq q).same (lq q')) fun vs r r'=>?_
   exact(arp ih r r' hh).symm▸(beq_iff_eq.2 (r.length.symm.trans r'.length))
  |dict e h=>
   refine xi ((rv q).same (rv q')) fun vs ws r r' hz hn=>?_
   exact a6w ih r' r (fun k v hm=>hz▸a5m hn hm) h
  |ndict e=>
   refine xi ((rv q).same (rv q')) fun vs ws r r' hz hn=>?_
   exact absurd ((sz r).symm.trans ((congrArg pd hz).trans (sz r'))) e
  |low h=>exact a2s _ _ _ _ _ q q' h
def bcw{F:D->D->Option Bool}{g:ah}{A:az}{s:af}{vs:List ae}(hF:∀v v' d d' b,Rep prog w g v d->Rep prog w g v' d'->F d d'=some b->EqW prog w A s v v' b)(rm:dz prog w g vs m){us:List ae}{b:Bool}
  (r:dz prog w g us l) (h:acv F m l=some b):vz prog w A s (gy vs m) (gy us l) b:=by
 induction r using dz.ind generalizing b with
 |n=>exact dn h▸.nil
 |c q _ ih=>
  refine oel h (fun hn e=>dn e▸.miss (look_none rm hn)) fun d' hd h=>oEA (ajk rm hd) fun v' hv' q'=>aq h fun x hx h=>?_
  replace hx:=hF _ _ _ _ _ q q' hx;induction x with
  |true=>exact .hit hv' hx (ih h)
  |false=>exact dn h▸.no hv' hx
def bec{g:ah}{s:af}(V:∀a o,g.f a=some o->s.heap.get? a=some o):∀(k:Nat) (A:az) (v v':ae) (d d':D) (b:Bool),A.units+k<cLine->Rep prog w g v d->Rep prog w g v' d'->jf k d d'=some b ->
  RcW prog w A s v v' b/\EqW prog w A s v v' b:=by
 intro k;induction k with
 |zero=>exact fun A v v' d d' b _ _ _ h=>ns rfl h
 |succ k ih=>
  intro A v v' d d' b hu q q' h;have hu0:A.units<cLine:=O.ae8 hu;have IH:=fun v v' d d' b q q' h=>(ih A.in1 v v' d d' b (O.ae7 hu) q q' h).2
  have refs:∀{a1 a2},v=.ref a1->v'=.ref a2->RcW prog w A s v v' b->RcW prog w A s v v' b/\EqW prog w A s v v' b:=fun{a1 a2} e e' R=>
   ⟨R,by have hs:=fun q'=>bez (k+1) v d d' b q q' h;subst e e';exact EqW.refs (fun hn=>hs (hn▸q')) R⟩
  replace h:=a2g (Z:=ky (k+1)) h;induction h with
  |tup hh=>
   obtain⟨e1,r1⟩:=lq q;obtain⟨e2,r2⟩:=lq q';refine oEA (arq hh) fun f he hb=>?_
   refine refs rfl rfl ?_;have R:=RcW.tuples (e:=f) hu0 (V _ _ e1) (V _ _ e2) (els IH r1 r2 he);rw[r1.length,r2.length,hb]at R;exact R
  |dict e h=>
   obtain⟨e1,d1,r1,y1⟩:=rv q;obtain⟨e2,d2,r2,y2⟩:=rv q';exact refs rfl rfl (RcW.dicts hu0 y1 y2 (V _ _ e1) (V _ _ e2) d1 d2 ((if_pos ((sz r1).trans (e.trans (sz r2).symm))).symm▸bcw IH r2 r1 h))
  |ndict e=>
   obtain⟨e1,d1,r1,y1⟩:=rv q;obtain⟨e2,d2,r2,y2⟩:=rv q';exact refs rfl rfl (RcW.dicts hu0 y1 y2 (V _ _ e1) (V _ _ e2) d1 d2 (by rw[if_neg fun z=>e ((sz r1).symm.trans (aay z (sz r2)))]))
  |low h=>
   refine oA (bea V (k+1) A v v' _ _ _ hu q q' h) fun h1 h2=>?_
   exact⟨fun E Q hq=>h1 prog w E Q hq,fun E Q hq=>h2 prog w E Q hq⟩
def qa(G:Gl prog w)(n:Nat)(op:CmpOp)(F:D->D->Option Bool):Prop:=
 ∀⦃A g s v1 v2 d1 d2 b⦄,dy A n->SOK G g s->Rep prog w g v1 d1->jb (prog:=prog) (w:=w) g s.heap v2 d2->F d1 d2=some b->wpAny (model prog w) A (compareOp op v1 v2) (fun v s'=>v=.bool b/\∃g',Ext G g s g' s') NoE s
noncomputable def cmp(F:D->D->Option Bool)(f₁ f₂:PS->Option D):PS->Option Bool:=fun σ=>(f₁ σ).bind fun a=>(f₂ σ).bind fun b=>F a b
noncomputable def ofB(t:PS->Option Bool):PS->Option D:=fun σ=>(t σ).map .bool
variable{env:Env}{f₁ f₂:PS->Option D}{l r:al}{op:CmpOp}{σ:PS}
def a3b{F:D->D->Option Bool}{A:az}{g:ah}{s:af}{b:Bool}{K:ae->af->Prop}
  (hop:qa G n op F) (h1:Den G sc n l f₁) (h2:wa G sc n r f₂) (R:dy A n) (X:ft G sc env g s σ) (y:cmp F f₁ f₂ σ=some b) (hK:∀s' g',Ext G g s g' s'->K (.bool b) s') :
  wpAny (model prog w) A (eval l env) (fun a s₁=>wpAny (model prog w) A (eval r env) (fun c s₂=>wpAny (model prog w) A (compareOp op a c) K NoE s₂) NoE s₁) NoE s:=by
 refine aq y ?_;clear y;intro a ha y;refine aq y ?_;clear y;intro c hc y;refine e9 (h1 R X ha) (fun v1 s₁ ⟨g1,e1,q1⟩=>e9 (h2 R (X.mono e1) hc) (fun v2 s₂ ⟨g₂,e2,q2⟩=>?_) fun _ _ f=>f) fun _ _ f=>f
 refine e9 (hop R (e2.sok (e1.sok X.sok)) (q1.mono prog w e2.gle) q2 y) (fun v s' ⟨hv,g',e'⟩=>?_) fun _ _ f=>f
 subst hv;exact hK _ _ ((e1.trans e2).trans e')
variable{pos:Pos}
def ig{F:D->D->Option Bool}(hop:qa G n op F)(h1:Den G sc n l f₁)(h2:wa G sc n r f₂)
  (hm:behindInMarks op r=false:=by with_unfolding_all rfl):q6 G sc n (.Compare l [op] [r] pos) (cmp F f₁ f₂):=fun _ _ _ _ _ _ R X y=>
 wpAny_isTrue_Compare1 (wm (a3b (K:=fun c s₃=>wpAny _ _ (truthy c) (yk G _ _ _) NoE s₃) hop h1 h2 R X y fun s' g' e=>ahw ⟨rfl,g',e⟩) (fun _ _ q=>q)) hm
def afy{F:D->D->Option Bool}(hop:qa G n op F)(h1:Den G sc n l f₁)(h2:wa G sc n r f₂)
  (hm:behindInMarks op r=false:=by with_unfolding_all rfl):Den G sc n (.Compare l [op] [r] pos) (ofB (cmp F f₁ f₂)):=fun _ _ _ _ _ _ R X y=>by
 refine b9 y fun b yb e=>e▸?_
 exact wpAny_Compare1 (a3b hop h1 h2 R X yb fun s' g' e=>⟨g',e,rfl⟩) hm
noncomputable def j0(F:Int->Int->Bool)(d1 d2:D):Option Bool:=(i6 d1).bind fun a=>(i6 d2).map (F a)
theorem jb.int{g:ah}{h:bf}{v:ae}{i:Int}(q:jb (prog:=prog) (w:=w) g h v (.int i)):∃t,v=.int i t:=by
 rcases q with q|⟨a,rfl,q,_⟩
 .exact q
 .exact q.elim
def a3a{F:Int->Int->Bool}(K:∀{A s a b t u} {Q:ae->af->Prop},Q (.bool (F a b)) s->wpAny (model prog w) A (compareOp op (.int a t) (.int b u)) Q NoE s):qa G n op (j0 F):=fun A g s v1 v2 d1 d2 b _ x q1 q2 y=>by
 refine aq y fun a ha y=>b9 y fun c hc e=>?_
 replace ha:=i5 ha;replace hc:=i5 hc;subst e ha hc;refine oE q1 fun t e=>oE q2.int fun u e'=>?_
 subst e e';exact K ⟨rfl,_,Ext.refl x⟩
def aq0:qa G n .Lt (j0 fun a b=>decide (a<b)):=a3a P.lt_int
def bf9:qa G n .LtE (j0 fun a b=>decide (a<=b)):=a3a P.le_int
noncomputable def eqD:D->D->Option Bool:=jf 8
theorem bu.view{g:ah}{s:af}(x:SOK G g s){a:ai}{o:Obj}(ho:s.heap.get? a=some o)(b:ai)(o':Obj)(e:(bu g a o).f b=some o'):s.heap.get? b=some o':=
 ifE e (fun h e=>h▸e▸ho) fun _ e=>x.view _ _ e
def jb.full{g:ah}{s:af}{v:ae}(x:SOK G g s)(q:jb (prog:=prog) (w:=w) g s.heap v d):∃g1:ah,(∀a o,g1.f a=some o->s.heap.get? a=some o)/\VLe g g1/\Rep prog w g1 v d:=by
 rcases q with q|⟨a,rfl,q,hn⟩
 .exact⟨g,x.view,.refl _,q⟩
 .cases d with
  |list=>exact i3 q fun vs m e r=>⟨_,bu.view x e,bu.le hn,a,vs,m,rfl,bu.self,r.mono prog w (bu.le hn)⟩
  |dict=>exact xi q fun o' vs e dd r y=>⟨_,bu.view x e,bu.le hn,a,_,vs,rfl,bu.self,dd,r.mono prog w (bu.le hn),y⟩
  |_=>exact rj q
def l0:qa G n .Eq eqD:=fun A g s v1 v2 d1 d2 b R x q1 q2 y=>by
 refine kq (q2.full x) fun g1 hv hl q2'=>?_
 exact(bec hv 8 A v1 v2 d1 d2 b (O.ck [_,_,_] [.lt (.a (.a .x0 (.m 20 .x2)) (.c 40)) .x1] (.lt (.a .x0 (.c 8)) .x1) 11 rfl R.units) (q1.mono prog w hl) q2' y).1 _ _ ⟨rfl,g,Ext.refl x⟩
noncomputable def neL(l m:List D):Option Bool:=if m.length=0 then some (!l.isEmpty)else none
noncomputable def neD(a b:D):Option Bool:=match a with
 |.tup l=>(vn b).bind (neL l)
 |.list l=>(jg b).bind (neL l)
 |.int x=>(i6 b).map fun y=>x != y
 |.str x=>(b7 b).map fun y=>x != y
 |.hstr x=>(b7 b).map fun y=>x != y
 |.none=>none
 |.bool _=>none
 |.bytes _=>none
 |.dict _=>none
inductive NeC:D->D->Bool->Prop
 |tup (l:_):NeC (.tup l) (.tup []) (!l.isEmpty)
 |list (l:_):NeC (.list l) (.list []) (!l.isEmpty)
 |int (a b:Int):NeC (.int a) (.int b) (a != b)
 |str {a b x y:_} (hx:b7 a=some x) (hy:b7 b=some y):NeC a b (x != y)
variable{l:List D}
def a0j{m:List D}{P:List D->Bool->Prop}(h:neL l m=some c)(k:P [] (!l.isEmpty)):P m c:=
 ifS h fun h e=>e▸uk h▸k
def bas{a b:D}(h:neD a b=some c):NeC a b c:=by
 cases a with
 |tup l=>exact aq h fun _ h' h=>ye h'▸a0j (P:=fun m c=>NeC _ (.tup m) c) h (.tup l)
 |list l=>exact aq h fun _ h' h=>ua h'▸a0j (P:=fun m c=>NeC _ (.list m) c) h (.list l)
 |int=>exact b9 h fun _ h e=>e▸i5 h▸.int ..
 |str=>exact b9 h fun _ h e=>e▸.str rfl h
 |hstr=>exact b9 h fun _ h e=>e▸.str rfl h
 |_=>exact ns rfl h
def a2n{g:ah}{vs:List ae}(r:a9 prog w g vs l):(vs.length==0)=l.isEmpty:=by
 rw[r.length];cases l<;>rfl
def a9.nil{g:ah}{vs:List ae}(r:a9 prog w g vs []):vs=[]:=by
 exact uk r.length
def akg:qa G n .NotEq neD:=fun A g s v1 v2 d1 d2 b R x q1 q2 y=>by
 have hu:A.units<cLine:=by have:=R.units;exact O.ck [_,_,_] [.lt (.a (.a .x0 (.m 20 .x2)) (.c 40)) .x1] (.lt .x0 .x1) 11 rfl this
 refine kq (q2.full x) fun g1 hv hl q2'=>?_
 replace q1:=q1.mono prog w hl;replace y:=bas y;induction y with
 |tup l=>
  obtain⟨e1,r1⟩:=lq q1;obtain⟨e2,r2⟩:=lq q2';cases r2.nil;refine a4s (A:=A) (s:=s) (e:=fun _=>true) (ly (hv _ _ e1)) (ly (hv _ _ e2)) hu (fun j _ h2=>absurd h2 (oz j)) prog w _ _ ⟨?_,g,Ext.refl x⟩
  rw[<-a2n r1];simp
 |list l=>
  obtain⟨e1,r1⟩:=jy q1;obtain⟨e2,r2⟩:=jy q2';cases r2.nil;refine(a2n r1).symm▸?_
  if h0:vs.length=0 then
   refine a4p (A:=A) (s:=s) (e:=fun _=>true) (fz (hv _ _ e1)) (fz (hv _ _ e2)) h0 hu (fun j _ h2=>absurd h2 (oz j)) prog w _ _ ⟨?_,g,Ext.refl x⟩
   simp[h0]
  else
   exact a5a (A:=A) (s:=s) (fz (hv _ _ e1)) (fz (hv _ _ e2)) (bne_iff_ne.2 h0) hu prog w _ _ ⟨congrArg Value.bool (bne_iff_ne.2 h0).symm,g,Ext.refl x⟩
 |str h1 h2=>
  refine oE (gr q1 h1) fun t ez1=>?_;subst ez1;refine oE (gr q2' h2) fun u ez1=>?_;subst ez1
  exact a4r ⟨rfl,g,Ext.refl x⟩
 |int a c=>
  refine oE q1 fun t ez1=>?_;clear q1;subst ez1;refine oE q2' fun u ez1=>?_;clear q2';subst ez1
  exact a4q ⟨rfl,g,Ext.refl x⟩
noncomputable def af3(F:Bool->Bool->Bool)(a b:D):Option Bool:=(akz a).bind fun a=>(akz b).map (F a)
def bgb:qa G n .Is (af3 fun a b=>a==b):=fun A g s v1 v2 d1 d2 b R x q1 q2 y=>by
 refine aq y fun a ha y=>b9 y fun c hc e=>?_
 replace ha:=arn ha;replace hc:=arn hc;subst e ha hc;rcases q2 with q|⟨_,_,q,_⟩
 .subst q1;subst q;exact a4v ⟨rfl,g,Ext.refl x⟩
 .exact q.elim
noncomputable def inD(a b:D):Option Bool:=(mn b).elim ((jg b).bind fun l=>(b7 a).bind fun x=>(l.mapM b7).map fun ys=>ys.contains x) fun l=>(b7 a).map fun x=>(jq l x).isSome
noncomputable def od(a b:D):Option Bool:=(inD a b).map (!·)
def bbk{g:ah}{vs:List ae}{l:List (Str×D)}(r:dz prog w g vs l)(x:Str):(valueAt (gy vs l) x).isSome=(jq l x).isSome:=by
 cases h:jq l x with
 |none=>rw[look_none r h];rfl
 |some d=>refine oEA (ajk r h) fun v hv _=>?_;rw[hv];rfl
variable{ys:List Str}
def a6c{g:ah}{vs:List ae}(r:a9 prog w g vs l)(h:l.mapM b7=some ys):vs.length=ys.length/\∀j (h1:j<vs.length) (h2:j<ys.length),∃t,vs[j]=.str ys[j] t:=by
 induction r using a9.ind generalizing ys with
 |n=>cases h;exact⟨rfl,fun j h1=>absurd h1 (oz j)⟩
 |c q _ ih=>
  rw[wq]at h;refine aq h fun x hx h=>aq h fun ys' hy h=>dn h▸oA (ih hy) fun hl hj=>⟨congrArg (·+1) hl,fun j h1 h2=>?_⟩
  induction j with
  |zero=>exact gr q hx
  |succ j=>exact hj j (uh h1) (uh h2)
noncomputable def axi(k:Str):ae->Bool
 |.str z _=>z==k
 |_=>false
def bhn(k:Str){vs:List ae}(hl:vs.length=ys.length)(hj:∀j (h1:j<vs.length) (h2:j<ys.length),∃t,vs[j]=.str ys[j] t):vs.any (axi k)=ys.contains k:=by
 induction vs generalizing ys with
 |nil=>induction ys with
  |nil=>rfl
  |cons=>exact nomatch hl
 |cons v vs ih=>induction ys with
  |nil=>exact nomatch hl
  |cons z ys=>
   refine oE (hj 0 (gf _) (gf _)) fun u hu=>?_
   rw[asv,List.contains_cons,ih (aly hl) fun j h1 h2=>hj (j+1) (atv h1) (atv h2),show v=_ from hu,Bool.beq_comm (a:=k)];rfl
inductive InR (prog:dm) (w:dv) (A:az) (s:af):ae->ae->Bool->Prop
 |map {k t a f:_} (h1:(a==sysModules)=false) (h2:s.heap.MapOf (strKind prog w) a f):InR prog w A s (.str k t) (.ref a) (f k).isSome
 |list {k t a vs e:_} (h1:s.heap.IsList a vs) (h2:∀y,y∈vs->ar6 A s y (.str k t) (e y)):InR prog w A s (.str k t) (.ref a) (vs.any e)
def a1e{A:az}{g:ah}{s:af}{v1 v2:ae}{d1 d2:D}{b:Bool}(x:SOK G g s)(q1:Rep prog w g v1 d1)(q2:jb (prog:=prog) (w:=w) g s.heap v2 d2)(y:inD d1 d2=some b):InR prog w A s v1 v2 b:=by
 refine kq (q2.full x) fun g1 hv hl q2'=>oel y (fun _ y=>aq y fun l hl y=>aq y fun k hk y=>b9 y fun ys hy e=>e▸?_) fun l hl y=>b9 y fun k hk e=>e▸?_
 .refine oE (gr q1 hk) fun t ez1=>?_;subst ez1
  replace hl:=ua hl;subst hl;obtain@⟨a,vs,m,e,r⟩:=jy q2';refine oA (a6c r hy) fun hlen hj=>?_
  refine bhn k hlen hj▸Array.any_toList.symm▸.list (e:=axi k) (fz (hv _ _ e)) fun z hz=>?_
  obtain⟨j,h1,rfl⟩:=am0 (atu.1 hz);refine oE (hj j h1 (O.ai9 hlen h1)) fun u hu=>?_
  exact hu▸(amm _ _ _ _)
 .refine oE (gr q1 hk) fun t ez1=>?_;subst ez1
  replace hl:=af8 hl;subst hl;obtain@⟨a,o,vs,e,hd,r,ys⟩:=rv q2';exact bbk r k▸.map ys (ux.mpr ⟨o,hv _ _ e,hd⟩).mapOf
def aq3:qa G n .In inD:=fun A g s v1 v2 d1 d2 b R x q1 q2 y=>by
 replace y:=a1e (A:=A.in1) x q1 q2 y;induction y with
 |map h1 h2=>exact wpAny_in_of (aa2 _ _ _ _) h1 h2 ⟨rfl,g,Ext.grow (h':=s.heap) x (fun _ _ e=>e) (fm _)⟩
 |list h1 h2=>exact SeqAt.in_listAt _ h1 h2 ⟨rfl,g,Ext.refl x⟩
def akf:qa G n .NotIn od:=fun A g s v1 v2 d1 d2 b R x q1 q2 y=>by
 refine b9 y fun b' yb e=>e▸?_
 replace yb:=a1e (A:=A.in1) x q1 q2 yb;induction yb with
 |map h1 h2=>exact wpAny_notIn_of (aa2 _ _ _ _) h1 h2 ⟨rfl,g,Ext.grow (h':=s.heap) x (fun _ _ e=>e) (fm _)⟩
 |list h1 h2=>exact SeqAt.notIn_listAt _ h1 h2 ⟨rfl,g,Ext.refl x⟩
variable{d:ai}
def acd{g:ah}{s:af}(x:SOK G g s)(h:s.heap.get? d=none):d≠G.P:=by
 rintro rfl;refine i3 x.gok.hasP fun o _ e _=>?_;exact ns h e
variable{g1:ah}{h':bf}{s₁:af}
def Ext.touch{g:ah}{s:af}{tk:Nat}(X:SOK G g s)(x:Ext G g s g1 s₁)(hd:s.heap.get? d=none)(hg:g1.f d=none)(hs:pe d s₁.heap h')(ht:s₁.toks<=tk) :
  Ext G g s g1 {s₁ with heap:=h',toks:=tk} where
 gle:=x.gle
 new:=x.new
 heap:=fun a o ha e=>by
  have:a≠d:=by rintro rfl;exact ns hd e
  exact(hs.2 a this).trans (x.heap a o ha e)
 view:=fun a o e=>by
  have:a≠d:=by rintro rfl;exact ns hg e
  exact(hs.2 a this).trans (x.view a o e)
 gP:=x.gP
 gok:={
  keep:=fun a o ha e=>by
   have:a≠d:=by rintro rfl;exact ns hd (X.gok.keep _ o ha e)
   exact(hs.2 a this).trans (x.gok.keep a o ha e)
  tab:=by rw[show h'.get? G.P=s₁.heap.get? G.P from hs.2 _ (acd X hd).symm];exact x.gok.tab
  hasP:=by rw[show h'.get? G.P=s₁.heap.get? G.P from hs.2 _ (acd X hd).symm];exact x.gok.hasP}
 toks:=aw x.toks ht
 lim:=aw x.lim ht
 os:=x.os
 bare:=x.bare
 gsize:=x.gsize
 gold:=x.gold
def Ext.reveal{g:ah}{s:af}{o:Obj}(X:SOK G g s)(x:Ext G g s g1 s₁)(hd:s.heap.get? d=none)(hg:g1.f d=none)(ho:s₁.heap.get? d=some o):Ext G g s (bu g1 d o) s₁ where
 gle:=x.gle.trans (bu.le hg)
 new:=fun b o' e=>by
  delta bu at e;dsimp only at e;split at e
  .rename_i hb;subst hb;exact .inr hd
  .exact x.new b o' e
 heap:=x.heap
 view:=fun b o' e=>by
  delta bu at e;dsimp only at e;split at e
  .rename_i hb;subst hb;cases e;exact ho
  .exact x.view b o' e
 gP:=by
  delta bu;dsimp only;split
  .rename_i hb;exact absurd hb.symm (acd X hd)
  .exact x.gP
 gok:=x.gok
 toks:=x.toks
 lim:=x.lim
 os:=x.os
 bare:=x.bare
 gsize:=x.gsize
 gold:=x.gold
def Ext.out{g:ah}{s:af}(x:Ext G g s g1 s₁){o:Obj}(ho:s.heap.get? d=some o)(hg:g.f d=none):g1.f d=none:=by
 refine noS fun o' e=>?_
 refine iy (x.new d o' e) (fun h=>?_) fun h=>?_
 .exact ns hg h
 .exact ns h ho
noncomputable def toB(f:PS->Option D):PS->Option Bool:=fun σ=>(f σ).bind fun|.bool b=>some b|_=>none
variable{f:PS->Option D}
def a6a{b:Bool}(h:toB f σ=some b):f σ=some (.bool b):=by
 refine aq h ?_;clear h;intro d hd h;split at h
 .cases h;exact hd
 .cases h
variable{e:al}
def ya(h:Den G sc n e f)(he:∀env whole,isTrue e env whole=(do let v <-whole;standAt e.pos;holding [v] (truthy v)):=by intros;rfl):q6 G sc n e (toB f):=
 fun _ _ _ _ _ _ R X y=>wpAny_isTrue_value (gv (h R X (a6a y)) (fun v s₁ g1 e1 q1=>by rw[show v=_ from q1];exact ahw ⟨rfl,g1,e1⟩)) (he _ _)
noncomputable def zy(t:PS->Option Bool):PS->Option Bool:=fun σ=>(t σ).map (!·)
def a2x{t:PS->Option Bool}(h:q6 G sc n e t):q6 G sc n (.UnaryOp .Not e pos) (zy t):=fun _ _ _ _ _ _ R X y=>by
 refine b9 y fun b hb e=>e▸?_
 exact wpAny_isTrue_Not (gT (h R X hb) (fun c s₁ q g r=>⟨by rw[q],g,r⟩))
noncomputable def bx(t u:PS->Option Bool):PS->Option Bool:=fun σ=>(t σ).bind fun b=>if b then u σ else some false
noncomputable def tt:PS->Option Bool:=fun _=>some true
inductive agi (G:Gl prog w) (sc:dc) (n:Nat):List al->(PS->Option Bool)->Prop
 |nil:agi G sc n [] tt
 |cons {e es t u:_}:q6 G sc n e t->agi G sc n es u->agi G sc n (e::es) (bx t u)
variable{es:List al}
def bhr{t:PS->Option Bool}(h:agi G sc n es t):∀{A:az} {env:Env} {g:ah} {s:af} {σ:PS} {b:Bool},dy A n->ft G sc env g s σ->t σ=some b ->
  wpAny (model prog w) A (allTrue .And es env) (yk G g s b) NoE s:=by
 induction h with
 |nil=>intro A env g s σ b R X y;cases y;exact wpAny_allTrue_And_nil ⟨rfl,g,Ext.refl X.sok⟩
 |cons h1 _ ih=>
  intro A env g s σ b R X y;refine aq y ?_;clear y;intro c hc y;refine wpAny_allTrue_And_cons (gT (h1 R X hc) (fun c' s₁ q g1 e1=>?_))
  subst q;induction c' with
  |true=>exact wm (ih R (X.mono e1) y) (fun _ _ q=>q.after e1)
  |false=>cases y;exact⟨rfl,g1,e1⟩
def acy{t:PS->Option Bool}(h:agi G sc n es t):q6 G sc n (.BoolOp .And es pos) t:=fun _ _ _ _ _ _ R X y=>wpAny_isTrue_BoolOp (bhr h R X y)
inductive agl (G:Gl prog w) (sc:dc) (n:Nat):List al->(PS->Option Bool)->Prop
 |one {e t:_}:Den G sc n e (ofB t)->agl G sc n [e] t
 |cons {e e' es t u:_}:Den G sc n e (ofB t)->agl G sc n (e'::es) u->agl G sc n (e::e'::es) (bx t u)
def bgl{t:PS->Option Bool}(h:agl G sc n es t):∀{A:az} {env:Env} {g:ah} {s:af} {σ:PS} {b:Bool},dy A n->ft G sc env g s σ->t σ=some b ->
  wpAny (model prog w) A (boolOp pos .And (evalEach es env)) (bj G g s (.bool b)) NoE s:=by
 induction h with
 |one h1=>intro A env g s σ b R X y;exact h1 R X (congrArg _ (by assumption))
 |cons h1 _ ih=>
  intro A env g s σ b R X y;refine aq y ?_;clear y;intro c hc y;refine bgv (h1 R X (d:=.bool c) (by simp[ofB,hc])) (fun v s₁ g1 e1 q1=>?_)
  rw[show v=_ from q1];refine ak (ox (ak (jc (ahw ?_))));induction c with
  |true=>exact wm (ih R (X.mono e1) y) (fun _ _ q=>q.after e1)
  |false=>cases y;exact bo ⟨g1,e1,rfl⟩
def bfo{t:PS->Option Bool}(h:agl G sc n es t):Den G sc n (.BoolOp .And es pos) (ofB t):=fun _ _ _ _ _ _ R X y=>by
 refine b9 y fun b yb e=>e▸?_
 exact bgl h R X yb
noncomputable def ife(t:PS->Option Bool)(f₁ f₂:PS->Option D):PS->Option D:=fun σ=>(t σ).bind fun b=>if b then f₁ σ else f₂ σ
def aqv{c x y:al}{t:PS->Option Bool}(h:q6 G sc n c t)(h1:Den G sc n x f₁)(h2:Den G sc n y f₂):Den G sc n (.IfExp c x y pos) (ife t f₁ f₂):=fun _ _ _ _ _ _ R X y=>by
 refine aq y ?_;clear y;intro b hb y;refine wpAny_IfExp (gT (h R X hb) (fun b' s₁ q g1 e1=>?_))
 subst q;induction b' with
 |true=>exact wm (h1 R (X.mono e1) y) (fun _ _ q=>q.after e1)
 |false=>exact wm (h2 R (X.mono e1) y) (fun _ _ q=>q.after e1)
noncomputable def gg(e:al):Bool:=(assignEach [e] default).all fun p=>!p.1
def tc{r:List al}(h:gg e=true):starEach (e::r) env=(false,eval e env)::starEach r env:=by
 cases e<;>first|rfl|exact absurd h wy
inductive j1 (G:Gl prog w) (sc:dc) (n:Nat):List al->List (PS->Option D)->Prop
 |nil:j1 G sc n [] []
 |cons {e es f fs:_}:gg e=true->Den G sc n e f->j1 G sc n es fs->j1 G sc n (e::es) (f::fs)
noncomputable def evL:List (PS->Option D)->PS->Option (List D)
 |[],_=>some []
 |f::fs,σ=>(f σ).bind fun d=>(evL fs σ).map (d::·)
def cn{z0}:evL [] z0=some []:=rfl
def b0{f fs σ:_}:evL (f::fs) σ=(f σ).bind fun d=>(evL fs σ).map (d::·):=rfl
def aqn{fs:List (PS->Option D)}(h:evL fs σ=some ds):ds.length=fs.length:=by
 induction fs generalizing ds with
 |nil=>exact dn h▸rfl
 |cons f fs ih=>exact aq h fun d _ h=>b9 h fun r hr e=>e▸congrArg (·+1) (ih hr)
def j1.len{fs:List (PS->Option D)}(h:j1 G sc n es fs):es.length=fs.length:=by
 induction h with
 |nil=>rfl
 |cons _ _ _ ih=>exact congrArg _ (by assumption)
def ai2{fs:List (PS->Option D)}(h:j1 G sc n es fs)(pos:Pos)(env:Env):(backTo pos (starEach es env)).any (·.1)=false:=by
 induction h with
 |nil=>rfl
 |cons hs _ _ ih=>rw[tc hs];show(false ||_)=false;rw[asu];exact ih
inductive ar1 (G:Gl prog w) (g:ah) (s:af) (ds:List D) (vs:List ae) (s':af):Prop
 |mk (g':ah) (e:Ext G g s g' s') (q:a9 prog w g' vs ds)
def gL{G:Gl prog w}{A:az}{g:ah}{s:af}{E:ae->af->Prop}{t:Sem (List ae)}{Q:List ae->af->Prop}(h:wpAny (model prog w) A t (ar1 G g s ds) E s)(k:∀v s₁ g1,Ext G g s g1 s₁->a9 prog w g1 v ds->Q v s₁):wpAny (model prog w) A t Q E s:=wm h fun v s₁ h=>h.casesOn (k v s₁)
def aim{fs:List (PS->Option D)}(h:j1 G sc n es fs):∀{A:az} {env:Env} {g:ah} {s:af} {σ:PS} {ds:List D},dy A n->ft G sc env g s σ->evL fs σ=some ds ->
  wpAny (model prog w) A (spliced (backTo pos (starEach es env))) (ar1 G g s ds) NoE s:=by
 induction h with
 |nil=>intro A env g s σ ds R X y;cases y;exact bo ⟨g,Ext.refl X.sok,trivial⟩
 |cons hs h1 _ ih=>
  intro A env g s σ ds R X y;refine aq y ?_;clear y;intro d hd y;refine b9 y fun r hr e=>e▸?_
  refine(tc hs)▸?_;refine ju ?_;refine gv (h1 R X hd) (fun v s₁ g1 e1 q1=>gL (ih R (X.mono e1) hr) (fun vs s₂ g₂ e2 q2=>⟨g₂,e1.trans e2,?_⟩))
  exact⟨q1.mono prog w e2.gle,q2⟩
noncomputable def tup(fs:List (PS->Option D)):PS->Option D:=fun σ=>(evL fs σ).map .tup
noncomputable def lst(fs:List (PS->Option D)):PS->Option D:=fun σ=>(evL fs σ).map .list
def jz{fs:List (PS->Option D)}(h:j1 G sc n es fs)(hz:fs.length<=1000:=by decide):Den G sc n (.Tuple es k pos) (tup fs):=fun _ _ _ _ _ _ R X y=>by
 refine b9 y fun ds hd e=>e▸?_
 refine Tuple_ (gL (aim h R X hd) (fun vs s₁ g1 e1 q1=>?_))
 have X1:=e1.sok X.sok;have hl:vs.length<=sizeLine:=by exact q1.length▸(aqn hd)▸(aw hz (by decide))
 refine al9 (bj.after e1 ?_) hl;refine bj.newObj X1 (dq _) (dw _ rfl) (fun b o e=>b4 _ e) ?_
 exact⟨_,vs,0,rfl,by rw[bu.self];rfl,q1.mono prog w (bu.le (gu X1 (dq _)))⟩
def afw{fs:List (PS->Option D)}(h:j1 G sc n es fs)(hz:fs.length<=1000:=by decide):Den G sc n (.List es pos) (lst fs):=fun _ _ _ _ _ _ R X y=>by
 refine b9 y fun ds hd e=>e▸?_
 refine List_ (gL (aim h R X hd) (fun vs s₁ g1 e1 q1=>?_))
 have X1:=e1.sok X.sok;have hl:vs.length<=sizeLine:=by exact q1.length▸(aqn hd)▸(aw hz (by decide))
 refine al5 (bj.after e1 ?_) hl;refine bj.newObj X1 (dq _) (dw _ rfl) (fun b o e=>b4 _ e) ?_
 exact⟨_,vs,0,rfl,by rw[bu.self];rfl,q1.mono prog w (bu.le (gu X1 (dq _)))⟩
noncomputable def r6:PS->Option D:=fun _=>some (.dict [])
def ajx:({cls:=.type "dict",data:=.dict #[]}:Obj).IsDictOf (strKind prog w) []:=⟨#[],0,⟨rfl,rfl,rfl⟩,rfl,fun _ h=>by simp at h,.nil,qb⟩
def aj2{g:ah}{s:af}(x:SOK G g s):(s.heap.objs.size==sysModules)=false:=by
 have h0:=x.gok.nb.lt;have:cStatics<s.heap.objs.size:=let⟨mc,h,_⟩:=x.gok.lim;h.lt;rw[show cStatics=2 from rfl]at this;rw[beq_eq_false_iff_ne];intro h;rw[h]at this;exact absurd this (by decide)
def akb:Den G sc n (.Dict [] [] pos) r6:=fun _ _ g s _ _ R X y=>by
 cases y;refine att ?_;refine bj.newObj X.sok (dq _) (dw _ rfl) (fun b o e=>b4 _ e) ?_
 exact⟨_,_,[],rfl,bu.self,ajx,trivial,aj2 X.sok⟩
noncomputable def tw(k v:PS->Option D):PS->Option D:=fun σ=>(k σ).bind fun kd=>(b7 kd).bind fun x=>(v σ).map fun d=>.dict [(x,d)]
def aqx{k v:al}(h1:Den G sc n k f₁)(h2:Den G sc n v f₂):Den G sc n (.Dict [some k] [v] pos) (tw f₁ f₂):=fun A env g s σ d R X y=>by
 refine aq y ?_;clear y;intro kd hk y;refine aq y ?_;clear y;intro x hx y;refine b9 y fun vd hv e=>e▸?_
 let v':Sem ae:=do let x <-eval v env;standAt pos;pure x
 refine wpAny_Dict_pairs (knd:=strKind prog w) (pairs:=[(eval k env,v')]) rfl nofun (gf _) ?_;have E0:Ext G g s g {s with heap:=s.heap.push {cls:=.type "dict",data:=.dict #[]}}:=Ext.grow X.sok (fun b o e=>b4 _ e) (ay _)
 have X0:=X.mono E0;have hd0:(s.heap.push {cls:=.type "dict",data:=.dict #[]}).get? s.heap.objs.size=some {cls:=.type "dict",data:=.dict #[]}:=dw _ rfl;have hg0:g.f s.heap.objs.size=none:=gu X.sok (dq _);refine evalPairs_cons (gv (h1 R X0 hk) (fun kv s₁ g1 e1 q1=>?_))
 refine bgv (h2 R (X0.mono e1) hv) (fun vv s₂ g₂ e2 q2=>?_)
 refine ak (ox (bo (evalPairs_nil ?_)));have e:=(e1.trans e2);refine oE (gr q1 hx) fun t ez1=>?_;subst ez1
 refine⟨[(x,vv)],⟨aa2 _ _ _ _,rfl,trivial⟩,ux.mpr ⟨_,(e.heap _ _ (acd X.sok (dq s.heap)) hd0),ajx⟩,fun h' hD hs=>?_⟩
 refine oEA (ux.mp hD) fun o ho hio=>?_
 have hg2:g₂.f s.heap.objs.size=none:=e.out hd0 hg0;refine⟨_,((E0.trans e).touch X.sok (h':=h') (tk:=s₂.toks+1) (dq _) (e.out hd0 hg0) hs (fm _)).reveal X.sok (dq _) hg2 ho,?_⟩;exact⟨_,o,[vv],rfl,bu.self,hio,⟨q2.mono prog w (bu.le hg2),trivial⟩,aj2 X.sok⟩
variable{slice:al}
def a6x{A:az}{s:af}{o i:ae}{E:ae->af->Prop}(h:wpAny (model prog w) A (getItem o i) Q E s):wpAny (model prog w) A (subscripted slice false o i) Q E s:=by
 cases slice with
 |Slice a b c p=>cases c<;>exact wpAny_operate' h
 |_=>exact wpAny_operate' h
def ac6(s:af)(v:ae):Prop:=∃T id,s.TypeIs v T/\typeLookup (.type T) "__getitem__" = pure (some (.builtin id))
def bac{A:az}{s:af}{v:ae}{Q:Bool->af->Prop}{E:ae->af->Prop}(h:ac6 s v)(q:Q false s):wpAny (model prog w) A (getitemInPython v) Q E s:=by
 refine i3 h fun T id hT hl=>?_;clear h
 delta getitemInPython;exact ak (ame hT hl (bo q))
variable{value:al}
def axs{A:az}{s:af}{E:ae->af->Prop}
  (h:wpAny (model prog w) A (eval value env) (fun o s₁=>wpAny (model prog w) A (eval slice env) (fun i s₂=>ac6 s₂ o/\wpAny (model prog w) A (getItem o i) Q E s₂) E s₁) E s) :
  wpAny (model prog w) A (eval (.Subscript value slice pos) env) Q E s:=by
 rw[eval_Subscript];refine ak (e9 h (fun o s₁ h1=>ak (jc (wm h1 (fun i s₂ ⟨ht,h2⟩=>ak (ox ?_))))) fun _ _ f=>f)
 refine ak (bac ht ?_);refine ak (a6x (wm h2 (fun r s₃ h3=>?_)))
 exact ak (wpAny_letTemporaryGo (bo h3))
noncomputable def aqc(x:Str)(k:D):Option D:=(i6 k).bind fun i=>if fitsSsize i=true/\(Txt.charAt x i).isSome=true then some (.hstr (Txt.item x i))else none
noncomputable def aqd(l:List D)(k:D):Option D:=(i6 k).bind fun i=>if 0<=i then l[i.toNat]? else none
noncomputable def getD(d k:D):Option D:=match d with
 |.list l=>aqd l k
 |.tup l=>aqd l k
 |.dict l=>(b7 k).bind (jq l)
 |.str x=>aqc x k
 |.hstr x=>aqc x k
 |.none=>none
 |.bool _=>none
 |.int _=>none
 |.bytes _=>none
inductive ac9:D->D->D->Prop
 |list {l j r:_} (h0:0<=j) (h:l[j.toNat]?=some r):ac9 (.list l) (.int j) r
 |tup {l j r:_} (h0:0<=j) (h:l[j.toNat]?=some r):ac9 (.tup l) (.int j) r
 |dict {l k z r:_} (hz:b7 k=some z) (h:jq l z=some r):ac9 (.dict l) k r
 |str {d z i:_} (hz:b7 d=some z) (hc:fitsSsize i=true/\(Txt.charAt z i).isSome=true):ac9 d (.int i) (.hstr (Txt.item z i))
variable{r:D}
def a1p{k:D}{P:Prop}(h:aqd l k=some r)(q:∀j,k=.int j->0<=j->l[j.toNat]?=some r->P):P:=
 aq h fun j hj h=>ifE h (q j (i5 hj)) fun _ h=>ns rfl h
variable{d:D}
def a1o{k:D}(hx:b7 d=some x)(h:aqc x k=some r):ac9 d k r:=
 aq h fun _ hj h=>i5 hj▸ifS h fun h e=>e▸.str hx h
def bc8{k:D}(h:getD d k=some r):ac9 d k r:=by
 cases d with
 |list l=>exact a1p h fun j e h0 h=>e▸.list h0 h
 |tup l=>exact a1p h fun j e h0 h=>e▸.tup h0 h
 |dict l=>exact aq h fun z hz h=>.dict hz h
 |str x=>exact a1o rfl h
 |hstr x=>exact a1o rfl h
 |_=>exact ns rfl h
inductive HL (prog:dm) (w:dv) (g:ah) (h:bf) (l:List D):ae->Prop
 |mk {a vs m:_} (e:h.get? a=some (c8 "list" vs m)) (r:a9 prog w g vs l):HL prog w g h l (.ref a)
def ara{g:ah}{v:ae}(V:∀a o,g.f a=some o->h.get? a=some o)(q:jb (prog:=prog) (w:=w) g h v (.list l)):HL prog w g h l v:=by
 rcases q with q|⟨a,rfl,q,_⟩
 .exact(jy q).casesOn fun e r=>⟨V _ _ e,r⟩
 .exact i3 q fun _ _ e r=>⟨e,r⟩
theorem jb.str{g:ah}{h:bf}{v:ae}{d:D}{x:Str}(q:jb (prog:=prog) (w:=w) g h v d)(hz:b7 d=some x):∃t,v=.str x t:=by
 rcases q with q|⟨_,_,q,_⟩
 .exact gr q hz
 .cases d with
  |str=>exact q.elim
  |hstr=>exact q.elim
  |_=>exact ns rfl hz
theorem jb.tup{g:ah}{h:bf}{v:ae}{l:List D}(q:jb (prog:=prog) (w:=w) g h v (.tup l)):Sq prog w g "tuple" l v:=by
 rcases q with q|⟨_,_,q,_⟩
 .exact lq q
 .exact q.elim
inductive HD (prog:dm) (w:dv) (g:ah) (h:bf) (l:List (Str×D)):ae->Prop
 |mk {a o vs:_} (e:h.get? a=some o) (d:o.IsDictOf (strKind prog w) (gy vs l)) (r:dz prog w g vs l):HD prog w g h l (.ref a)
theorem jb.dict{g:ah}{s:af}{v:ae}{l:List (Str×D)}(x:SOK G g s)(q:jb (prog:=prog) (w:=w) g s.heap v (.dict l)):HD prog w g s.heap l v:=by
 rcases q with q|⟨a,rfl,q,_⟩
 .exact(rv q).casesOn fun e d r _=>⟨x.view _ _ e,d,r⟩
 .exact xi q fun _ _ e d r _=>⟨e,d,r⟩
variable{α:Type}
def a7t{l:List α}{j:Int}(h0:0<=j)(hi:j.toNat<l.length):seqIndex? j l.toArray.size=some j.toNat:=by
 unfold seqIndex?;dsimp only[ko];simp[h0,(aa3.2 h0:¬j<0),((asi h0).1 hi:j<_)]
def a1q{A:az}{g:ah}{s:af}{v i:ae}{k:D}(x:SOK G g s)(q:jb (prog:=prog) (w:=w) g s.heap v d)(qi:Rep prog w g i k)(y:getD d k=some r)
  (hsz:∀l j,d=.list l\/d=.tup l->k=.int j->j<2 ^ 63) :
  ac6 s v/\wpAny (model prog w) A (getItem v i) (bj G g s r) NoE s:=by
 replace y:=bc8 y;induction y with
 |@list l j _ h0 h=>
  refine oE qi fun t ez1=>?_;subst ez1
  obtain⟨e,rl⟩:=ara x.view q;refine oEA (rl.get h) fun u hu qu=>?_
  exact⟨⟨"list",_,⟨_,e,rfl⟩,av3.lookup⟩,wpAny_getItem_list (fz e) h0 (hsz l j (.inl rfl) rfl) (am2▸hu) (bj.same x qu)⟩
 |@tup l j _ h0 h=>
  refine oE qi fun t ez1=>?_;subst ez1
  obtain⟨e,rl⟩:=q.tup;refine oEA (rl.get h) fun u hu qu=>?_
  refine oE (anb.mp hu) fun hi _=>?_
  have e':=x.view _ _ e;exact⟨⟨"tuple",_,⟨_,e',rfl⟩,ah8.lookup⟩,a49 (j:=j.toNat) (ly e') (wk (by decide) h0) (hsz l j (.inr rfl) rfl) (a7t h0 hi) (am2▸hu) (bj.same x qu)⟩
 |@dict l _ z _ hz h=>
  refine oE (gr qi hz) fun t ez1=>?_;subst ez1
  obtain@⟨a,o,vs,e,hd,rl⟩:=q.dict x;refine oEA (ajk rl h) fun u hu qu=>?_
  exact⟨⟨"dict",_,⟨_,e,let⟨_,_,h,_⟩:=hd;h.1⟩,slot_dict_getitem.lookup⟩,wpAny_getItem_of (aa2 _ _ _ _) (ux.mpr ⟨o,e,hd⟩).mapOf hu (bj.tok x qu)⟩
 |@str _ z i hz hc=>
  refine oE (q.str hz) fun t ez1=>?_;subst ez1
  refine oE qi fun u ez1=>?_;subst ez1
  exact⟨⟨"str",_,n4 _ _ _,avy.lookup⟩,SB.getItem hc.1 hc.2 (bj.up x ⟨_,rfl,x.toks,abf _⟩ (fm _))⟩
noncomputable def ae3(d:D):Bool:=@D.casesOn (fun _=>Bool) d true (fun _=>true) (fun j=>decide (j<2 ^ 63)) (fun _=>true) (fun _=>true) (fun _=>true) (fun _=>true) (fun _=>true) (fun _=>true)
noncomputable def g8(d k:D):Option D:=if ae3 k=true then getD d k else none
def bc7(l:List (Str×D))(x:Str):g8 (.dict l) (.str x)=jq l x:=rfl
def aqe(l:List (Str×D))(x:Str):g8 (.dict l) (.hstr x)=jq l x:=rfl
noncomputable def sub(f₁ f₂:PS->Option D):PS->Option D:=bin g8 f₁ f₂
def jb.ext{g:ah}{s:af}{v:ae}(x:SOK G g s)(e:Ext G g s g1 s₁)(q:jb (prog:=prog) (w:=w) g s.heap v d):jb (prog:=prog) (w:=w) g1 s₁.heap v d:=by
 rcases q with q|⟨c,e',q,hc⟩
 .exact .inl (q.mono prog w e.gle)
 .exact oE q.here fun oc hoc=>.inr ⟨c,e',q.mono e.gle fun o ho=>e.heap c o (q.ne_P x.gok) ho,e.out hoc hc⟩
def el{idx:al}(h₁:wa G sc n value f₁)(h₂:Den G sc n idx f₂):Den G sc n (.Subscript value idx pos) (sub f₁ f₂):=fun A _ _ _ _ _ R X y=>by
 refine aq y fun a ha y=>aq y fun b hb y=>ifE y (fun hk y=>?_) fun _ y=>ns rfl y
 refine axs (gB (h₁ R X ha) fun o s₁ g1 e1 q1=>gv (h₂ R (X.mono e1) hb) fun i s₂ g₂ e2 q2=>?_)
 have X1:=e1.sok X.sok;refine oA (a1q (A:=A) (e2.sok X1) (q1.ext X1 e2) q2 y (fun l j _ hj=>of_decide_eq_true ((congrArg ae3 hj).symm.trans hk))) fun h1 h2=>?_
 exact⟨h1,wm h2 (fun _ _ z=>(z.after e2).after e1)⟩
inductive yo (G:Gl prog w) (sc:dc) (n:Nat):Option al->(PS->Option (Option Int))->Prop
 |none:yo G sc n none (fun _=>some none)
 |some {e f:_}:Den G sc n e f->yo G sc n (some e) (fun σ=>(f σ).bind fun d=>(i6 d).map some)
def aov{e:Option al}{t:PS->Option (Option Int)}(h:yo G sc n e t){A:az}{g:ah}{s:af}{k:Option Int}(R:dy A n)(X:ft G sc env g s σ)(y:t σ=some k)
  (K:∀p s' g',p.map (·.1)=k->Ext G g s g' s'->Q (partValue p) s'):wpAny (model prog w) A (evalPart e env) Q NoE s:=by
 induction h with
 |none=>exact bo (K none s g (dn y) (Ext.refl X.sok))
 |some h=>
  refine aq y fun d hd y=>b9 y fun i hi e=>?_
  replace hi:=i5 hi;subst hi;exact gv (h R X hd) fun v s' g' e' q=>oE q fun t q=>q▸K (some (i,t)) s' g' e e'
noncomputable def pickL(l:List α)(lo hi st:Option Int):List α:=
 (sliceRange (sliceBounds lo hi st l.length).1 (sliceBounds lo hi st l.length).2.1 (sliceBounds lo hi st l.length).2.2).filterMap (l[·]?)
def a9.pick{g:ah}{vs:List ae}(r:a9 prog w g vs ds)(is:List Nat):a9 prog w g (is.filterMap (vs[·]?)) (is.filterMap (ds[·]?)):=by
 induction is with
 |nil=>trivial
 |cons i is ih=>
  refine if h:i<ds.length then ?_ else ?_
  .have h':i<vs.length:=r.length▸h;rw[avx (gq h),avx (gq h')];exact⟨r.getElem h' h,ih⟩
  .rw[avw (ah6 (gi.1 h)),avw (ah6 (r.length▸gi.1 h))];exact ih
theorem a9.pickL{g:ah}{vs:List ae}{ds:List D}(r:a9 prog w g vs ds)(lo hi st:Option Int):a9 prog w g (pickL vs lo hi st) (pickL ds lo hi st):=by
 delta Mine.pickL;exact r.length▸(r.pick _)
theorem a9.take{g:ah}{vs:List ae}{ds:List D}(k:Nat)(r:a9 prog w g vs ds):a9 prog w g (vs.take k) (ds.take k):=by
 induction r using a9.ind generalizing k with
 |n=>cases k<;>trivial
 |c q _ ih=>induction k with
  |zero=>trivial
  |succ k=>exact⟨q,ih k⟩
noncomputable def an1(x:Str)(lo hi st:Option Int):Option D:=if st=none/\x.length<=sizeLine then some (.str (qj x lo hi))else none
noncomputable def a7r(l:List D)(lo hi st:Option Int):Option D:=if lo=none/\st=none then hi.bind fun b=>if 0<=b/\b<l.length/\l.length<=sizeLine then some (.tup (l.take b.toNat))else none else none
noncomputable def jl(d:D)(lo hi st:Option Int):Option D:=match d with
 |.list l=>if l.length<=sizeLine/\st≠some 0 then some (.list (pickL l lo hi st))else none
 |.tup l=>a7r l lo hi st
 |.str x=>an1 x lo hi st
 |.hstr x=>an1 x lo hi st
 |.none=>none
 |.bool _=>none
 |.int _=>none
 |.bytes _=>none
 |.dict _=>none
def bhv(b n:Nat)(hb:b<=n):a46 none (some (b:Int)) 1 (n:Int)=(0,(b:Int)):=
 congrArg (Prod.mk (0:Int)) ((if_neg (aa3.2 (uf b))).trans (ate (km.2 hb)))
def a9c(b:Nat):av2 0 (b:Int) 1=b:=by
 induction b with
 |zero=>rfl
 |succ b=>
  refine(congrArg Int.toNat ((if_pos (Int.natCast_pos.2 (gf b))).trans ?_)).trans (abl _);rw[ash,Int.sub_zero,Int.sub_add_cancel]
def ap7(p:Option (Int×Tok)):IsPart (partValue p) (p.map (·.1)):=by
 rcases p with _|⟨i,t⟩
 .exact .none
 .exact .int i t
variable{u:Option (Int×Tok)}
def a7p{t:Tok}{l:Option (Int×Tok)}{s:af}(hz:x.length<=sizeLine)
  (h:∀t' k,s.toks<=k->Q (.str (qj x (l.map (·.1)) (u.map (·.1))) t') {s with toks:=k}):(sliceMade x t l u none).post Q s:=by
 have hle:=Txt.slice_le x (l.map (·.1)) (u.map (·.1));unfold qj at h hle;delta sliceMade slicePicked;generalize hI:av9 (l.map (·.1)) (u.map (·.1)) 1 x.length=I at h hle;refine(hI:av9 (l.map (·.1)) (u.map (·.1)) ((o9 (fun x:Int×Tok=>x.1) none).getD 1) x.length=I)▸?_
 refine if hc:((1:Int)==1 && I.length==x.length)=true then ?_ else ?_
 .have hc':(((o9 (fun x:Int×Tok=>x.1) none).getD 1==1) && I.length==x.length)=true:=hc
  refine(if_pos hc')▸?_;have h':=h t s.toks (ay _);replace h':=(if_pos hc).symm▸h';exact h'
 .have hc':¬(((o9 (fun x:Int×Tok=>x.1) none).getD 1==1) && I.length==x.length)=true:=hc
  refine(if_neg hc')▸?_;have h':=h s.toks (s.toks+1) (fm _);rw[if_neg hc]at h' hle;exact⟨aw hle hz,h'⟩
variable{m:Nat}
def a54{A:az}{g:ah}{s:af}{sl:ai}{vs:List ae}{t:Tok}(x:SOK G g s)(e:g.f a=some (c8 "tuple" vs m))(rl:a9 prog w g vs ds)
  (hs:s.heap.IsSlice sl none (some ((k:Int),t)) none) (hk:k<vs.length) (hz:vs.length<=sizeLine) :
  ac6 s (.ref a)/\wpAny (model prog w) A (getItem (.ref a) (.ref sl)) (bj G g s (.tup (ds.take k))) NoE s:=by
 have e':=x.view _ _ e;have ht:=ly e';refine kq (id hs) fun os hos hcs hds=>?_
 have hpick:((ed k).filterMap fun(j:Nat)=>vs.toArray[((0:Int)+(j:Int) * 1).toNat]?)=vs.take k:=by
  have h0:=pick_run vs.toArray 0 k;simp only[List.filterMap_map,al8]at h0;refine h0.symm▸?_;refine congrArg (as7 · _) (funext fun j=>?_)
  rw[alv,aa7];exact congrArg (vs.toArray[·]?) (sv j).symm
 have fin:bj G g s (.tup (ds.take k)) (.ref s.heap.objs.size) {s with heap:=s.heap.push {cls:=.type "tuple",data:=.seq (vs.take k).toArray}}:=by
  refine bj.newObj x (dq _) (dw _ rfl) (fun b o e=>b4 _ e) ?_
  exact⟨_,vs.take k,0,rfl,bu.self,(rl.take k).mono prog w (bu.le (gu x (dq _)))⟩
 refine⟨⟨"tuple",_,⟨_,e',rfl⟩,ah8.lookup⟩,jc (ak (wpAny_sequenceKey ht.typeIs (by decide) ?_))⟩
 refine ak (sq (name:=aj "__getitem__") ht.typeIs ah8
  (m0 ah8 ht.typeIs PySem.F.entry_tuple_getitem ?_ (PySem.F.args_tuple_getitem_2 _ _)))
 show wpAny _ _ (a48 (.ref a) >>= _) _ _ s;refine ak (tupleItemsOf_ ht (ak (alx (⟨os,hos,hcs⟩:s.TypeIs (.ref sl) "slice") ?_)));rw[if_pos (by decide)]
 refine ak (ak (ak (kh hos hds (x:=.none) rfl (ak (kh hos hds (x:=.int k t) rfl (ak (kh hos hds (x:=.none) rfl (bo ?_))))))));refine ak (slicePart_none ?_);rw[if_neg (by decide)]
 refine ak (slicePart_none (ak (slicePart_int (bP ?_))));refine((bhv k vs.toArray.size (sx hk)))▸?_;show wpAny _ _ (pure ((0:Int),(1:Int),av2 0 (k:Int) 1)) _ _ s;rw[a9c];refine bo ?_;show wpAny _ _ (if((0:Int)==0 && (1:Int)==1 && k==vs.toArray.size)=true then _ else _) _ _ s
 rw[(beq_eq_false_iff_ne.2 (k8 hk):(k==vs.toArray.size)=false),as6,if_neg (by decide)]
 refine hpick▸?_;exact ak (m:=a42 _) (rd (bo ⟨_,rfl,bo fin⟩) (aw (List.length_take_le _ _) (aw (sx hk) hz):sizeOk (.seq (vs.take k).toArray)))
variable{z:Str}
def axh{A:az}{g:ah}{s:af}{v:ae}{sl:ai}{l st:Option (Int×Tok)}(x:SOK G g s)(q:jb (prog:=prog) (w:=w) g s.heap v d)(hd:b7 d=some z)
  (hs:s.heap.IsSlice sl l u st) (y:an1 z (l.map (·.1)) (u.map (·.1)) (st.map (·.1))=some r) :
  ac6 s v/\wpAny (model prog w) A (getItem v (.ref sl)) (bj G g s r) NoE s:=by
 refine oE (q.str hd) fun t ez1=>ifS y fun hc ez0=>?_
 replace hc:=And.intro (am6.1 hc.1) hc.2;exact ez1▸ez0▸⟨⟨"str",_,n4 _ _ _,avy.lookup⟩,wpAny_getItem_str_slice (hc.1▸hs) rfl (a7p hc.2 fun t' k ht=>bj.tok x ve ht)⟩
def bc6{A:az}{g:ah}{s:af}{v:ae}{sl:ai}{l st:Option (Int×Tok)}(x:SOK G g s)(q:jb (prog:=prog) (w:=w) g s.heap v d)
  (hs:s.heap.IsSlice sl l u st) (y:jl d (l.map (·.1)) (u.map (·.1)) (st.map (·.1))=some r) :
  ac6 s v/\wpAny (model prog w) A (getItem v (.ref sl)) (bj G g s r) NoE s:=by
 cases d with
 |list ds=>
  refine ifS y fun hz ez0=>ez0▸?_
  obtain⟨e,rl⟩:=ara x.view q;refine⟨⟨"list",_,⟨_,e,rfl⟩,av3.lookup⟩,wpAny_getItem_list_slice (fz e) hs (ap7 l) (ap7 u) (ap7 st) hz.2 ?_ (ko.symm▸rl.length.symm▸hz.1)⟩;refine bj.newObj x (dq _) (dw _ rfl) (fun b o e=>b4 _ e) ⟨_,pickL _ (l.map (·.1)) (u.map (·.1)) (st.map (·.1)),0,rfl,?_,(rl.pickL _ _ _).mono prog w (bu.le (gu x (dq _)))⟩
  rw[bu.self];simp only[c8,slicePick,Mine.pickL,ko,am2]
 |tup ds=>
  refine ifE y (fun hc y=>a9v y fun p hp y=>ifS y fun hz ez0=>?_) fun _ y=>ns rfl y
  obtain⟨e,rl⟩:=q.tup;refine oE (Int.eq_ofNat_of_zero_le hz.1) fun k ez1=>?_
  have h1:=am6.1 hc.1;have h2:=am6.1 hc.2;obtain⟨i,t⟩:=p;subst h1 h2 hp ez0;replace ez1:i=k:=ez1;subst ez1;exact a54 x e rl hs (rl.length▸mx.1 hz.2.1) (rl.length▸hz.2.2)
 |str z=>exact axh x q rfl hs y
 |hstr z=>exact axh x q rfl hs y
 |_=>exact ns rfl y
def aoo{g:ah}{s:af}(x:SOK G g s)(o:Obj):Ext G g s g {s with heap:=s.heap.push o}:=
 Ext.grow (tk:=s.toks) x (fun _ _ e=>b4 _ e) (ay _)
noncomputable def sl(f:PS->Option D)(lo hi st:PS->Option (Option Int)):PS->Option D:=fun σ=>(f σ).bind fun d=>(lo σ).bind fun a=>(hi σ).bind fun b=>(st σ).bind fun c=>jl d a b c
variable{p:Pos}
def xw{lower upper step:Option al}{lo hi st:PS->Option (Option Int)}(h:wa G sc n value f)(h1:yo G sc n lower lo)(h2:yo G sc n upper hi)(h3:yo G sc n step st) :
  Den G sc n (.Subscript value (.Slice lower upper step p) pos) (sl f lo hi st):=fun A _ _ _ _ _ R X y=>by
 refine aq y fun d hd y=>aq y fun a ha y=>aq y fun b hb y=>aq y fun c hc y=>?_
 refine axs (gB (h R X hd) fun o s₁ g1 e1 q1=>wpAny_Slice ?_)
 have X1:=X.mono e1;refine aov h1 R X1 ha fun pl s₂ g₂ hl e2=>aov h2 R (X1.mono e2) hb fun pu s₃ g3 hu e3=>aov h3 R ((X1.mono e2).mono e3) hc fun pt s4 g4 ht e4=>?_
 subst hl hu ht;have e:=(e2.trans e3).trans e4;have S4:=e.sok X1.sok;have e5:=aoo S4 {cls:=.type "slice",data:=.fields #[partValue pl,partValue pu,partValue pt]};refine oA (bc6 (A:=A) (e5.sok S4) (q1.ext X1.sok (e.trans e5)) ⟨_,dw _ rfl,rfl,rfl⟩ y) fun k1 k2=>?_
 exact⟨k1,wm k2 (fun _ _ z=>((z.after e5).after e).after e1)⟩
noncomputable def s6:List (Str×ae):=[("len",.builtin "len"),("sum",.builtin "sum"),("chr",.builtin "chr"),("isinstance",.builtin "isinstance"),
 ("zip",.type "zip"),("enumerate",.type "enumerate"),("range",.type "range"),("str",.type "str"),("int",.type "int"),("tuple",.type "tuple")]
def ey(G:Gl prog w):Prop:=∀p∈s6,G.mg p.1=none/\G.mb p.1=some p.2
def m9{A:az}{g:ah}{s:af}{v:ae}{E:ae->af->Prop}(X:ft G sc env g s σ)(hx:sc.names.lookup x=some .globalImplicit)
  (hd:(x==("__debug__" : Str))=false) (hv:G.mg x=some v\/(G.mg x=none/\G.mb x=some v)) (q:Q v s):wpAny (model prog w) A (eval (.Name x pos) env) Q E s:=by
 refine ag4 ?_ hd;refine(loadName_read X.kind (X.glob x hx))▸?_;have hg:s.heap.Ns env.globals G.mg:=by exact X.globals▸X.sok.gok.ns
 rcases hv with hv|⟨hm,hv⟩
 .exact Calls.loadGlobal_global hg hv q
 .exact Calls.loadGlobal_builtin hg hm (by rw[X.builtins];exact X.sok.gok.nb) hv q
def af9{f:ae}{fs:List (PS->Option D)}(h:j1 G sc n es fs){A:az}{g:ah}{s:af}(R:dy A n)(X:ft G sc env g s σ)(y:evL fs σ=some ds) :
  wpAny (model prog w) A (evalArgs f true (backTo pos (starEach es env)) []) (fun a s'=>a.kw=[]/\ar1 G g s ds a.pos s') NoE s:=by
 induction h with
 |nil=>cases y;exact aum ⟨rfl,g,Ext.refl X.sok,trivial⟩
 |cons hs h1 hr=>
  have H:=aim (pos:=pos) (j1.cons hs h1 hr) R X y;rw[tc hs]at H |-;exact qf (wm H (fun vs s' q=>⟨rfl,q⟩))
def aau(G:Gl prog w)(n:Nat)(fv:ae)(F:List D->Option D):Prop:=
 ∀⦃A g s vs ds d⦄,dy A n->SOK G g s->a9 prog w g vs ds->F ds=some d->wpAny (model prog w) A (call fv vs) (bj G g s d) NoE s
noncomputable def ao(F:List D->Option D)(fs:List (PS->Option D)):PS->Option D:=fun σ=>(evL fs σ).bind F
variable{np:Pos}
def afz{id:String}{F:List D->Option D}{fs:List (PS->Option D)}(B:ey G)(hf:aau G n (.builtin id) F)(h:j1 G sc n es fs)
  (hx:sc.names.lookup x=some .globalImplicit) (hd:(x==("__debug__" : Str))=false) (hb:(x,ass id)∈s6):Den G sc n (.Call (.Name x np) es [] pos) (ao F fs):=fun _ _ _ _ _ _ R X y=>by
 refine aq y ?_;clear y;intro ds hds y;refine uy (m9 X hx hd (.inr (B _ hb)) ?_);refine ug (ai2 h pos _) (wm (af9 h R X hds) (fun a s₁ ⟨hk,g1,e1,q1⟩=>?_))
 rw[hk,ix];exact wm (hf R (e1.sok X.sok) q1 y) (fun _ _ z=>z.after e1)
def be2{T:String}{F:List D->Option D}{fs:List (PS->Option D)}(B:ey G)(hf:aau G n (.type T) F)(h:j1 G sc n es fs)
  (hx:sc.names.lookup x=some .globalImplicit) (hd:(x==("__debug__" : Str))=false) (hb:(x,ag3 T)∈s6):Den G sc n (.Call (.Name x np) es [] pos) (ao F fs):=fun _ _ _ _ _ _ R X y=>by
 refine aq y ?_;clear y;intro ds hds y;refine uy (m9 X hx hd (.inr (B _ hb)) ?_);refine abp (ai2 h pos _) (wm (af9 h R X hds) (fun a s₁ ⟨hk,g1,e1,q1⟩=>?_))
 rw[hk,ix];exact wm (hf R (e1.sok X.sok) q1 y) (fun _ _ z=>z.after e1)
def d9(G:Gl prog w)(n:Nat)(x:Str)(F:List D->Option D):Prop:=
 ∃a o fd,G.mg x=some (.ref a)/\a≠G.P/\G.hB.get? a=some o/\o.data=.func fd/\aau G n (.ref a) F
def dy.down{A:az}(h:m<=n)(R:dy A n):dy A m:=⟨R.hh,by have:=R.depth;exact O.azv h this,by have:=R.units;exact O.azu h this⟩
def vj{F:List D->Option D}{fs:List (PS->Option D)}(hf:d9 G m x F)(h:j1 G sc n es fs)
  (hx:sc.names.lookup x=some .globalImplicit) (hd:(x==("__debug__" : Str))=false) (hm:m<=n):Den G sc n (.Call (.Name x np) es [] pos) (ao F fs):=fun _ _ _ _ _ _ R X y=>by
 refine aq y ?_;clear y;intro ds hds y;obtain⟨a,o,fd,hg,hP,ho,hfd,hF⟩:=hf;refine uy (m9 X hx hd (.inl hg) ?_);refine avq (o:=o) (fd:=fd) (wm (af9 h R X hds) (fun a s₁ ⟨hk,g1,e1,q1⟩=>⟨⟨(e1.gok).keep _ _ hP ho,hfd⟩,?_⟩))
 rw[hk,ix];exact wm (hF (R.down hm) (e1.sok X.sok) q1 y) (fun _ _ z=>z.after e1)
def aaq(G:Gl prog w)(n:Nat)(name:Str)(F:D->List D->Option D):Prop:=
 ∀⦃A g s v d0 ds d⦄,dy A n->SOK G g s->jb (prog:=prog) (w:=w) g s.heap v d0->F d0 ds=some d ->
  ∃(T id:String),PlainAttrs T/\Slot T name id/\typeOf (.builtin id)=pure (.type "method_descriptor")/\s.TypeIs v T/\(∀a,v=.ref a->∃ob,s.heap.get? a=some ob/\ob.dict=none) /\
   ∀g' s' vs,Ext G g s g' s'->a9 prog w g' vs ds->wpAny (model prog w) A (call (.builtin id) (v::vs)) (bj G g' s' d) NoE s'
noncomputable def b6(F:D->List D->Option D)(f:PS->Option D)(fs:List (PS->Option D)):PS->Option D:=fun σ=>(f σ).bind fun d=>(evL fs σ).bind fun ds=>F d ds
def j1.few{fs:List (PS->Option D)}(h:j1 G sc n es fs)(pos:Pos)(env:Env):(backTo pos (starEach es env)).all (fun x=>!x.1)=true:=by
 have:=ai2 h pos env;rw[at3]at this;rw[abd];intro x hx;simpa using this x hx
variable{apos:Pos}{name:Str}
def x9{o:al}{F:D->List D->Option D}{fs:List (PS->Option D)}(hm:aaq G n name F)(h0:wa G sc n o f)(h:j1 G sc n es fs)
  (hbase:∀env,attributeBase o name env (eval o env)=eval o env) (hline:(apos.endLine==pos.line)=true) (hlen:es.length<29):Den G sc n (.Call (.Attribute o name apos) es [] pos) (b6 F f fs):=fun _ _ _ _ _ _ R X y=>by
 refine aq y ?_;clear y;intro d0 hd0 y;refine aq y ?_;clear y;intro ds hds y;refine yu (hbase _) ?_ hline (gB (h0 R X hd0) (fun ov s₁ g1 e1 q1=>?_))
 .rw[h.few];simp[backToKw,show∀env,keywordEach [] env=[]from fun _=>rfl];exact O.ck [_] [.lt .x0 (.c 29)] (.lt .x0 (.c 30)) 11 rfl hlen
 .obtain⟨T,id,pa,slot,ty,hT,hd,hc⟩:=hm R (e1.sok X.sok) q1 y;refine⟨T,id,pa,slot,ty,hT,hd,ug (ai2 h pos _) (wm (af9 h R (X.mono e1) hds) (fun a s₂ ⟨hk,g₂,e2,q2⟩=>?_))⟩
  exact hk▸(wm (hc g₂ s₂ a.pos e2 q2) (fun _ _ z=>(z.after e2).after e1))
def ab7(h:gg e=true)(pos:Pos):backTo pos (starEach [e] env)=[(false,eval e env)]:=by rw[tc h];rfl
variable{e':al}
def uz(h:gg e=true)(h':gg e'=true)(pos:Pos):backTo pos (starEach [e,e'] env)=[(false,eval e env),(false,eval e' env)]:=by rw[tc h,tc h'];rfl
noncomputable def cx:D->Option D
 |.list l=>if l.length<2 ^ 63 then some (.int l.length)else none
 |.str x=>if x.length<2 ^ 62 then some (.int x.length)else none
 |.none=>none
 |.bool _=>none
 |.int _=>none
 |.hstr _=>none
 |.bytes _=>none
 |.tup _=>none
 |.dict _=>none
inductive ar0:D->D->Prop
 |l {l:List D} (h:l.length<2 ^ 63):ar0 (.list l) (.int l.length)
 |s {x:Str} (h:x.length<2 ^ 62):ar0 (.str x) (.int x.length)
def bbw(y:cx d=some r):ar0 d r:=by
 cases d with
 |list=>exact ifS y fun h e=>e▸.l h
 |str=>exact ifS y fun h e=>e▸.s h
 |_=>exact ns rfl y
def b1{x b:String}{A:az}{g:ah}{s:af}(B:ey G)(X:ft G sc env g s σ)(hs:gg e=true)(hx:sc.names.lookup (aj x)=some .globalImplicit)(hb:(aj x,ass b)∈s6)(hd:(aj x==("__debug__" : Str))=false)
  (h:wpAny (model prog w) A (eval e env) (fun v s₁=>wpAny (model prog w) A (call (.builtin b) [v]) Q NoE s₁) NoE s):wpAny (model prog w) A (eval (.Call (.Name (aj x) np) [e] [] pos) env) Q NoE s:=
 Call_name1 (tc hs) (m9 X hx hd (.inr (B (aj x,.builtin b) hb)) (callWith_builtin1 h))
def t1{T:String}{A:az}{g:ah}{s:af}(B:ey G)(X:ft G sc env g s σ)(hs:gg e=true)(hx:sc.names.lookup x=some .globalImplicit)(hb:(x,ag3 T)∈s6)(hd:(x==("__debug__" : Str))=false)
  (h:wpAny (model prog w) A (eval e env) (fun v s₁=>wpAny (model prog w) A (call (.type T) [v]) Q NoE s₁) NoE s):wpAny (model prog w) A (eval (.Call (.Name x np) [e] [] pos) env) Q NoE s:=
 Call_name1 (tc hs) (m9 X hx hd (.inr (B (x,.type T) hb)) (abp rfl (qf (ju (wm h fun _ _ h=>q9 h)))))
def t2{T:String}{A:az}{g:ah}{s:af}(B:ey G)(X:ft G sc env g s σ)(hs:gg e=true)(hs':gg e'=true)(hx:sc.names.lookup x=some .globalImplicit)(hb:(x,ag3 T)∈s6)(hd:(x==("__debug__" : Str))=false)
  (h:wpAny (model prog w) A (eval e env) (fun v s₁=>wpAny (model prog w) A (eval e' env) (fun v' s₂=>wpAny (model prog w) A (call (.type T) [v,v']) Q NoE s₂) NoE s₁) NoE s):wpAny (model prog w) A (eval (.Call (.Name x np) [e,e'] [] pos) env) Q NoE s:=by
 refine uy (m9 X hx hd (.inr (B (x,.type T) hb)) ?_);rw[uz hs hs'];exact abp rfl (qf (ju (wm h fun _ _ h=>ju (wm h fun _ _ h=>q9 h))))
def afx(B:ey G)(h:wa G sc n e f)(hs:gg e=true)(hx:sc.names.lookup ("len" : Str)=some .globalImplicit):Den G sc n (.Call (.Name "len" np) [e] [] pos) (un cx f):=fun _ _ _ _ _ _ R X y=>by
 refine aq y fun d hd y=>b1 (x := "len") (b := "len") B X hs hx (by decide) (by decide) (gB (h R X hd) fun v s₁ g1 e1 q1=>?_)
 have X1:=e1.sok X.sok;replace y:=bbw y;clear hd;induction y with
 |l hz=>
  refine kq (q1.full X1) fun g₂ hv _ q=>?_
  obtain@⟨a,vs,m,e,r⟩:=jy q;refine Calls.call_len_list (fz (hv _ _ e)) (ko.symm▸r.length.symm▸mx.2 hz) ?_;exact ko.symm▸r.length.symm▸((bj.tok X1 zj (O.ajb)).after e1)
 |s hz=>
  refine oE (q1.str rfl) fun t e=>?_;subst e
  exact PySem.P.len_str (aln.2 (aud (mx.2 hz) (by decide+kernel))) ((bj.tok X1 zj (O.ajb)).after e1)
noncomputable def aab(d:D):Option Bool:=@D.casesOn (fun _=>Option Bool) d none (fun _=>none) (fun _=>some false) (fun _=>none) (fun _=>none) (fun _=>none) (fun _=>some true) (fun _=>none) (fun _=>none)
noncomputable def afi(d:D):Option Bool:=(i6 d).map fun _=>true
noncomputable def tst(F:D->Option Bool)(f:PS->Option D):PS->Option Bool:=fun σ=>(f σ).bind F
variable{tp:Pos}
def a2u{F:D->Option Bool}{T:String}(B:ey G)(h:Den G sc n e f)(hs:gg e=true)(hx:sc.names.lookup ("isinstance" : Str)=some .globalImplicit)(ht:sc.names.lookup (aj T)=some .globalImplicit)(hT:(aj T,ag3 T)∈s6)(hd:(aj T==("__debug__" : Str))=false)
  (K:∀{A g s v d b},SOK G g s->Rep prog w g v d->F d=some b->wpAny (model prog w) A (call (.builtin "isinstance") [v,.type T]) (bj G g s (.bool b)) NoE s):Den G sc n (.Call (.Name "isinstance" np) [e,.Name (aj T) tp] [] pos) (ofB (tst F f)):=fun _ _ _ _ _ _ R X y=>by
 refine b9 y fun b yb e=>e▸aq yb fun d hd' yb=>uy (m9 X hx (by decide) (.inr (B ("isinstance",.builtin "isinstance") (by decide))) ?_)
 rw[uz hs rfl];refine ug rfl (qf (ju (gv (h R X hd') fun v s₁ g1 e1 q1=>ju ?_)))
 exact m9 (X.mono e1) ht hd (.inr (B (aj T,.type T) hT)) (q9 (wm (K (e1.sok X.sok) q1 yb) fun _ _ z=>z.after e1))
def bfg(B:ey G)(h:Den G sc n e f)(hs:gg e=true)(hx:sc.names.lookup ("isinstance" : Str)=some .globalImplicit)(ht:sc.names.lookup ("tuple" : Str)=some .globalImplicit) :
  Den G sc n (.Call (.Name "isinstance" np) [e,.Name "tuple" tp] [] pos) (ofB (tst aab f)):=a2u (T := "tuple") B h hs hx ht (by decide) (by decide) fun{A g s v d b} x q y=>by
 cases d with
 |tup=>cases y;obtain⟨e,_⟩:=lq q;exact IsiPair.tuple_tuple (x.view _ _ e) rfl (bj.same x aoi)
 |int=>cases y;exact oE q fun t e=>e▸IsiPair.int_tuple (bj.tok x aoi)
 |_=>exact ns rfl y
def bfh(B:ey G)(h:Den G sc n e f)(hs:gg e=true)(hx:sc.names.lookup ("isinstance" : Str)=some .globalImplicit)(ht:sc.names.lookup ("int" : Str)=some .globalImplicit) :
  Den G sc n (.Call (.Name "isinstance" np) [e,.Name "int" tp] [] pos) (ofB (tst afi f)):=a2u (T := "int") B h hs hx ht (by decide) (by decide) fun x q y=>by
 refine b9 y fun i hi e=>e▸?_;replace hi:=i5 hi;subst hi
 exact oE q fun t e=>e▸IsiPair.int_int (bj.same x aoi)
noncomputable def ab8(l:List α):Option α:=l.casesOn none fun a r=>r.casesOn (some a) fun _ _=>none
def ae2{l:List α}{a:α}(h:ab8 l=some a):l=[a]:=by
 induction l with
 |nil=>exact ns rfl h
 |cons b l=>induction l with
  |nil=>exact congrArg (fun x=>[x]) (dn h)
  |cons=>exact ns rfl h
noncomputable def aoy(l:List D):Option Int:=(ab8 l).bind i6
noncomputable def akh(l:List D):Option D:=(aoy l).bind fun i=>if 0<=i/\i<=0x10FFFF then some (.str ⟨#[i.toNat]⟩)else none
def bai{g:ah}{vs:List ae}(r:a9 prog w g vs []):vs=[]:=uk r.length
def a24{g:ah}{vs:List ae}(r:a9 prog w g vs (d::ds)):∃v vs',vs=v::vs'/\Rep prog w g v d/\a9 prog w g vs' ds:=by
 induction vs with
 |nil=>exact r.elim
 |cons v vs=>exact⟨v,vs,rfl,r⟩
def ab6{g:ah}{vs:List ae}(r:a9 prog w g vs [d]):∃v,vs=[v]/\Rep prog w g v d:=by
 refine zx (a24 r) fun v _ e h r=>?_
 exact⟨v,e.trans (congrArg _ (bai r)),h⟩
variable{d':D}
def aw6{g:ah}{vs:List ae}(r:a9 prog w g vs [d,d']):∃v v',vs=[v,v']/\Rep prog w g v d/\Rep prog w g v' d':=by
 refine zx (a24 r) fun v _ e h r=>?_
 refine oEA (ab6 r) fun v' e' h'=>?_
 exact⟨v,v',e.trans (congrArg _ e'),h,h'⟩
def azh{g:ah}{vs:List ae}{i:Int}(r:a9 prog w g vs ds)(h:aoy ds=some i):∃t,vs=[.int i t]:=by
 refine aq h fun d hd hi=>?_;replace hd:=ae2 hd;replace hi:=i5 hi;subst hd hi
 exact a93 (ab6 r) fun v e t e'=>⟨t,e'▸e⟩
def bdg:aau G n (.builtin "chr") akh:=fun _ _ _ _ _ _ R x r y=>by
 refine aq y fun i hi y=>ifS y fun h e=>e▸oE (azh r hi) fun t e=>e▸?_
 exact P.chr_of_int (by simp;assumption) (bj.tok x ve)
def bbo(h:k<2 ^ 64):k.log2<1920:=by
 refine iy (auc k) (fun h0=>?_) fun h0=>?_
 .rw[h0];decide
 .have:k.log2<64:=(Nat.log2_lt (O.ck [_] [.lt .x0 (.c 18446744073709551616),.lt (.c 0) .x0] (.n (.eq .x0 (.c 0))) 110 rfl h h0)).mpr h;exact O.ck [_] [.lt .x0 (.c 64)] (.lt .x0 (.c 1920)) 11 rfl this
noncomputable def ail(l:List D):Option D:=(aoy l).bind fun i=>if i.natAbs<2 ^ 64 then some (.str (toString i))else none
def bde:aau G n (.type "str") ail:=fun _ _ _ _ _ _ R x r y=>by
 refine aq y fun i hi y=>ifS y fun h e=>e▸oE (azh r hi) fun t e=>e▸?_
 exact P.str_of_int (bbo h) (bj.tok x ve)
noncomputable def tl(l:List D):Option (List Int):=l.rec (motive:=fun _=>Option (List Int)) (some []) fun d _ r=>(i6 d).bind fun i=>r.map (i::·)
noncomputable def eg(l:List D):Option D:=(ab8 l).bind fun d=>(jg d).bind fun l=>(tl l).map fun is=>.int is.sum
def bcm{g:ah}{vs:List ae}{is:List Int}(r:a9 prog w g vs l)(h:tl l=some is):vs.length=is.length/\∀j:Nat,∀v,vs[j]?=some v->∃t,v=.int (is.getD j 0) t:=by
 induction r using a9.ind generalizing is with
 |n=>cases h;exact⟨rfl,fun j v h=>nomatch h⟩
 |c q _ ih=>
  refine aq h fun i hi h=>b9 h fun is' hi' e=>e▸oA (ih hi') fun h1 h2=>⟨congrArg (·+1) h1,fun j u hu=>?_⟩
  replace hi:=i5 hi;subst hi;induction j with
  |zero=>exact dn hu▸q
  |succ j=>exact h2 j u hu
theorem ayx:∀(is:List Int) (k:Nat),k<=is.length->preSum (fun j=>is.getD j 0) k=(is.take k).sum
 |_,0,_=>rfl
 |is,k+1,h=>by
  have hk:k<is.length:=by assumption
  rw[preSum,ayx is k (O.o85 h),List.take_add_one,gq hk,ady];simp[yv,gq hk]
set_option tactic.hygienic true in
def aj0:aau G n (.builtin "sum") eg:=fun A g s vs ds d R x r y=>by
 refine aq y fun d1 hd y=>aq y fun l hl y=>b9 y fun is hi e=>e▸?_
 replace hd:=ae2 hd;replace hl:=ua hl;subst hd hl;obtain⟨v,rfl,q⟩:=ab6 r;obtain@⟨a,us,m,e,rl⟩:=jy q;have e':=x.view _ _ e;obtain⟨hlen,hat⟩:=bcm rl hi;refine call_sum_walkAnyS (amr (fz e') ?_);have hne:a≠s.heap.objs.size:=k8 (il e');have hit:({s with heap:=s.heap.push {cls:=.type "list_iterator",data:=.fields #[.ref a,.int 0 0]}}:af).heap.IsListIter s.heap.objs.size a 0:=⟨_,dw _ rfl,rfl,rfl⟩;refine⟨s.heap.objs.size,_,_,_,_,_,_,fun j=>is.getD j 0,rfl,(Walks.list (prog:=prog) (w:=w) (A:=A.in1) R.hh s.heap.objs.size a hne us.toArray).toS,⟨hit,(fz e').push _⟩,?_,?_,?_⟩
 .intro b hb;simp at hb;rcases hb with rfl|rfl
  .simp
  .have:=il e';simp only[mz];exact ahv this
 .intro i v hv;exact hat i v (by simpa using hv)
 .intro s' t' hm;rw[ko,hlen,ayx is is.length (ay _),ad1];have hk:∀b o,s.heap.get? b=some o->s'.heap.get? b=some o:=fun b o eb=>by
   refine hm.heap b o ?_ (b4 _ eb);have:=il eb;simp only[amw];exact k8 this
  have hs':s'={s with heap:=s'.heap,toks:=s'.toks,drawn:=s'.drawn,gens:=s'.gens,os:=s'.os}:=rfl;have hg:s'.gens=s.gens:=hm.gens;have ho:s'.os=s.os:=hm.os;exact⟨g,⟨.refl _,fun _ _ q=>.inl q,fun b o _ q=>hk b o q,fun b o q=>hk b o (x.view b o q),x.gP,x.gok.keeps hk,hm.toks,aw x.lim hm.toks,ho,hg▸x.bare,by rw[hg];exact ay _,fun i _=>by rw[hg]⟩,zj⟩
def aik{A:az}{g:ah}{s:af}{v:ae}{d0:D}{name id:String}(q:jb (prog:=prog) (w:=w) g s.heap v d0)(hz:b7 d0=some x)(slot:Slot "str" name id)(ty:typeOf (.builtin id)=pure (.type "method_descriptor"))
  (K:∀t g' s' vs,Ext G g s g' s'->a9 prog w g' vs ds->wpAny (model prog w) A (call (.builtin id) (.str x t::vs)) (bj G g' s' d) NoE s') :
  ∃(T id:String),PlainAttrs T/\Slot T name id/\typeOf (.builtin id)=pure (.type "method_descriptor")/\s.TypeIs v T/\(∀a,v=.ref a->∃ob,s.heap.get? a=some ob/\ob.dict=none)/\∀g' s' vs,Ext G g s g' s'->a9 prog w g' vs ds->wpAny (model prog w) A (call (.builtin id) (v::vs)) (bj G g' s' d) NoE s':=
 oE (q.str hz) fun t e=>e▸⟨"str",id,am5,slot,ty,n4 _ _ _,(fun _ e=>nomatch e),K t⟩
noncomputable def afo(a:D)(ds:List D):Option D:=(ab8 ds).bind fun b=>(b7 a).bind fun x=>(b7 b).map fun y=>.int (alg x y)
def azg{g:ah}{vs:List ae}(r:a9 prog w g vs [d])(h:b7 d=some x):∃t,vs=[.str x t]:=
 oEA (ab6 r) fun v e q=>oE (gr q h) fun t e'=>⟨t,e'▸e⟩
def ba1:aaq G n "find" afo:=fun A g s v d0 ds d R x q y=>by
 refine aq y fun b hb y=>aq y fun z hz y=>b9 y fun z' hz' e=>e▸?_
 replace hb:=ae2 hb;subst hb;exact aik q hz PySem.F.slot_str_find PySem.F.type_str_find fun t g' s' vs e r=>oE (azg r hz') fun t' e'=>e'▸SC.find (bj.tok (e.sok x) zj)
def a8o{g:ah}(l:List (Str×Tok)):a9 prog w g (strValues l) ((l.map (·.1)).map D.str):=by
 induction l with
 |nil=>trivial
 |cons x l ih=>exact⟨⟨x.2,rfl⟩,ih⟩
def bj.texts{g:ah}{s:af}{l:List (Str×Tok)}{tk:Nat}(x:SOK G g s)(ht:s.toks<=tk)(hl:l.map (·.1)=ys) :
  bj G g s (.list (ys.map .str)) (.ref s.heap.objs.size) {s with heap:=s.heap.push {cls:=.type "list",data:=.seq (strValues l).toArray},toks:=tk}:=by
 refine bj.newObj x (dq _) (dw _ rfl) (fun b o e=>b4 _ e) ?_ ht
 exact⟨_,strValues l,0,rfl,bu.self,hl▸a8o l⟩
noncomputable def m7(a:D)(ds:List D):Option D:=ds.casesOn none fun b r=>(b7 a).bind fun x=>(b7 b).bind fun y=>
 r.casesOn (if(y.length==0)=false/\x.length+2<=sizeLine then some (.list ((Txt.split x y).map .str))else none) fun c r=>r.casesOn
  ((i6 c).bind fun k=>if(y.length==0)=false/\0<=k/\k<1000/\x.length+2<=sizeLine then some (.list ((asf x y k).map .str))else none) fun _ _=>none
def ajg:aaq G n "split" m7:=fun A g s v d0 ds d R x q y=>by
 cases ds with
 |nil=>exact ns rfl y
 |cons b ds=>
 refine aq y fun z hz y=>aq y fun z' hz' y=>?_
 cases ds with
 |nil=>
  refine ifS y fun hc e=>e▸?_
  refine aik q hz wb avf fun t g' s' vs e r=>oE (azg r hz') fun t' e'=>e'▸?_
  have X:=e.sok x;have hn:(avv z (aax z z' 0 z.length (z.length+1)) z'.length).length<=sizeLine:=by
   have e2:=av1 z z' 0 z.length (z.length+1);rw[aul];exact O.ck [_,_,_] [.an (.h _) (.le (.a .x2 (.c 2)) .x1),.le .x0 (.a .x2 (.c 1))] (.le (.a .x0 (.c 1)) .x1) 111 rfl hc (StrLaws.occ_length_le z z' 0 z.length (z.length+1))
  cases h1:(decide (z.length<z'.length) ||decide (qh z<qh z'))
  .cases hf:(aax z z' 0 z.length (z.length+1)).isEmpty
   .refine ri wb (n4 _ _ _) abv (ana _ _) (meets_str_split_sep z z' t t' h1 hc.1 hf (O.ck [_,_] [.an (.h _) (.le (.a .x0 (.c 2)) .x1)] (.le .x0 .x1) 11 rfl hc:z.length<=sizeLine) hn) ?_;rw[strsFrom_eq];exact bj.texts X (kn _ _) ((numbered_texts _ _).trans ((if_neg (ne_true_of_eq_false h1)).trans (if_neg (ne_true_of_eq_false hf))).symm)
   .exact ri wb (n4 _ _ _) abv (ana _ _) (meets_str_split_not_found z z' t t' h1 hc.1 hf)
     (bj.texts (l:=[(z,t)]) X (ay _) ((if_neg (ne_true_of_eq_false h1)).trans (if_pos hf)).symm)
  .exact ri wb (n4 _ _ _) abv (ana _ _) (meets_str_split_cannot_occur z z' t t' h1)
    (bj.texts (l:=[(z,t)]) X (ay _) (if_pos h1).symm)
 |cons c ds=>cases ds with
  |cons=>exact ns rfl y
  |nil=>
   refine aq y fun k hk y=>ifS y fun hc e=>e▸?_
   replace hk:=i5 hk;subst hk;refine aik q hz wb avf fun t g' s' vs e r=>zx (aw6 r) fun u u' e' hu hu'=>e'▸oE (gr hu hz') fun t' e'=>e'▸oE hu' fun tk e'=>e'▸?_
   have X:=e.sok x;have hk:(decide (k < -(2 ^ 63:Int)) ||decide (k>=2 ^ 63))=false:=Bool.or_eq_false_iff.2 ⟨decide_eq_false (aa3.2 (wk (by decide) hc.2.1)),decide_eq_false (aln.2 (ase hc.2.2.1 (by decide)))⟩
   have hn:(avv z (aax z z' 0 z.length (limitOf z k)) z'.length).length<=sizeLine:=by
    rw[aul];exact aw (abb (av1 z z' 0 z.length (limitOf z k))) hc.2.2.2
   cases h1:(decide (z.length<z'.length) ||decide (qh z<qh z'))
   .cases hf:(aax z z' 0 z.length (limitOf z k)).isEmpty
    .refine ri wb (n4 _ _ _) abv (am9 _ _ _) (meets_str_split_sep_max z z' k t t' tk hk h1 hc.1 hf (aw (kn _ _) hc.2.2.2) hn) ?_;rw[strsFrom_eq];exact bj.texts X (kn _ _) ((numbered_texts _ _).trans ((if_neg (ne_true_of_eq_false h1)).trans (if_neg (ne_true_of_eq_false hf))).symm)
    .exact ri wb (n4 _ _ _) abv (am9 _ _ _) (meets_str_split_max_not_found z z' k t t' tk hk h1 hc.1 hf)
      (bj.texts (l:=[(z,t)]) X (ay _) ((if_neg (ne_true_of_eq_false h1)).trans (if_pos hf)).symm)
   .exact ri wb (n4 _ _ _) abv (am9 _ _ _) (meets_str_split_max_cannot_occur z z' k t t' tk hk h1)
     (bj.texts (l:=[(z,t)]) X (ay _) (if_pos h1).symm)
noncomputable def gw(a:D)(ds:List D):Option D:=(ab8 ds).bind fun b=>(jg b).bind fun l=>(b7 a).bind fun x=>(l.mapM b7).bind fun ys=>if JoinOk x ys=true then some (.str (yw x ys))else none
def awx{g:ah}{vs:List ae}(r:a9 prog w g vs l)(h:l.mapM b7=some ys):∃p:List (Str×Tok),vs=strValues p/\p.map (·.1)=ys:=by
 induction r using a9.ind generalizing ys with
 |n=>cases h;exact⟨[],rfl,rfl⟩
 |c q _ ih=>
  rw[wq]at h;refine aq h fun x hx h=>aq h fun ys' hy h=>dn h▸oEA (ih hy) fun p e e'=>oE (gr q hx) fun t e''=>⟨(x,t)::p,?_,congrArg _ e'⟩
  rw[e,e''];rfl
def a07{A:az}{g:ah}{s:af}{t:Tok}{vs:List ae}(X:SOK G g s)(e:s.heap.get? a=some (c8 "list" vs m))(r:a9 prog w g vs l)(hy:l.mapM b7=some ys)(hok:JoinOk x ys=true) :
  wpAny (model prog w) A (call (.builtin "str.join") [.str x t,.ref a]) (bj G g s (.str (yw x ys))) NoE s:=by
 refine oEA (awx r hy) fun p e1 e2=>?_
 subst e1 e2;have hok':=hok;unfold JoinOk at hok';rw[at1]at hok';exact qq (ri au5 (n4 _ _ _) PySem.F.entry_str_join (PySem.F.args_str_join_2 _ _) (meets_str_join_list x t a p hok') ⟨fz e,post_join p ⟨joinFit_length hok',fun t' k ht=>bj.tok X ve ht⟩⟩)
def aph:aaq G n "join" gw:=fun A g s v d0 ds d R x q y=>by
 refine aq y fun b hb y=>aq y fun l hl y=>aq y fun z hz y=>aq y fun ys hy y=>ifS y fun hok e0=>e0▸?_
 clear y e0;replace hb:=ae2 hb;replace hl:=ua hl;subst hb hl;refine aik q hz au5 PySem.F.type_str_join fun t g' s' vs e r=>oEA (ab6 r) fun u e' hu=>e'▸?_
 obtain⟨ea,rl⟩:=jy hu;exact a07 (e.sok x) ((e.sok x).view _ _ ea) rl hy hok
noncomputable def aao(d:D):Option (List Str):=(jg d).bind fun l=>l.mapM b7
noncomputable def acn(a:D)(ds:List D):Option D:=(jg a).bind fun l=>(ab8 ds).bind fun d=>(l.mapM aao).bind fun yss=>(aao d).bind fun ys=>if l.length<1000 then(yss.findIdx? (·==ys)).map fun(j:Nat)=>D.int (j:Int)else none
noncomputable def strOf(v:ae):Option Str:=match v with
 |.str s _=>some s
 |_=>none
noncomputable def awz(h:bf)(v:ae):Option (List Str):=match v with
 |.ref a=>(h.get? a).bind fun o=>match o.data with
  |.seq vs _=>vs.toList.mapM strOf
  |_=>none
 |_=>none
def apk(p:List (Str×Tok)):(strValues p).mapM strOf=some (p.map (·.1)):=by
 induction p with
 |nil=>rfl
 |cons x p ih=>rw[strValues,ee,wq,show List.mapM strOf (p.map _)=_ from ih];rfl
inductive VT (h:bf) (ys:List Str):ae->Prop
 |mk {a p m:_} (e:h.get? a=some (c8 "list" (strValues p) m)) (hp:p.map (·.1)=ys):VT h ys (.ref a)
def VT.val{v:ae}(q:VT h ys v):awz h v=some ys:=
 q.casesOn fun{a p m} e hp=>hp▸((congrArg (fun x:Option Obj=>x.bind fun o=>match o.data with|.seq vs _=>vs.toList.mapM strOf|_=>none) e).trans (apk p))
def awy{g:ah}{s:af}{v:ae}(V:∀a o,g.f a=some o->s.heap.get? a=some o)(q:Rep prog w g v d)(h:aao d=some ys):VT s.heap ys v:=by
 refine aq h fun l hl h=>?_;replace hl:=ua hl;subst hl
 exact(jy q).casesOn fun e r=>oEA (awx r h) fun p e1 e2=>.mk (e1▸V _ _ e) e2
def bd7{A:az}{s:af}{b:ai}{p q:List (Str×Tok)}(hu:A.units<cLine)(ea:s.heap.get? a=some (c8 "list" (strValues p) m))(eb:s.heap.get? b=some (c8 "list" (strValues q) m')) :
  ar6 A s (.ref a) (.ref b) (p.map (·.1)==q.map (·.1)):=by
 by_cases hab:a=b
 .subst hab;rw[ea]at eb;have h1:=apk p;rw[(by simpa[c8]using(congrArg (fun o=>match o with|some (o:Obj)=>(match o.data with|.seq x _=>x.toList|_=>[])|none=>[]) eb):strValues p=strValues q),apk q]at h1
  rw[dn h1];simpa using ag8 _
 .refine atf hab ?_;by_cases hl:p.length=q.length
  .have R:=asx (A:=A) (s:=s) (l:=a) (b:=b) (e:=fun j=>(p.map (·.1)).getD j ag2==(q.map (·.1)).getD j ag2) (fz ea) (fz eb) (by simp[strValues,hl]) hu (fun j h1 h2=>by
    simp only[strValues,List.getElem_toArray,aba,yv,abk,gq (by simpa[strValues]using h1:j<p.length),gq (by simpa[strValues]using h2:j<q.length),bt,ats]
    exact amm _ _ _ _)
   have hb:(ed (strValues p).toArray.size).all (fun j=>(p.map (·.1)).getD j ag2==(q.map (·.1)).getD j ag2)=(p.map (·.1)==q.map (·.1)):=by
    simp only[ko,strValues,b8];rw[Bool.eq_iff_iff,abd,beq_iff_eq];constructor
    .intro h;refine atr (by simp[hl]) fun j h1 h2=>?_
     have:=h j (by simpa using h1)
     simp only[b8]at h1 h2;simpa[yv,gq h1,gq h2]using this
    .intro h j _;rw[h];exact if_pos rfl
   rw[hb]at R;exact R
  .have hf:(p.map (·.1)==q.map (·.1))=false:=by
    rw[beq_eq_false_iff_ne];intro h;exact hl (by simpa using congrArg pd h)
   rw[hf];exact au9 (fz ea) (fz eb) (by simp[strValues,hl]) hu
def a6d{g:ah}{s:af}(V:∀a o,g.f a=some o->s.heap.get? a=some o){vs:List ae}{yss:List (List Str)}(r:a9 prog w g vs l)(h:l.mapM aao=some yss)(i:Nat)(h1:i<vs.length)(h2:i<yss.length):VT s.heap yss[i] vs[i]:=by
 induction r using a9.ind generalizing yss i with
 |n=>exact absurd h1 (oz i)
 |c q _ ih=>
  rw[wq]at h;refine aq h fun z hz h=>aq h fun zs hzs h'=>?_;clear h;replace h:=dn h';clear h';subst h
  induction i with
  |zero=>exact awy V q hz
  |succ i=>exact ih hzs i (uh h1) (uh h2)
variable{β:Type}
def bbb{f:α->Option β}:∀{l:List α} {ys:List β},l.mapM f=some ys->l.length=ys.length:=by
 intro l;induction l with
 |nil=>intro ys h;simp at h;subst h;rfl
 |cons d l ih=>
  intro ys h;rw[wq]at h;refine aq h fun z hz h=>aq h fun zs hzs h=>?_
  cases h;exact congrArg (·+1) (ih hzs)
def a0n:aaq G n "index" acn:=fun A g s v d0 ds d R x q y=>by
 refine aq y fun l hl y=>aq y fun d' hd y=>aq y fun yss hyss y=>aq y fun ys hys y=>ifE y (fun hlen y=>b9 y fun j hj e=>e▸?_) fun _ y=>ns rfl y
 clear y;replace hl:=ua hl;replace hd:=ae2 hd;subst hl hd;obtain@⟨a,vs,m,e,rl⟩:=ara x.view q;have hP:a≠G.P:=z5 x.gok e fun vs hq=>nomatch hq
 refine⟨"list",_,am8,avp,PySem.F.type_list_index,⟨_,e,rfl⟩,fun b hb=>al4 hb▸⟨_,e,rfl⟩,fun g' s' us e1 r=>oEA (ab6 r) fun u ez hu=>ez▸?_⟩
 have X:=e1.sok x;have e':=e1.heap _ _ hP e;have hat:=a6d X.view (rl.mono prog w e1.gle) hyss;have hlen2:vs.length=yss.length:=rl.length.trans (bbb hyss);have vt:=awy X.view hu hys;refine oEA (awg.mp hj) fun hjl hjt hjn=>?_
 have hu:A.units+20 * n+40<cLine:=R.units;have hv:vs.length<1000:=rl.length▸hlen;refine ri avp ⟨_,e',rfl⟩ PySem.F.entry_list_index (PySem.F.args_list_index_2 _ _)
  (SeqAt.list_indexAt a vs.toArray m none #[] u (fun v=>awz s'.heap v==some ys) j (ko▸hlen2▸hjl) (ase (mx.2 (ur (hlen2▸hjl) hv)) (by decide)) ?_ ?_) ⟨e',?_,bj.tok X zj⟩
 .exact(congrArg (·==some ys) (hat j (hlen2▸hjl) hjl).val).trans hjt
 .exact fun i hi hij=>(congrArg (·==some ys) (hat i hi (hlen2▸hi)).val).trans (ad7.2 (hjn i hij))
 .intro v hv;obtain⟨i,hi,rfl⟩:=am0 (atu.1 hv);have hi':=hat i hi (hlen2▸hi);refine hi'.val▸?_;generalize vs[i]=v at hi' |-;induction hi' with
  |mk k3 k4=>induction vt with
   |mk eb kb=>exact kb▸k4▸bd7 (A:=A.in1) (rf (aw (abb (kn A.units (20 * n))) (qc (by decide:1<=40) _)) R.units) k3 eb
noncomputable def ek(l:List Nat):List UInt8:=l.flatMap kf
noncomputable def enc(x:Str):Array UInt8:=(ek x.cps.toList).toArray
def Low(l:List Nat):Prop:=∀c∈l,c<0xD800
def u8(h:k<256):k.toUInt8.toNat=k:=by
 show(UInt8.ofNat k).toNat=k;simp[UInt8.toNat_ofNat,atq h]
variable{pre:List UInt8}
def ark{post:List UInt8}{x:UInt8}(h:post[k]?=some x):(pre++post).toArray.getD (pre.length+k) 0=x:=by
 simp[av8,ang,h]
def arl{post:List UInt8}{x:UInt8}(h:post[k]?=some x):(pre++post).toArray[pre.length+k]?=some x:=by
 simp[ang,h]
def a5s{b:Array UInt8}{p:Nat}(c1:(b.getD p 0).toNat<0x80):aeg b p=(.char (b.getD p 0).toNat,p+1):=if_pos c1
def a5r{b:Array UInt8}{p:Nat}{y:UInt8}(h1:b[p+1]?=some y)(c1:¬(b.getD p 0).toNat<0x80)
  (c2:(decide (0xC2<=(b.getD p 0).toNat) && decide ((b.getD p 0).toNat<=0xDF))=true) (c3:(decide (0x80<=y.toNat) && decide (y.toNat<=0xBF))=true) :
  aeg b p=(.char ((b.getD p 0).toNat % 32 * 64+y.toNat % 64),p+2):=by
 refine(if_neg c1).trans ?_;rw[if_pos c2];dsimp only[ed,atd,alf,alm,ar9];rw[h1];simp only[sv,beq_self_eq_true,if_true,c3]
def a5q{b:Array UInt8}{p:Nat}{y z:UInt8}(h1:b[p+1]?=some y)(h2:b[p+2]?=some z)(c1:¬(b.getD p 0).toNat<0x80)
  (c2:¬(decide (0xC2<=(b.getD p 0).toNat) && decide ((b.getD p 0).toNat<=0xDF))=true) (c4:(decide (0x80<=z.toNat) && decide (z.toNat<=0xBF))=true) {lo hi:Nat}
  (q:∀r:Option (Nat×Nat×Nat),(if((b.getD p 0).toNat==0xE0)=true then some (2,0xA0,0xBF)else if((b.getD p 0).toNat==0xED)=true then some (2,0x80,0x9F)else if(decide (0xE1<=(b.getD p 0).toNat) && decide ((b.getD p 0).toNat<=0xEF))=true then some (2,0x80,0xBF)else r)=some (2,lo,hi))
  (c3:(decide (lo<=y.toNat) && decide (y.toNat<=hi))=true) :
  aeg b p=(.char (((b.getD p 0).toNat % 16 * 64+y.toNat % 64) * 64+z.toNat % 64),p+3):=by
 refine(if_neg c1).trans ?_;rw[if_neg c2];rw[q];dsimp only[ed,atd,alf,alm,ar9];rw[h1];simp only[sv,beq_self_eq_true,if_true,c3];rw[h2];simp only[show((1+1:Nat)==1)=false from rfl,ue,if_false,c4,if_true]
def dd{P Q:Prop}[Decidable P][Decidable Q](p:P)(q:Q):(decide P && decide Q)=true:=l8.2 ⟨decide_eq_true p,decide_eq_true q⟩
def rem(m:Nat){j:Nat}(h:j<k)(e:n=k * m:=by rfl):(n+j) % k=j:=e▸(Nat.mul_add_mod k m j).trans (atq h)
def a0s(r:Nat)(h:r<64):(0x80+r).toUInt8.toNat=0x80+r/\(decide (0x80<=(0x80+r).toUInt8.toNat) && decide ((0x80+r).toUInt8.toNat<=0xBF))=true/\(0x80+r).toUInt8.toNat % 64=r:=by
 rw[(u8 (i7 (ah1 h 128) (by decide)))]
 exact⟨rfl,dd (kn ..) (qc (ahu h) 128),rem 2 h⟩
def a5p(pre post:List UInt8){c:Nat}(h:c<0xD800):aeg (pre++(kf c++post)).toArray pre.length=(.char c,pre.length+(kf c).length):=by
 obtain⟨-,r2,r3⟩:=a0s (c % 64) (we _ (by decide))
 delta kf
 if h1:c<0x80 then
  refine(if_pos h1)▸?_;have e0:(pre++([c.toUInt8]++post)).toArray.getD pre.length 0=c.toUInt8:=ark (k:=0) rfl;have k0:=(congrArg als e0).trans (u8 (ur h1 (by decide)))
  exact(a5s (k0.symm▸h1)).trans (k0.symm▸rfl)
 else
  refine(if_neg h1)▸?_
  if h2:c<0x800 then
   refine(if_pos h2)▸?_;have Q:c / 64<32:=ah2 h2;have e0:(pre++([(0xC0+c / 64).toUInt8,(0x80+c % 64).toUInt8]++post)).toArray.getD pre.length 0=(0xC0+c / 64).toUInt8:=ark (k:=0) rfl;have k0:=(congrArg als e0).trans (u8 (i7 (ah1 Q 192) (by decide)))
   refine(a5r (arl (k:=1) rfl) (k0.symm▸gi.2 (aw (by decide) (kn 192 _))) (k0.symm▸dd (qc ((au4 (by decide:0<64)).2 (ahr h1):2<=c / 64) 192) (qc (ahu Q) 192)) r2).trans ?_
   rw[k0,r3,rem 6 Q,atp];rfl
  else
   rw[if_neg h2,if_pos (ur h (by decide))]
   refine oAA (a0s (c / 64 % 64) (we _ (by decide))) fun q1 q2 q3=>?_
   have t2:c / 64<864:=ah2 h;have t3:64 * (c / 4096)+c / 64 % 64=c / 64:=(Nat.div_div_eq_div_mul c 64 64)▸Nat.div_add_mod (c / 64) 64;have A:c / 4096<=13:=(O.c0 [c / 4096,c / 64,c / 64 % 64] [.lt (.v 1) (.c 864),.eq (.a (.m 64 (.v 0)) (.v 2)) (.v 1)] (.le (.v 0) (.c 13)) (.l [64,0,1,1]) rfl t2 t3);have e0:(pre++([(0xE0+c / 4096).toUInt8,(0x80+c / 64 % 64).toUInt8,(0x80+c % 64).toUInt8]++post)).toArray.getD pre.length 0=(0xE0+c / 4096).toUInt8:=ark (k:=0) rfl;have val:((0xE0+c / 4096) % 16 * 64+c / 64 % 64) * 64+c % 64=c:=by
    rw[rem 14 (rf A (by decide:13<16)),Nat.mul_comm (c / 4096),t3,atp]
   have fin:=@a5q _ _ _ _ (arl (pre:=pre) (post:=[(0xE0+c / 4096).toUInt8,(0x80+c / 64 % 64).toUInt8,(0x80+c % 64).toUInt8]++post) (k:=1) rfl) (arl (k:=2) rfl);rw[((congrArg als e0).trans (u8 (rf (qc A 224) (by decide:224+13<256)))),q3,r3,val]at fin
   have fin:=@fin (gi.2 (aw (by decide) (kn 224 _))) (fun h=>absurd (of_decide_eq_true (l8.1 h).2) (wd.2 (i7 (by decide) (kn 224 _)))) r2
   if A0:c / 4096=0 then
    exact@fin 0xA0 0xBF (fun r=>if_pos (A0▸rfl)) (by exact q1.symm▸(dd (qc (O.c0 [c / 64 % 64,c / 64,c / 4096] [.le (.c 32) (.v 1),.eq (.a (.m 64 (.v 2)) (.v 0)) (.v 1),.eq (.v 2) (.c 0)] (.le (.c 32) (.v 0)) (.l [1,0,64,1,0,1]) rfl ((au4 (by decide:0<64)).2 (ahr h2):32<=c / 64) t3 A0) 128) (qc (ahu (we _ (by decide:0<64))) 128)))
   else
    have n0:¬(0xE0+c / 4096==0xE0)=true:=fun e=>A0 (auk (k:=0) (eq_of_beq e))
    if A1:c / 4096=13 then
     exact@fin 0x80 0x9F (fun r=>(if_neg n0).trans (if_pos (A1▸rfl))) (by exact q1.symm▸(dd (kn ..) (qc (O.c0 [c / 64 % 64,c / 64,c / 4096] [.lt (.v 1) (.c 864),.eq (.a (.m 64 (.v 2)) (.v 0)) (.v 1),.eq (.v 2) (.c 13)] (.le (.v 0) (.c 31)) (.l [1,64,0,0,1,1]) rfl t2 t3 A1) 128)))
    else
     exact@fin 0x80 0xBF (fun r=>(if_neg n0).trans ((if_neg fun e=>A1 (auk (k:=13) (eq_of_beq e))).trans (if_pos (dd (qc (aub A0) 224) (qc (aw A (by decide:13<=15)) 224))))) q2
def a2m(a b:List Nat):ek (a++b)=ek a++ek b:=by simp[ek]
def anm(c:Nat):1<=(kf c).length:=Str.utf8Of_pos c
theorem aqr:∀l:List Nat,l.length<=(ek l).length
 |[]=>g9 _
 |c::l=>by have:=aqr l;have:=anm c;simp only[ek,ad6,de,dh]at *;exact O.ck [_,_,_] [.le .x0 .x2,.le (.c 1) .x1] (.le (.a .x0 (.c 1)) (.a .x1 .x2)) 111 rfl ‹_› this
theorem afs:∀l:List Nat,(ek l).length<=4 * l.length
 |[]=>by decide
 |c::l=>by
  have:=afs l;simp only[ek,ad6,de,dh]at *;exact O.ck [_,_,_] [.le .x1 (.m 4 .x2),.le .x0 (.c 4)] (.le (.a .x0 .x1) (.m 4 (.a .x2 (.c 1)))) 111 rfl this (by delta kf;(repeat' split)<;>simp:(kf c).length<=4)
noncomputable abbrev DSt:=Nat×Array Nat×Builtin._codecs.Faults
theorem a20(f:Nat->DSt->Sem (ForInStep DSt))(l:List Nat)(b:Array UInt8)(hb:b=(ek l).toArray)(hl:Low l)(hz:l.length<=sizeLine)
  (h1:∀j p out st,out.size<=sizeLine->p>=b.size->f j (p,out,st)=pure (.done (p,out,st)))
  (h2:∀j p out st cs next,out.size<=sizeLine->¬p>=b.size->Builtin._codecs.utf8Decoder.find true b p=.text cs next->f j (p,out,st)=pure (.yield (next,out++cs.toArray,st))) :
  ∀(todo done:List Nat) (js:List Nat),l=done++todo->todo.length<=js.length->(forIn js (((ek done).length,done.toArray,({}:Builtin._codecs.Faults)):DSt) f:Sem DSt)=pure ((ek l).length,l.toArray,{})
 |[],done,[],e,_=>by simp at e;subst e;rfl
 |[],done,j::js,e,_=>by
  simp at e;subst e;rw[uw,h1 _ _ _ _ (by assumption) (by rw[hb];exact ay _)]
  rfl
 |c::todo,done,[],e,h=>by simp at h
 |c::todo,done,j::js,e,h=>by
  have hc:c<0xD800:=hl c (by rw[e];exact abu _ (.head _))
  have he:ek l=ek done++(kf c++ek todo):=by rw[e,a2m];exact ix _
  have hfind:Builtin._codecs.utf8Decoder.find true b (ek done).length=.text [c] ((ek done).length+(kf c).length):=by
   show(match aeg b (ek done).length with
    |(.char c,next)=>Builtin._codecs.Found.char c next
    |(.bad _ stop reason,_)=>_)=_
   rw[hb,he,a5p _ _ hc];rfl
  rw[uw,h2 _ _ _ _ _ _ (by have:=congrArg pd e;simp at this |-;exact O.ck [_,_,_,_] [.le .x2 .x1,.eq .x2 (.a .x0 (.a .x3 (.c 1)))] (.le .x0 .x1) 1011 rfl hz this) (by rw[hb,he];have:=anm c;simp;exact O.ck [_,_] [.le (.c 1) .x0] (.lt (.c 0) (.a .x0 .x1)) 11 rfl this:¬(ek done).length>=b.size) hfind]
  have ih:=a20 f l b hb hl hz h1 h2 todo (done++[c]) js (by simp[e]) (by simpa using h)
  rw[a2m,de,show ek [c]=kf c by simp[ek]]at ih
  show(forIn js ((ek done).length+(kf c).length,done.toArray++[c].toArray,({}:Builtin._codecs.Faults)) f:Sem DSt)=_;rw[show(done.toArray++[c].toArray)=(done++[c]).toArray by simp]
  exact ih
def aod(id:String)(x:Str)(hl:Low x.cps.toList)(hz:x.length<=sizeLine):Builtin._codecs.runDecoder id Builtin._codecs.utf8Decoder none true (enc x) 0 []=pure (x.cps,(enc x).size):=by
 unfold Builtin._codecs.runDecoder;dsimp only;rw[agx];simp only[au3,adp,amv,Nat.div_one];have key:=fun f h1 h2=>a20 f x.cps.toList (enc x) rfl hl (by rw[l7];exact hz:x.cps.toList.length<=sizeLine) h1 h2 x.cps.toList [] (uo 0 (enc x).size) rfl (by have:=aqr x.cps.toList;simpa[enc]using this)
 refine aay (congrArg (fun m=>m >>= _) (key _ ?_ ?_)) ?_
 .intro j p out st ho hp;dsimp only;rw[if_neg (gi.mpr ho),if_pos hp]
 .intro j p out st cs next ho hp hfind;dsimp only;rw[if_neg (gi.mpr ho),if_neg hp];rw[hfind]
 .show(pure _:Sem _)=_;rfl
def bei(x:Str)(hl:Low x.cps.toList):x.cps.findIdx? ahn=none:=by
 rw[av6];intro c hc;have:=hl c (by simpa using hc)
 simp[ahn];exact fun h=>absurd this (gi.2 h)
theorem a1w:∀(l:List Nat) (a:Array UInt8),l.foldl (fun acc y=>acc++(kf y).toArray) a=a++(ek l).toArray
 |[],a=>rfl
 |c::l,a=>by rw[q8,a1w l];simp[ek]
def a51{S:Type}(f:Nat->S->Sem (ForInStep S))(s0 s1:S)(n:Nat)(h1:f 0 s0=pure (.yield s1))(h2:f 1 s1=pure (.done s1)):forIn (uo 0 (n+1)) s0 f=(pure s1:Sem S):=by
 rw[abe,uw,h1];show(forIn (uo 1 n) s1 f:Sem S)=_;induction n with
 |zero=>rfl
 |succ n=>rw[abe,uw,h2];rfl
def bau{S:Type}{f:Nat->S->Sem (ForInStep S)}{s0:S}{k:S->Sem (Array UInt8)}{res:Array UInt8}(h0:n=0->k s0=pure res)(s1:S)(h1:n≠0->f 0 s0=pure (.yield s1))(h2:f 1 s1=pure (.done s1))(h3:k s1=pure res) :
  (do let r <-forIn [0:n] s0 f;k r)=pure res:=by
 rw[agx];induction n with
 |zero=>exact h0 rfl
 |succ n=>
  simp only[au3,adp,amv,Nat.div_one];rw[a51 f s0 s1 n (h1 (ato n)) h2];exact h3
def bej(id:String)(v:ae)(x:Str)(hl:Low x.cps.toList)(hz:4 * x.length<=sizeLine):Builtin._codecs.encodeNarrow id Builtin._codecs.utf8Codec none v x=pure (enc x):=by
 have hout:(x.cps.extract 0 x.cps.size).foldl (fun acc y=>acc++(Builtin._codecs.utf8Codec.bytesOf y).toArray) #[]=enc x:=by
  rw[aec,<-aua,show(fun(acc:Array UInt8) y=>acc++(Builtin._codecs.utf8Codec.bytesOf y).toArray)=(fun acc y=>acc++(kf y).toArray)from rfl,a1w]
  exact Array.empty_append
 refine bau (fun h=>?_) (x.cps.size,enc x,{}) (fun h=>?_) ((if_neg (gi.mpr (aw (afs x.cps.toList) hz:(enc x).size<=sizeLine))).trans ?_) rfl
 .have e:x.cps.toList=[]:=uk h;exact congrArg (pure ·) (show #[]=(ek x.cps.toList).toArray by rw[e];rfl)
 .have lt:=aub h;refine(if_neg (oz _)).trans ?_;rw[show x.cps[0]?=some (x.cps[0]'lt)from ui lt];refine(if_pos ?_).trans ?_
  .have:=hl _ (Array.getElem_mem_toList lt);show(!ahn _)=true;simp[ahn];exact O.ck [_] [.lt .x0 (.c 55296)] (.o (.lt .x0 (.c 55296)) (.lt (.c 57343) .x0)) 110 rfl this
  .dsimp only;rw[(by rw[aec];exact bei x hl:(x.cps.extract 0 x.cps.size).findIdx? Builtin._codecs.utf8Codec.bad=none),Option.getD_none,aec,aec,<-aec (xs:=x.cps),hout,sv]
 .rw[show x.cps[x.cps.size]?=none from am4 (ay _)]
noncomputable def ac7(x:Str):Bool:=x.cps.all (·<0xD800)
def bbf(h:ac7 x=true):Low x.cps.toList:=by
 intro c hc;unfold ac7 at h;rw[ani]at h;simpa using h c (by simpa using hc)
noncomputable def oi:D->List D->Option D
 |a,[]=>(b7 a).bind fun x=>if ac7 x=true/\4 * x.length<=sizeLine then some (.bytes (enc x))else none
 |_,_=>none
def ba2:aaq G n "encode" oi:=fun A g s v d0 ds d R x q y=>by
 delta oi at y;split at y
 .refine aq y ?_;clear y;intro z hz y;split at y
  .rename_i hc;cases y;obtain⟨t,rfl⟩:=q.str hz;refine⟨"str",_,am5,avo,PySem.F.type_str_encode,n4 _ _ _,(fun _ e=>nomatch e),fun g' s' vs e r=>?_⟩
   have:vs=[]:=r.nil;subst this;refine m0 avo (n4 _ _ _) PySem.F.entry_str_encode ?_ (PySem.F.args_str_encode_1 _);rw[encode_tree,encodeRoad_utf8,bej _ _ _ (bbf hc.1) hc.2];refine ak (bP ?_);have hsz:(enc z).size<=sizeLine:=by
    have:=afs z.cps.toList;simp only[enc,ko];exact aw this hc.2
   exact ahg (bo ⟨_,rfl,bj.tok (e.sok x) ⟨_,rfl⟩⟩) hsz
  .exact nomatch y
 .exact nomatch y
def bek{y:Str}(hx:Low x.cps.toList)(hy:Low y.cps.toList)(hz:x.length<=sizeLine)(hz':y.length<=sizeLine)(h:enc x=enc y):x=y:=by
 have h1:=aod "" x hx hz;rw[h,aod "" y hy hz']at h1;have h2:((y.cps,(enc y).size):Array Nat×Nat)=(x.cps,(enc y).size):=by
  have:(agy (y.cps,(enc y).size):Sem (Array Nat×Nat))=agy (x.cps,(enc y).size):=h1;exact Sem.pure.inj this
 cases x;cases y;simp only[Prod.mk.injEq,and_true]at h2;rw[h2]
open Classical in
noncomputable def acz(b:Array UInt8):Option Str:=if h:∃x:Str,Low x.cps.toList/\1<=x.length/\x.length<=sizeLine/\enc x=b then some h.choose else none
def bfx{b:Array UInt8}(h:acz b=some x):Low x.cps.toList/\1<=x.length/\x.length<=sizeLine/\enc x=b:=by
 delta acz at h;split at h
 .rename_i hx;cases h;exact hx.choose_spec
 .exact nomatch h
def bfy(h:Low x.cps.toList)(h1:1<=x.length)(h2:x.length<=sizeLine):acz (enc x)=some x:=by
 have hx:∃y:Str,Low y.cps.toList/\1<=y.length/\y.length<=sizeLine/\enc y=enc x:=⟨x,h,h1,h2,rfl⟩;delta acz;refine(dif_pos hx)▸?_;obtain⟨c1,_,c3,c4⟩:=hx.choose_spec;rw[bek c1 h c3 h2 c4]
noncomputable def vk:D->List D->Option D
 |.bytes b,[]=>(acz b).map .str
 |_,_=>none
set_option tactic.hygienic true in
def ba3:aaq G n "decode" vk:=fun A g s v d0 ds d R x q y=>by
 unfold vk at y;split at y
 .rename_i b;refine b9 y fun z hz e0=>?_;clear y;subst e0
  obtain⟨h1,h2,h3,h4⟩:=bfx hz;have:∃t,v=.bytes b t:=by
   rcases q with q|⟨a,rfl,q,_⟩
   .exact q
   .exact q.elim
  obtain⟨t,rfl⟩:=this;refine⟨"bytes",_,FB.plainAttrs_bytes,FB.slot_bytes_decode,FB.type_bytes_decode,ag7 _ _ _,(fun _ e=>nomatch e),fun g' s' vs e r=>?_⟩
  have:vs=[]:=r.nil;subst this;obtain⟨c,cs,hcs⟩:∃c cs,b=(c::cs).toArray:=by
   have hpos:1<=(ek z.cps.toList).length:=by
    have:=aqr z.cps.toList;simp only[l7]at this;exact aw h2 this
   rw[<-h4];unfold enc;cases hl:ek z.cps.toList with
   |nil=>rw[hl]at hpos;simp at hpos
   |cons c cs=>exact⟨c,cs,rfl⟩
  subst hcs;refine qq (KBd.decode (x:=z) (n:=(enc z).size) (fun id=>by rw[<-h4];exact aod id z h1 h3) (h3:z.length<=16777216) ?_)
  intro t' k ht;exact bj.tok (e.sok x) ve ht
 .exact nomatch y
noncomputable def ru(z:Str):D->D->Option D
 |a,.hstr y=>(b7 a).bind fun x=>if(y==z)=false/\x.length+(x.length+1) * z.length<=16777216 then some (.str (alr x y z))else none
 |_,_=>none
def aj9{o:al}(h₀:Den G sc n o f)(h1:Den G sc n e f₁)(hs:gg e=true)
  (hbase:∀env,attributeBase o "replace" env (eval o env)=eval o env) (hline:(apos.endLine==pos.line)=true):Den G sc n (.Call (.Attribute o "replace" apos) [e,.Constant (.str z) k p] [] pos) (bin (ru z) f f₁):=fun _ _ _ _ _ _ R X y=>by
 refine aq y ?_;clear y;intro d0 hd0 y;refine aq y ?_;clear y;intro d1 hd1 y;refine yu (hbase _) ?_ hline (gv (h₀ R X hd0) (fun ov s₁ g1 e1 q1=>?_))
 .rw[uz hs rfl];rfl
 .unfold ru at y;split at y
  .rename_i w';refine aq y ?_;clear y;intro x hx y;split at y
   .rename_i hc;cases y;obtain⟨t,rfl⟩:=gr q1 hx;refine⟨"str",_,am5,PySem.F.slot_str_replace,PySem.F.type_str_replace,n4 _ _ _,(fun _ e=>nomatch e),?_⟩
    rw[uz hs rfl];refine ug rfl (qf (ju (gv (h1 R (X.mono e1) hd1) (fun v2 s₂ g₂ e2 q2=>ju (ahz (q9 ?_))))))
    obtain⟨t',rfl,h0,hlt⟩:=q2;have X2:=(X.mono e1).mono e2;have e3:Ext G g₂ s₂ g₂ {s₂ with toks:=s₂.toks+1}:=Ext.grow (h':=s₂.heap) X2.sok (fun _ _ e=>e) (fm _)
    refine qq (SC.replace (su h0) (su X2.sok.toks) (k8 (i7 hlt X2.sok.lim)) hc.1 hc.2 ?_);intro t'' k' hk;exact(((bj.tok (e3.sok X2.sok) ve hk).after e3).after e2).after e1
   .exact nomatch y
  .exact nomatch y
variable (G)
structure Turn(wr:List ai)(g:ah)(s:af)(g':ah)(s':af):Prop where
 gle:VLe g g'
 new:∀a o,g'.f a=some o->g.f a=some o\/s.heap.get? a=none
 heap:∀a o,a≠G.P->a∉wr->s.heap.get? a=some o->s'.heap.get? a=some o
 view:∀a o,g'.f a=some o->s'.heap.get? a=some o
 gP:g'.f G.P=none
 gok:GOK G s'.heap
 toks:s.toks<=s'.toks
 lim:g'.lim<=s'.toks
 os:s'.os=s.os
 bare:AllBare s'.gens
 gsize:s.gens.size<=s'.gens.size
 gold:∀i,i<s.gens.size->s'.gens[i]?=s.gens[i]?
structure eh(A:az)(tgt:al)(it:ae)(wr:List ai)(ds:List D)(St:Nat->ah->bf->Prop):Prop where
 hold:∀i g g' h h',St i g h->VLe g g'->(∀a∈wr,∀o,h.get? a=some o->h'.get? a=some o)->St i g' h'
 live:∀i g h,St i g h->∀a∈wr,∃o,h.get? a=some o
 next:∀i (hi:i<ds.length) g s,SOK G g s->St i g s.heap->(∀a∈wr,g.f a=none/\G.hB.get? a=none/\a≠G.P) ->
  wpAny (model prog w) A (pyNext it) (fun r s₁=>∃v,r=some v/\wpAny (model prog w) A (letOwnedTupleGo tgt it v) (fun _ s₂=>∃g₂,Turn G wr g s g₂ s₂/\Rep prog w g₂ v ds[i]/\St (i+1) g₂ s₂.heap) NoE s₁) NoE s
 self:∀i g (s:af) (Q:ae->af->Prop) (E:ae->af->Prop),St i g s.heap->Q it s->wpAny (model prog w) A (pyIter it) Q E s
 done:∀g s,SOK G g s->St ds.length g s.heap->(∀a∈wr,g.f a=none/\G.hB.get? a=none/\a≠G.P)->wpAny (model prog w) A (pyNext it) (fun r s₁=>r=none/\∃g₂,Turn G wr g s g₂ s₁) NoE s
variable {G}
variable{g':ah}{s':af}{wr:List ai}
def Turn.sok{g:ah}{s:af}(x:Turn G wr g s g' s')(h:SOK G g s):SOK G g' s':=⟨x.view,x.gP,x.gok,i7 h.toks x.toks,x.lim,x.bare⟩
variable{I:ai}
def Turn.but{g:ah}{s:af}{tk:Nat}(x:SOK G g s)(hI:g.f I=none/\G.hB.get? I=none/\I≠G.P)(k:um I s.heap h')(ht:s.toks<=tk):Turn G [I] g s g {s with heap:=h',toks:=tk} where
 gle:=.refl _
 new:=fun _ _ e=>.inl e
 heap:=fun a o _ ha e=>k a o (by simpa using ha) e
 view:=fun a o e=>k a o (by rintro rfl;exact ns hI.1 e) (x.view a o e)
 gP:=x.gP
 gok:=by
  refine⟨fun a o ha e=>k a o (by rintro rfl;exact ns hI.2.1 e) (x.gok.keep a o ha e),?_,?_⟩
  .refine i3 x.gok.hasP fun o vs e r=>?_
   have:=x.gok.tab;replace this:=e.symm▸this;rw[k _ _ hI.2.2.symm e];exact this
  .refine i3 x.gok.hasP fun o vs e r=>?_
   exact⟨o,vs,k _ _ hI.2.2.symm e,r⟩
 toks:=ht
 lim:=aw x.lim ht
 os:=rfl
 bare:=x.bare
 gsize:=ay _
 gold:=fun _ _=>rfl
def Turn.butNew{o:Obj}{g:ah}{s:af}{tk:Nat}(x:SOK G g s)(hI:g.f I=none/\G.hB.get? I=none/\I≠G.P)(k:um I s.heap h')(ht:s.toks<=tk)(ha:s.heap.get? a=none)(ho:h'.get? a=some o)(hIa:∃oI,s.heap.get? I=some oI) :
  Turn G [I] g s (bu g a o) {s with heap:=h',toks:=tk}:=by
 have b:=Turn.but (tk:=tk) x hI k ht;exact{b with
  gle:=bu.le (gu x ha)
  new:=fun c o' e=>ifE e (fun h _=>.inr (h▸ha)) fun _ e=>.inl e
  view:=fun c o' e=>ifE e (fun h e=>h▸e▸ho) fun _ e=>b.view c o' e
  gP:=if h:G.P=a then i3 x.gok.hasP fun o' _ e _=>ns (h▸ha) e else(if_neg h).trans x.gP
  lim:=aw x.lim ht}
variable{Q:Unit->af->Prop}{tgt:al}
def bbv{A:az}{s:af}{v:ae}{E:ae->af->Prop}(q:Q () s)
  (h:∀a,wpAny (model prog w) A (letOwnedTupleGo (.Tuple [] 0 default) (.ref I) (.ref a)) Q E s):wpAny (model prog w) A (letOwnedTupleGo tgt (.ref I) v) Q E s:=by
 have key:wpAny (model prog w) A (letOwnedTupleGo (.Tuple [] 0 default) (.ref I) v) Q E s:=by
  induction v with
  |ref a=>exact h a
  |_=>exact bo q
 cases tgt with
 |Tuple=>exact key
 |List=>exact key
 |_=>exact bo q
variable{cls:String}
def acf{A:az}{s:af}{v:ae}{o:Obj}{vs:Array ae}{E:ae->af->Prop}(e:s.heap.get? I=some o)(hc:o.cls=.type cls)(hd:o.data=.fields vs)
  (hn:["enumerate", "zip", "dict_itemiterator", "dict_reverseitemiterator", "odict_iterator", "itertools.zip_longest", "itertools.pairwise"].contains cls=false) (q:Q () s):wpAny (model prog w) A (letOwnedTupleGo tgt (.ref I) v) Q E s:=
 bbv q fun a=>ak (wpAny_load e (hc▸hd▸by
  show wpAny _ A (if(_ && _)=true then _ else _) Q E s
  rw[hn,ahj];exact bo q))
theorem eh.list{A:az}{tgt:al}{I l:ai}{vs:List ae}{m:Nat}{ds:List D}(hh:A.handled=none)(hne:l≠I) :
  eh G A tgt (.ref I) [I] ds (fun i g h=>h.IsListIter I l i/\g.f l=some (c8 "list" vs m)/\a9 prog w g vs ds) where
 hold:=fun i g g' h h' ⟨a,b,c⟩ hg hk=>⟨a.at fun o e=>hk I (.head _) o e,hg.at' _ _ b,c.mono prog w hg⟩
 live:=fun i g h ⟨⟨o,e,_⟩,_⟩ a ha=>by simp at ha;subst ha;exact⟨o,e⟩
 next:=fun i hi g s x ⟨hit,hl,r⟩ hw=>by
  refine oEA (r.get (gq hi)) fun v hv q=>?_
  refine wpAny_pyNext_list_item hit (fz (x.view _ _ hl)) (by simpa using hv) fun h' hit' hs=>⟨v,rfl,?_⟩
  refine kq (id hit') fun o e hc hd=>?_
  refine acf e hc hd (by decide) ⟨g,Turn.but (tk:=s.toks) x (hw I (.head _)) hs.extBut (ay _),q,hit',hl,r⟩
 self:=fun _ _ _ _ _ st q=>wpAny_pyIter_listiter st.1 q
 done:=fun g s x ⟨hit,hl,r⟩ hw=>by
  exact wpAny_pyNext_list_end hh hit (fz (x.view _ _ hl)) (by simp[r.length]) fun h' hk=>⟨rfl,g,Turn.but (tk:=s.toks) x (hw I (.head _)) hk (ay _)⟩
theorem eh.tuple{A:az}{tgt:al}{I l:ai}{vs:List ae}{m:Nat}{ds:List D}(hh:A.handled=none)(hne:l≠I) :
  eh G A tgt (.ref I) [I] ds (fun i g h=>h.IsTupleIter I l i/\g.f l=some (c8 "tuple" vs m)/\a9 prog w g vs ds) where
 hold:=fun i g g' h h' ⟨a,b,c⟩ hg hk=>⟨a.at fun o e=>hk I (.head _) o e,hg.at' _ _ b,c.mono prog w hg⟩
 live:=fun i g h ⟨⟨o,e,_⟩,_⟩ a ha=>by simp at ha;subst ha;exact⟨o,e⟩
 next:=fun i hi g s x ⟨hit,hl,r⟩ hw=>by
  refine oEA (r.get (gq hi)) fun v hv q=>?_
  refine wpAny_pyNext_tuple_item hit (ly (x.view _ _ hl)) (by simpa using hv) fun h' hit' hs=>⟨v,rfl,?_⟩
  refine kq (id hit') fun o e hc hd=>?_
  refine acf e hc hd (by decide) ⟨g,Turn.but (tk:=s.toks) x (hw I (.head _)) hs.extBut (ay _),q,hit',hl,r⟩
 self:=fun _ _ _ _ _ st q=>wpAny_pyIter_tupleiter st.1 q
 done:=fun g s x ⟨hit,hl,r⟩ hw=>by
  exact wpAny_pyNext_tuple_end hh hit (ly (x.view _ _ hl)) (by simp[r.length]) fun h' hk=>⟨rfl,g,Turn.but (tk:=s.toks) x (hw I (.head _)) hk (ay _)⟩
noncomputable def th(kvs:List (Str×D)):List D:=kvs.map fun p=>.tup [.str p.1,p.2]
def beu{d:ai}{o:Obj}{kvs:List (Str×ae)}(e:h.get? d=some o)(hd:o.IsDictOf (strKind prog w) kvs):∃ep,(∀h':bf,h'.get? d=some o->h'.DictAt (strKind prog w) d kvs ep):=by
 refine oEE hd fun es ep r=>?_;clear hd
 exact⟨ep,fun h' e'=>⟨o,es,e',r⟩⟩
variable{l:List (Str×D)}
def awo{g:ah}{vs:List ae}(r:dz prog w g vs l)(i:Nat)(hi:i<l.length):∃v,(gy vs l)[i]?=some (l[i].1,v)/\Rep prog w g v l[i].2:=by
 induction r using dz.ind generalizing i with
 |n=>exact absurd hi (oz i)
 |c q _ ih=>induction i with
  |zero=>exact⟨_,rfl,q⟩
  |succ i=>exact ih i (uh hi)
variable{ep:Nat}{kvs:List (Str×D)}
def eh.values{A:az}{d:ai}{o:Obj}{vs:List ae}(hh:A.handled=none)(hne:d≠I)
  (hat:∀h':bf,h'.get? d=some o->h'.DictAt (strKind prog w) d (gy vs kvs) ep) :
  eh G A tgt (.ref I) [I] (kvs.map (·.2)) (fun i g h=>h.IsValIter I d i (gy vs kvs).length ep/\g.f d=some o/\dz prog w g vs kvs) where
 hold:=fun i g g' h h' ⟨a,b,c⟩ hg hk=>⟨a.at fun o e=>hk I (.head _) o e,hg.at' _ _ b,c.mono prog w hg⟩
 live:=fun i g h ⟨⟨o,e,_⟩,_⟩ a ha=>by simp at ha;subst ha;exact⟨o,e⟩
 next:=fun i hi g s x ⟨hit,hl,r⟩ hw=>by
  refine oEA (awo r i (by simpa using hi)) fun v hv q=>?_
  refine wpAny_pyNext_values_item hit (hat _ (x.view _ _ hl)) hv fun h' hit' hs=>⟨v,rfl,?_⟩
  refine kq (id hit') fun o' e hc hd=>?_
  refine acf e hc hd (by decide) ⟨g,Turn.but (tk:=s.toks) x (hw I (.head _)) hs.extBut (ay _),by simpa using q,hit',hl,r⟩
 self:=fun _ _ _ _ _ st q=>wpAny_pyIter_valiter st.1 q
 done:=fun g s x ⟨hit,hl,r⟩ hw=>by
  refine wpAny_pyNext_values_end hh hit (hat _ (x.view _ _ hl)) ?_ fun h' hk=>⟨rfl,g,Turn.but (tk:=s.toks) x (hw I (.head _)) hk (ay _)⟩
  rw[ah6];rw[sz r];simp
def a81{A:az}{it d:ai}{i:Nat}{ok ov:ae}{s:af}{Q E:ae->af->Prop}(he:IsItemIter s.heap it d i n ep ok ov)(h:Q (.ref it) s):wpAny (model prog w) A (pyIter (.ref it)) Q E s:=by
 have hT:s.TypeIs (.ref it) "dict_itemiterator" := ⟨_,he,rfl⟩;have entry:entryFor table "dict_itemiterator.__iter__" = some Builtin.«dict_keyiterator.__iter__»:=
  entryFor_alias (id' := "dict_keyiterator.__iter__") (by kernel_rfl) rfl (by decide+kernel) (by kernel_rfl)
 refine wpAny_pyIter_slot hT F.slot_dict_itemiterator_iter (m0 F.slot_dict_itemiterator_iter hT entry ?_ (F.args_dict_itemiterator_iter_1 _));exact bo ⟨_,rfl, "dict_itemiterator",_,hT,F.slot_dict_itemiterator_next.lookup,h⟩
variable{elts:List al}
def eh.items{A:az}{x1:Nat}{d:ai}{o:Obj}{vs:List ae}(hh:A.handled=none)(hne:d≠I)
  (hat:∀h':bf,h'.get? d=some o->h'.DictAt (strKind prog w) d (gy vs kvs) ep) :
  eh G A (.Tuple elts x1 pos) (.ref I) [I] (th kvs) (fun i g h=>(∃ok ov,IsItemIter h I d i (gy vs kvs).length ep ok ov)/\g.f d=some o/\dz prog w g vs kvs) where
 hold:=fun i g g' h h' ⟨⟨ok,ov,a⟩,b,c⟩ hg hk=>⟨⟨ok,ov,hk I (.head _) _ a⟩,hg.at' _ _ b,c.mono prog w hg⟩
 live:=fun i g h ⟨⟨ok,ov,e⟩,_⟩ a ha=>by simp at ha;subst ha;exact⟨_,e⟩
 next:=fun i hi g s x ⟨⟨ok,ov,hit⟩,hl,r⟩ hw=>by
  have hI:=hw I (.head _);have hi':i<kvs.length:=by simpa[th]using hi
  refine oEA (awo r i hi') fun v hv q=>?_
  refine wpAny_pyNext_items_item hit (hat _ (x.view _ _ hl)) hv fun key h' hkey hout ht hsz hk=>⟨_,rfl,?_⟩
  refine wpAny_letOwnedTupleGo_items hout fun h'' hit'' hs=>?_
  refine⟨_,Turn.butNew (tk:=s.toks) x hI (fun b o hb e=>hs.extBut b o hb (hk b o hb e):um I s.heap h'') (ay _) (dq _) (hs.extBut _ _ (su (il hit):s.heap.objs.size≠I) ht:h''.get? s.heap.objs.size=some (c8 "tuple" [key,v] 0)) ⟨_,hit⟩,?_,⟨key,v,hit''⟩,(bu.le (gu x (dq _))).at' _ _ hl,r.mono prog w (bu.le (gu x (dq _)))⟩
  have hget:(th kvs)[i]=.tup [.str kvs[i].1,kvs[i].2]:=by simp[th]
  refine hget▸?_;refine oE (Value.isStrOf_shape hkey) fun t ht=>?_
  exact⟨_,[key,v],0,rfl,bu.self,⟨t,ht⟩,q.mono prog w (bu.le (gu x (dq _))),trivial⟩
 self:=fun _ _ _ _ _ ⟨⟨_,_,st⟩,_⟩ q=>a81 st q
 done:=fun g s x ⟨⟨ok,ov,hit⟩,hl,r⟩ hw=>by
  have hI:=hw I (.head _);refine wpAny_pyNext_items_end hh hit (hat _ (x.view _ _ hl)) ?_ fun h' hk=>⟨rfl,g,Turn.but (tk:=s.toks) x hI hk (ay _)⟩
  rw[ah6];rw[sz r];simp[th]
def Turn.buts{g:ah}{s:af}{tk:Nat}(x:SOK G g s)(hw:∀a∈wr,g.f a=none/\G.hB.get? a=none/\a≠G.P)(k:∀c o,c∉wr->s.heap.get? c=some o->h'.get? c=some o)(ht:s.toks<=tk):Turn G wr g s g {s with heap:=h',toks:=tk} where
 gle:=.refl _
 new:=fun _ _ e=>.inl e
 heap:=fun a o _ ha e=>k a o ha e
 view:=fun a o e=>k a o (fun ha=>by exact ns ((hw a ha).1) e) (x.view a o e)
 gP:=x.gP
 gok:=by
  have hP:G.P∉wr:=fun ha=>(hw _ ha).2.2 rfl
  refine⟨fun a o ha e=>k a o (fun h=>by exact ns ((hw a h).2.1) e) (x.gok.keep a o ha e),?_,?_⟩
  .obtain⟨o,vs,e,r⟩:=x.gok.hasP;have:=x.gok.tab;replace this:=e.symm▸this;rw[k _ _ hP e];exact this
  .obtain⟨o,vs,e,r⟩:=x.gok.hasP;exact⟨o,vs,k _ _ hP e,r⟩
 toks:=ht
 lim:=aw x.lim ht
 os:=rfl
 bare:=x.bare
 gsize:=ay _
 gold:=fun _ _=>rfl
def Turn.butsNew{o:Obj}{g:ah}{s:af}{tk:Nat}(x:SOK G g s)(hw:∀a∈wr,g.f a=none/\G.hB.get? a=none/\a≠G.P)(k:∀c o,c∉wr->s.heap.get? c=some o->h'.get? c=some o)(ht:s.toks<=tk)
  (ha:s.heap.get? a=none) (ho:h'.get? a=some o):Turn G wr g s (bu g a o) {s with heap:=h',toks:=tk}:=by
 have b:=Turn.buts (tk:=tk) x hw k ht;exact{b with
  gle:=bu.le (gu x ha)
  new:=fun c o' e=>by
   delta bu at e;dsimp only at e;split at e
   .rename_i hb;subst hb;exact .inr ha
   .exact .inl e
  view:=fun c o' e=>by
   delta bu at e;dsimp only at e;split at e
   .rename_i hb;subst hb;cases e;exact ho
   .exact b.view c o' e
  gP:=by
   delta bu;dsimp only;split
   .rename_i hb;obtain⟨o',_,e,_⟩:=x.gok.hasP;replace e:=hb.symm▸e;exact ns ha e
   .exact x.gP
  lim:=aw x.lim ht}
def Ext.turn{g g₂:ah}{s s₂:af}(x:Ext G g s g1 s₁)(y:Turn G wr g1 s₁ g₂ s₂)(hw:∀a∈wr,s.heap.get? a=none):Ext G g s g₂ s₂ where
 gle:=x.gle.trans y.gle
 new:=fun a o h=>by
  rcases y.new a o h with h1|h1
  .exact x.new a o h1
  .refine if ha:a=G.P then ?_ else ?_
   .subst ha;exact ns y.gP h
   .right;refine noS fun o' hq=>?_
    exact ns h1 (x.heap a o' ha hq)
 heap:=fun a o ha h=>y.heap a o ha (fun hm=>by exact ns (hw a hm) h) (x.heap a o ha h)
 view:=y.view
 gP:=y.gP
 gok:=y.gok
 toks:=aw x.toks y.toks
 lim:=y.lim
 os:=y.os.trans x.os
 bare:=y.bare
 gsize:=aw x.gsize y.gsize
 gold:=fun i hi=>(y.gold i (i7 hi x.gsize)).trans (x.gold i hi)
noncomputable def iu(x:Str):List D:=x.cps.toList.map fun c=>.str ⟨#[c]⟩
def eh.ascii{A:az}{t:Tok}(hh:A.handled=none) :
  eh G A tgt (.ref I) [I] (iu x) (fun i g h=>h.IsStrIter I "str_ascii_iterator" x t i) where
 hold:=fun i g g' h h' ⟨o,e,r⟩ hg hk=>⟨o,hk I (.head _) o e,r⟩
 live:=fun i g h ⟨o,e,_⟩ a ha=>by simp at ha;subst ha;exact⟨o,e⟩
 next:=fun i hi g s xx hit hw=>by
  have hi':i<x.cps.size:=by simpa[iu]using hi
  refine wpAny_pyNext_ascii_item hit (c:=x.cps[i]) (by simp[hi']) fun h' hit' hs=>⟨_,rfl,?_⟩
  obtain⟨o',e,hc,hd⟩:=id hit';refine acf e hc hd (by decide) ⟨g,Turn.buts (tk:=s.toks+1) xx hw (fun c o hc e=>hs.extBut c o (by simpa using hc) e) (fm _),?_,hit'⟩
  simp only[iu,aba,am1];exact⟨_,rfl⟩
 self:=fun _ _ _ _ _ st q=>wpAny_pyIter_striter_ascii st q
 done:=fun g s xx hit hw=>by
  refine wpAny_pyNext_ascii_end hh hit (by simp[iu]) fun h' hk=>⟨rfl,g,Turn.buts (tk:=s.toks) xx hw (fun c o hc e=>hk c o (by simpa using hc) e) (ay _)⟩
noncomputable def aev(k:Nat):List D:=(ed k).map fun i:Nat=>D.int (i:Int)
def eh.range{A:az}(hh:A.handled=none) :
  eh G A tgt (.ref I) [I] (aev k) (fun i g h=>IsRangeIter h I (i:Nat) ((k:Int) - (i:Nat)) 1) where
 hold:=fun i g g' h h' e hg hk=>hk I (.head _) _ e
 live:=fun i g h e a ha=>by simp at ha;subst ha;exact⟨_,e⟩
 next:=fun i hi g s xx hit hw=>by
  have hi':i<k:=by simpa[aev]using hi
  refine wpAny_pyNext_range_item hit (Int.sub_pos_of_lt (mx.2 hi')) fun h' hit' hs=>⟨_,rfl,?_⟩
  refine acf hit' rfl rfl (by decide) ⟨g,Turn.buts (tk:=s.toks+1) xx hw (fun c o hc e=>hs.extBut c o (by simpa using hc) e) (fm _),?_,?_⟩
  .simp only[aev,aba,ahy];exact⟨_,rfl⟩
  .rw[show((i+1:Nat):Int)=(i:Int)+1 from rfl,show(k:Int) - ((i:Int)+1)=(k:Int) - (i:Int) - 1 from(Int.sub_sub ..).symm];exact hit'
 self:=fun _ _ _ _ _ st q=>wpAny_pyIter_rangeiter st q
 done:=fun g s xx hit hw=>by
  refine wpAny_pyNext_range_end hh hit (by simp[aev]) fun h' hk=>⟨rfl,g,Turn.buts (tk:=s.toks) xx hw (fun c o hc e=>hk c o (by simpa using hc) e) (ay _)⟩
noncomputable def nk(ds:List D):List D:=yx (fun(i:Nat) d=>D.tup [.int (i:Int),d]) (ed ds.length) ds
def aaj(ds:List D):(nk ds).length=ds.length:=by simp[nk]
def eh.enum{A:az}{x1:Nat}{e l:ai}{vs:List ae}(hh:A.handled=none)(hei:e≠I) :
  eh G A (.Tuple elts x1 pos) (.ref e) [e,I] (nk ds) (fun i g h=>(∃old,IsEnum h e I (i:Nat) old)/\h.IsListIter I l i/\g.f l=some (c8 "list" vs m)/\a9 prog w g vs ds) where
 hold:=fun i g g' h h' ⟨⟨old,a⟩,b,c,d⟩ hg hk=>⟨⟨old,hk e (.head _) _ a⟩,b.at fun o e=>hk I (.tail _ (.head _)) o e,hg.at' _ _ c,d.mono prog w hg⟩
 live:=fun i g h ⟨⟨old,a⟩,⟨o,b,_⟩,_⟩ c hc=>by
  simp at hc;rcases hc with rfl|rfl
  .exact⟨_,a⟩
  .exact⟨_,b⟩
 next:=fun i hi g s xx ⟨⟨old,he⟩,hit,hl,r⟩ hw=>by
  have hi':i<ds.length:=by simpa[aaj]using hi
  obtain⟨v,hv,q⟩:=r.get (gq hi');have hle:l≠e:=by rintro rfl;rw[(hw _ (.head _)).1]at hl;exact nomatch hl
  have hlI:l≠I:=by rintro rfl;rw[(hw _ (.tail _ (.head _))).1]at hl;exact nomatch hl
  refine wpAny_pyNext_enum_item he hit (fz (xx.view _ _ hl)) (by simpa using hv) hei fun h' he' hit' ht hsz hk=>⟨_,rfl,?_⟩
  refine av5 he' fun h'' he'' hs=>?_
  have hkb:∀c o,c∉[e,I]->s.heap.get? c=some o->h''.get? c=some o:=fun c o hc x=>by
   simp at hc;exact hs.extBut c o hc.1 (hk c o hc.1 hc.2 x)
  have hle':=bu.le (o:=c8 "tuple" [.int i s.toks,v] 0) (gu xx (dq s.heap));refine⟨_,Turn.butsNew (tk:=s.toks+1) xx hw hkb (fm _) (dq _) (hs.extBut _ _ (su (il he):s.heap.objs.size≠e) ht:h''.get? s.heap.objs.size=some (c8 "tuple" [.int i s.toks,v] 0)),?_,⟨_,by assumption⟩,hit'.extBut hs.extBut (g7 hei),hle'.at' _ _ hl,r.mono prog w hle'⟩
  have hget:(nk ds)[i]=.tup [.int (i:Int),ds[i]]:=by simp[nk]
  rw[hget];exact⟨_,[.int i s.toks,v],0,rfl,bu.self,⟨_,rfl⟩,q.mono prog w hle',trivial⟩
 self:=fun _ _ _ _ _ ⟨⟨_,st⟩,_⟩ q=>amq st q
 done:=fun g s xx ⟨⟨old,he⟩,hit,hl,r⟩ hw=>by
  rw[aaj]at he hit;refine wpAny_pyNext_enum_end hh he hit (fz (xx.view _ _ hl)) (by simp[r.length]) fun h' hk=>⟨rfl,g,Turn.buts (tk:=s.toks) xx hw (fun c o hc e=>hk c o (by simp at hc;exact hc.2) e) (ay _)⟩
structure k6(G:Gl prog w)(A:az)(I:ai)(ds:List D)(St:Nat->ah->bf->Prop):Prop where
 hold:∀i g g' h h',St i g h->VLe g g'->(∀o,h.get? I=some o->h'.get? I=some o)->St i g' h'
 live:∀i g h,St i g h->∃o,h.get? I=some o
 item:∀i (hi:i<ds.length) g (s:af) (Q:ae->af->Prop) (E:ae->af->Prop),(∀a o,g.f a=some o->s.heap.get? a=some o)->g.f I=none->St i g s.heap ->
  (∀x h' tk,s.toks<=tk->Rep prog w g x ds[i]->St (i+1) g h'->pe I s.heap h'->Q x {s with heap:=h',toks:=tk})->wpAny (model prog w) A (sr (.ref I)) Q E s
 done:∀g (s:af) (Q:ae->af->Prop) (E:ae->af->Prop),(∀a o,g.f a=some o->s.heap.get? a=some o)->g.f I=none->St ds.length g s.heap ->
  (∀h' e,um I s.heap h'->(∃o,h'.get? e=some o/\o.cls=.type "StopIteration")->E (.ref e) {s with heap:=h'})->wpAny (model prog w) A (sr (.ref I)) Q E s
theorem k6.list{A:az}{I l:ai}{vs:List ae}{m:Nat}{ds:List D}(hh:A.handled=none) :
  k6 G A I ds (fun i g h=>h.IsListIter I l i/\g.f l=some (c8 "list" vs m)/\a9 prog w g vs ds) where
 hold:=fun i g g' h h' ⟨a,b,c⟩ hg hk=>⟨a.at hk,hg.at' _ _ b,c.mono prog w hg⟩
 live:=fun i g h ⟨⟨o,e,_⟩,_⟩=>⟨o,e⟩
 item:=fun i hi g s Q E hv _ ⟨hit,hl,r⟩ hQ=>by
  refine oEA (r.get (gq hi)) fun v he q=>?_
  exact wpAny_nextOf_list_item hit (fz (hv _ _ hl)) (by simpa using he) fun h' hit' hs=>hQ v h' s.toks (ay _) q ⟨hit',hl,r⟩ hs
 done:=fun g s Q E hv _ ⟨hit,hl,r⟩ hE=>wpAny_nextOf_list_end hh hit (fz (hv _ _ hl)) (by simp[r.length]) hE
def k6.ascii{A:az}{t:Tok}(hh:A.handled=none) :
  k6 G A I (iu x) (fun i g h=>h.IsStrIter I "str_ascii_iterator" x t i) where
 hold:=fun i g g' h h' ⟨o,e,r⟩ hg hk=>⟨o,hk o e,r⟩
 live:=fun i g h ⟨o,e,_⟩=>⟨o,e⟩
 item:=fun i hi g s Q E _ _ hit hQ=>by
  have hi':i<x.cps.size:=by simpa[iu]using hi
  refine wpAny_nextOf_ascii_item hit (c:=x.cps[i]) (by simp[hi']) fun h' hit' hs=>hQ _ h' _ (fm _) ?_ hit' hs
  simp only[iu,aba,am1];exact⟨_,rfl⟩
 done:=fun g s Q E _ _ hit hE=>wpAny_nextOf_ascii_end hh hit (by simp[iu]) hE
section
variable {A:az} {E:ae->af->Prop} {s:af}
structure agp(z TI TO i1 i2:ai):Prop where
 TIz:TI≠z
 TOz:TO≠z
 i1z:i1≠z
 i2z:i2≠z
 TITO:TI≠TO
 TIi1:TI≠i1
 TIi2:TI≠i2
 TOi1:TO≠i1
 TOi2:TO≠i2
 i12:i1≠i2
variable{S1:Nat->ah->bf->Prop}
def a1k{z TI TO i1 i2:ai}{d1 d2:List D}{S2:Nat->ah->bf->Prop}{g:ah}{k:Nat}{a b:ae}{Q:ae->af->Prop}(D:agp z TI TO i1 i2)(D1:k6 G A i1 d1 S1)(D2:k6 G A i2 d2 S2)
  (hv:∀a o,g.f a=some o->s.heap.get? a=some o) (gz:g.f z=none) (gT:g.f TO=none) (g1:g.f i1=none) (g2:g.f i2=none)
  (hz:IsZip s.heap z TI TO .none) (hTI:IsPair s.heap TI (.ref i1) (.ref i2)) (hTO:IsPair s.heap TO a b) (h1:S1 k g s.heap) (h2:S2 k g s.heap) (hk1:k<d1.length) (hk2:k<d2.length)
  (hQ:∀x y h' tk,s.toks<=tk->Rep prog w g x d1[k]->Rep prog w g y d2[k]->IsZip h' z TI TO (rawInt s.heap.objs.size)->IsPair h' TO x y->S1 (k+1) g h'->S2 (k+1) g h'->IsPair h' s.heap.objs.size x y ->
   (∀c o,c≠z->c≠TO->c≠i1->c≠i2->s.heap.get? c=some o->h'.get? c=some o)->Q (.ref s.heap.objs.size) {s with heap:=h',toks:=tk}) :
  wpAny (model prog w) A (Builtin.«zip.__next__» ⟨[.ref z],[]⟩) (fun fin s'=>∃v,fin=.done (.ret v)/\Q v s') E s:=by
 have ne:∀{c b o},g.f b=none->g.f c=some o->c≠b:=fun h e q=>by subst q;rw[h]at e;cases e
 show wpAny _ _ (field (.ref z) 2 >>= _) _ _ _;refine ak (kh hz rfl (x:=.bool false) rfl ?_);show wpAny _ _ (field (.ref z) 3 >>= _) _ _ _;refine ak (kh hz rfl (x:=.ref TI) rfl ?_);refine ak (nw hTI rfl ?_);show wpAny _ _ (awj (.ref z) >>= _) _ _ _;refine ak ?_;unfold awj;refine ak (kh hz rfl (x:=.none) rfl (bo ?_));simp only[if_true];refine ak (wh ?_);refine ak (kh hz rfl (x:=.ref TO) rfl ?_);refine ak (aeb hz (gf _) fun h₁ hz1 hs1=>?_)
 replace hz1:IsZip h₁ z TI TO .ellipsis:=hz1;refine ak ?_;simp only[atn,List.zipIdx_nil,uw,as5];refine ak (ak (ahf ?_));show wpAny _ _ (sr (.ref i1) >>= _) _ _ _;refine ak (D1.item k hk1 g _ _ _ (fun a o e=>hs1.extBut _ _ (ne gz e) (hv a o e)) g1 (D1.hold _ _ _ _ _ h1 (.refl g) fun o e=>hs1.extBut _ _ D.i1z e) fun x h₂ tk2 ht2 q1 h12 hs2=>bo ?_)
 replace hs2:pe i1 h₁ h₂:=hs2;have hTO2:IsPair h₂ TO a b:=hs2.extBut _ _ D.TOi1 (hs1.extBut _ _ D.TOz hTO);refine ak (nw hTO2 rfl ?_);refine ak (aut hTO2 fun h3 hTO3 hs3=>?_)
 replace hTO3:IsPair h3 TO x b:=hTO3;replace hs3:pe TO h₂ h3:=hs3;refine ak (ag5 (bo ?_));refine ak (ak (ahf ?_));show wpAny _ _ (sr (.ref i2) >>= _) _ _ _;refine ak (D2.item k hk2 g _ _ _ (fun a o e=>hs3.extBut _ _ (ne gT e) (hs2.extBut _ _ (ne g1 e) (hs1.extBut _ _ (ne gz e) (hv a o e)))) g2
  (D2.hold _ _ _ _ _ h2 (.refl g) fun o e=>hs3.extBut _ _ D.TOi2.symm (hs2.extBut _ _ D.i12.symm (hs1.extBut _ _ D.i2z e))) fun y h4 tk4 ht4 q2 h24 hs4=>bo ?_)
 replace hs4:pe i2 h3 h4:=hs4;have hTO4:IsPair h4 TO x b:=hs4.extBut _ _ D.TOi2 hTO3;refine ak (nw hTO4 rfl ?_);refine ak (aut hTO4 fun h5 hTO5 hs5=>?_)
 replace hTO5:IsPair h5 TO x y:=hTO5;replace hs5:pe TO h4 h5:=hs5;refine ak (ag5 (bo (bo ?_)));refine ak (nw hTO5 rfl ?_);refine ak (al9 ?_);have hsz:h5.objs.size=s.heap.objs.size:=by rw[hs5.1,hs4.1,hs3.1,hs2.1,hs1.1]
 have hz5:IsZip h5 z TI TO .ellipsis:=hs5.extBut _ _ D.TOz.symm (hs4.extBut _ _ D.i2z.symm (hs3.extBut _ _ D.TOz.symm (hs2.extBut _ _ D.i1z.symm hz1)));have hk5:∀c o,c≠z->c≠TO->c≠i1->c≠i2->s.heap.get? c=some o->h5.get? c=some o:=fun c o c1 c2 c3 c4 e=>
  hs5.extBut _ _ c2 (hs4.extBut _ _ c4 (hs3.extBut _ _ c2 (hs2.extBut _ _ c3 (hs1.extBut _ _ c1 e))))
 have hzlt:z<h5.objs.size:=il hz5;show wpAny _ _ (awl (.ref z) (.ref h5.objs.size) >>= _) _ _ _;refine ak ?_;unfold awl;have hz6:IsZip (h5.push {cls:=.type "tuple",data:=.seq #[x,y]}) z TI TO .ellipsis:=b4 _ hz5;refine ak (aeb hz6 (gf _) fun h7 hz7 hs7=>?_)
 replace hz7:IsZip h7 z TI TO (rawInt h5.objs.size):=hz7;refine aeb hz7 (oy ..) fun h8 hz8 hs8=>?_
 replace hz8:IsZip h8 z TI TO (rawInt h5.objs.size):=hz8;have up:∀c o,c≠z->h5.get? c=some o->h8.get? c=some o:=fun c o c1 e=>hs8.extBut _ _ c1 (hs7.extBut _ _ c1 (b4 _ e))
 have hT8:IsPair h8 h5.objs.size x y:=hs8.extBut _ _ (su hzlt) (hs7.extBut _ _ (su hzlt) (dw _ rfl));rw[hsz]at hz8 hT8;refine bo ⟨_,rfl,?_⟩;show Q (.ref h5.objs.size) _;rw[hsz];exact hQ x y h8 tk4 (aw ht2 ht4) q1 q2 hz8 (up _ _ D.TOz hTO5)
  (D1.hold _ _ _ _ _ h12 (.refl g) fun o e=>up _ o D.i1z (hs5.extBut _ _ D.TOi1.symm (hs4.extBut _ _ D.i12 (hs3.extBut _ _ D.TOi1.symm e))))
  (D2.hold _ _ _ _ _ h24 (.refl g) fun o e=>up _ o D.i2z (hs5.extBut _ _ D.TOi2.symm e)) hT8 fun c o c1 c2 c3 c4 e=>up c o c1 (hk5 c o c1 c2 c3 c4 e)
def a1l{z TI TO i1 i2:ai}{d1:List D}{g:ah}{a b:ae}{Q:Fin->af->Prop}(D:agp z TI TO i1 i2)(D1:k6 G A i1 d1 S1)
  (hv:∀a o,g.f a=some o->s.heap.get? a=some o) (gz:g.f z=none) (g1:g.f i1=none)
  (hz:IsZip s.heap z TI TO .none) (hTI:IsPair s.heap TI (.ref i1) (.ref i2)) (hTO:IsPair s.heap TO a b) (h1:S1 d1.length g s.heap)
  (hE:∀h' e,(∀c o,c≠z->c≠TO->c≠i1->c≠i2->s.heap.get? c=some o->h'.get? c=some o)->(∃o,h'.get? e=some o/\o.cls=.type "StopIteration")->E (.ref e) {s with heap:=h'}) :
  wpAny (model prog w) A (Builtin.«zip.__next__» ⟨[.ref z],[]⟩) Q E s:=by
 have ne:∀{c b o},g.f b=none->g.f c=some o->c≠b:=fun h e q=>by subst q;exact ns h e
 show wpAny _ _ (field (.ref z) 2 >>= _) _ _ _;refine ak (kh hz rfl (x:=.bool false) rfl ?_);refine ak (kh hz rfl (x:=.ref TI) rfl ?_);refine ak (nw hTI rfl ?_);refine ak ?_;refine ak (kh hz rfl (x:=.none) rfl (bo ?_));refine ak (wh ?_);refine ak (kh hz rfl (x:=.ref TO) rfl ?_);refine ak (aeb hz (gf _) fun h₁ hz1 hs1=>?_)
 replace hz1:IsZip h₁ z TI TO .ellipsis:=hz1;refine ak ?_;refine ak (ak (ahf ?_));refine ak (D1.done g _ _ _ (fun a o e=>hs1.extBut _ _ (ne gz e) (hv a o e)) g1 (D1.hold _ _ _ _ _ h1 (.refl g) fun o e=>hs1.extBut _ _ D.i1z e) fun h2 e hs2 he=>?_)
 refine oEA he fun oe hoe hce=>?_;clear he
 have hz2:IsZip h2 z TI TO .ellipsis:=hs2 _ _ D.i1z.symm hz1;have hez:e≠z:=fun x=>by subst x;rw[hz2]at hoe;cases hoe;simp at hce
 refine aeb hz2 (gf _) fun h3 _ hs3=>hE h3 e (fun c o c1 _ c3 _ x=>hs3.extBut _ _ c1 (hs2 _ _ c3 (hs1.extBut _ _ c1 x))) ⟨oe,hs3.extBut _ _ hez hoe,hce⟩
end
noncomputable def ro(a b:List D):List D:=yx (fun x y=>D.tup [x,y]) a b
def awp{a b:List D}(h:a.length=b.length):(ro a b).length=a.length:=by simp[ro,h]
theorem eh.zip{A:az}{elts:List al}{x1:Nat}{pos:Pos}{z TI TO i1 i2:ai}{d1 d2:List D}{S1 S2:Nat->ah->bf->Prop}(D:agp z TI TO i1 i2)(D1:∀A,A.handled=none->k6 G A i1 d1 S1)(D2:∀A,A.handled=none->k6 G A i2 d2 S2)
  (hh:A.handled=none) (hlen:d1.length=d2.length) :
  eh G A (.Tuple elts x1 pos) (.ref z) [z,TI,TO,i1,i2] (ro d1 d2) (fun i g h=>IsZip h z TI TO .none/\IsPair h TI (.ref i1) (.ref i2)/\(∃a b,IsPair h TO a b)/\S1 i g h/\S2 i g h) where
 hold:=fun i g g' h h' ⟨a,b,⟨u,v,c⟩,d,e⟩ hg hk=>⟨hk z (.head _) _ a,hk TI (.tail _ (.head _)) _ b,⟨u,v,hk TO (.tail _ (.tail _ (.head _))) _ c⟩,(D1 A hh).hold _ _ _ _ _ d hg (fun o x=>hk i1 (by simp) o x),(D2 A hh).hold _ _ _ _ _ e hg (fun o x=>hk i2 (by simp) o x)⟩
 live:=fun i g h ⟨a,b,⟨u,v,c⟩,d,e⟩ x hx=>by
  simp at hx;rcases hx with rfl|rfl|rfl|rfl|rfl
  .exact⟨_,a⟩
  .exact⟨_,b⟩
  .exact⟨_,c⟩
  .exact(D1 A hh).live _ _ _ d
  .exact(D2 A hh).live _ _ _ e
 next:=fun i hi g s xx ⟨hz,hTI,⟨a,b,hTO⟩,h1,h2⟩ hw=>by
  have hk1:i<d1.length:=by rwa[awp hlen]at hi
  have hk2:i<d2.length:=O.ai9 hlen hk1;have hT:s.TypeIs (.ref z) "zip" := ⟨_,hz,rfl⟩;refine ak (aa8 (sq (name:=aj "__next__") hT F.slot_zip_next
   (m0 F.slot_zip_next hT F.entry_zip_next
    (a1k D (D1 A.in1 hh) (D2 A.in1 hh) xx.view (hw z (.head _)).1 (hw TO (.tail _ (.tail _ (.head _)))).1 (hw i1 (by simp)).1 (hw i2 (by simp)).1 hz hTI hTO h1 h2 hk1 hk2 fun x y h' tk ht q1 q2 hz' hTO' h1' h2' hT' hk=>bo ?_) (F.args_zip_next_1 _))))
  refine⟨_,rfl,?_⟩;refine av0 hz' fun h'' hz'' hs=>?_
  replace hs:pe z h' h'':=hs;have hkb:∀c o,c∉[z,TI,TO,i1,i2]->s.heap.get? c=some o->h''.get? c=some o:=fun c o hc x=>by
   simp at hc;exact hs.extBut c o hc.1 (hk c o hc.1 hc.2.2.1 hc.2.2.2.1 hc.2.2.2.2 x)
  have hne:s.heap.objs.size≠z:=su (il hz);have ht'':h''.get? s.heap.objs.size=some (c8 "tuple" [x,y] 0):=hs.extBut _ _ hne hT';have hle':=bu.le (o:=c8 "tuple" [x,y] 0) (gu xx (dq s.heap));refine⟨_,Turn.butsNew (tk:=tk) xx hw hkb ht (dq _) ht'',?_,hz'',hs.extBut _ _ D.TIz (hk _ _ D.TIz D.TITO D.TIi1 D.TIi2 hTI),⟨x,y,hs.extBut _ _ D.TOz hTO'⟩,
   (D1 A hh).hold _ _ _ _ _ h1' hle' (fun o e=>hs.extBut _ _ D.i1z e),(D2 A hh).hold _ _ _ _ _ h2' hle' (fun o e=>hs.extBut _ _ D.i2z e)⟩
  have hget:(ro d1 d2)[i]=.tup [d1[i],d2[i]]:=by simp[ro]
  rw[hget];exact⟨_,[x,y],0,rfl,bu.self,q1.mono prog w hle',q2.mono prog w hle',trivial⟩
 self:=fun _ _ _ _ _ st q=>amk st.1 q
 done:=fun g s xx ⟨hz,hTI,⟨a,b,hTO⟩,h1,h2⟩ hw=>by
  have hT:s.TypeIs (.ref z) "zip" := ⟨_,hz,rfl⟩;rw[awp hlen]at h1;refine ak (aa8 (sq (name:=aj "__next__") hT F.slot_zip_next
   (m0 F.slot_zip_next hT F.entry_zip_next (a1l D (D1 A.in1 hh) xx.view (hw z (.head _)).1 (hw i1 (by simp)).1 hz hTI hTO h1 fun h' e hk he=>?_) (F.args_zip_next_1 _))))
  obtain⟨o,ho,hc⟩:=he;refine ak (ad2 (T := "StopIteration") (b:=true) ⟨o,ho,hc⟩ ahi ?_);exact bo ⟨rfl,g,Turn.buts (tk:=s.toks) xx hw (fun c o hc e=>by simp at hc;exact hk c o hc.1 hc.2.2.1 hc.2.2.2.1 hc.2.2.2.2 e) (ay _)⟩
variable{y:String}
def ae4{x:String}(h:aj x=aj y):x=y:=by
 rw[j4,j4]at h;have h2:x.toList=y.toList:=by
  refine List.map_inj_right (f:=adn) (fun a b e=>?_) |>.mp (by simpa using h:x.toList.map adn=y.toList.map adn)
  exact Char.ext (UInt32.toNat_inj.mp e)
 exact String.toList_inj.mp h2
variable (G)
structure Mv(W:ai->Prop)(g:ah)(s:af)(g':ah)(s':af):Prop where
 gle:VLe g g'
 new:∀a o,g'.f a=some o->g.f a=some o\/W a\/s.heap.get? a=none
 heap:∀a o,a≠G.P->¬W a->s.heap.get? a=some o->s'.heap.get? a=some o
 view:∀a o,g'.f a=some o->s'.heap.get? a=some o
 gP:g'.f G.P=none
 gok:GOK G s'.heap
 toks:s.toks<=s'.toks
 lim:g'.lim<=s'.toks
 os:s'.os=s.os
 bare:AllBare s'.gens
 gsize:s.gens.size<=s'.gens.size
 gold:∀i,i<s.gens.size->s'.gens[i]?=s.gens[i]?
variable {G}
variable{W:ai->Prop}
def Mv.sok{g:ah}{s:af}(x:Mv G W g s g' s')(h:SOK G g s):SOK G g' s':=⟨x.view,x.gP,x.gok,i7 h.toks x.toks,x.lim,x.bare⟩
def Ext.mv{g:ah}{s:af}(x:Ext G g s g' s'):Mv G W g s g' s':=
 ⟨x.gle,fun a o e=>(x.new a o e).imp id .inr,fun a o h _ e=>x.heap a o h e,x.view,x.gP,x.gok,x.toks,x.lim,x.os,x.bare,x.gsize,x.gold⟩
def Turn.mv{g:ah}{s:af}(x:Turn G wr g s g' s')(h:∀a∈wr,W a):Mv G W g s g' s':=
 ⟨x.gle,fun a o e=>(x.new a o e).imp id .inr,fun a o hP hW e=>x.heap a o hP (fun hm=>hW (h a hm)) e,x.view,x.gP,x.gok,x.toks,x.lim,x.os,x.bare,x.gsize,x.gold⟩
variable{W':ai->Prop}
def Mv.weak{g:ah}{s:af}(x:Mv G W g s g' s')(h:∀a,W a->W' a):Mv G W' g s g' s':=
 ⟨x.gle,fun a o e=>(x.new a o e).imp id (Or.imp (h a) id),fun a o hP hW e=>x.heap a o hP (fun q=>hW (h a q)) e,x.view,x.gP,x.gok,x.toks,x.lim,x.os,x.bare,x.gsize,x.gold⟩
theorem Mv.refl{W:ai->Prop}{g:ah}{s:af}(h:SOK G g s):Mv G W g s g s:=(Ext.refl h).mv
theorem Mv.trans{W W':ai->Prop}{g g' g'':ah}{s s' s'':af}(x:Mv G W g s g' s')(y:Mv G W' g' s' g'' s'')(hW:∀a,W' a->W a\/s.heap.get? a=none):Mv G W g s g'' s'' where
 gle:=x.gle.trans y.gle
 new:=fun a o h=>by
  rcases y.new a o h with h1|h1|h1
  .exact x.new a o h1
  .exact .inr (hW a h1)
  .refine if ha:a=G.P then ?_ else ?_
   .subst ha;exact ns y.gP h
   .by_cases hq:W a
    .exact .inr (.inl hq)
    .refine .inr (.inr ?_);refine noS fun o' e=>?_
     exact ns h1 (x.heap a o' ha hq e)
 heap:=fun a o ha hw h=>y.heap a o ha (fun q=>by
  rcases hW a q with q|q
  .exact hw q
  .exact ns q h) (x.heap a o ha hw h)
 view:=y.view
 gP:=y.gP
 gok:=y.gok
 toks:=aw x.toks y.toks
 lim:=y.lim
 os:=y.os.trans x.os
 bare:=y.bare
 gsize:=aw x.gsize y.gsize
 gold:=fun i hi=>(y.gold i (i7 hi x.gsize)).trans (x.gold i hi)
def Mv.ext{g:ah}{s:af}(x:Mv G W g s g' s')(h:∀a,W a->s.heap.get? a=none):Ext G g s g' s':=
 ⟨x.gle,fun a o e=>(x.new a o e).imp id fun q=>q.elim (h a) id,fun a o hP e=>x.heap a o hP (fun q=>by exact ns (h a q) e) e,x.view,x.gP,x.gok,x.toks,x.lim,x.os,x.bare,x.gsize,x.gold⟩
def ary{L:ai}{m m':Str->Option ae}(x:h.Ns L m)(y:h.Ns L m')(n:Str):m n=m' n:=by
 obtain⟨o,es,ep,e,d,_,f⟩:=x;obtain⟨o',es',ep',e',d',_,f'⟩:=y;rw[e]at e';cases e';rw[d]at d';cases d';rw[<-f n,f' n]
variable{c:ai}
def bci{v v':Option ae}(x:h.IsCell c v)(y:h.IsCell c v'):v=v':=by
 obtain⟨o,e,d⟩:=x;obtain⟨o',e',d'⟩:=y;rw[e]at e';cases e';rw[d]at d';cases d';rfl
def cu.uniq{v v':ae}(a:cu env h x v)(b:cu env h x v'):v=v':=by
 rcases a with⟨k,m,hn,e⟩|⟨k,c,hl,hc⟩<;>rcases b with⟨k',m',hn',e'⟩|⟨k',c',hl',hc'⟩
 .rw[ary hn hn' x]at e;rw[e]at e';exact dn e'
 .rw[k]at k';rcases k' with q|q<;>cases q
 .rw[k']at k;rcases k with q|q<;>cases q
 .rw[hl]at hl';cases hl';exact dn (bci hc hc')
def cu.keep{v:ae}(a:cu env h x v)(kl:∀o,h.get? env.locals=some o->h'.get? env.locals=some o)(kc:∀c o,env.cells.lookup x=some c->h.get? c=some o->h'.get? c=some o):cu env h' x v:=by
 rcases a with⟨k,m,hn,e⟩|⟨k,c,hl,o,ho,hd⟩
 .exact .inl ⟨k,m,hn.at' kl,e⟩
 .exact .inr ⟨k,c,hl,o,kc c o hl ho,hd⟩
variable (G)
structure Fr(sc:dc)(env:Env)(W:ai->Prop)(g:ah)(s:af)(σ:PS):Prop where
 eok:ft G sc env g s σ
 priv:∀a,W a->g.f a=none/\G.hB.get? a=none/\a≠G.P
 here:∀a,W a->∃o,s.heap.get? a=some o
 loc:W env.locals
 ns:∃m,s.heap.Ns env.locals m
 ownc:∀x,sc.names.lookup x=some .cell->∃c,env.cells.lookup x=some c/\W c
 locs:∀x,sc.names.lookup x=some .local->env.kindOf x=some .local
 oapart:∀x y d d' a,σ.own x=some d->σ.own y=some d'->cu env s.heap (aj x) (.ref a)->cu env s.heap (aj y) (.ref a)->x=y
 ownW:∀x d a,σ.own x=some d->cu env s.heap (aj x) (.ref a)->W a/\a≠env.locals
variable {G}
def ij.notCell{g:ah}(q:ij prog w g h a d){v:Option ae}(hc:h.IsCell c v):a≠c:=by
 rintro rfl;obtain⟨o,e,hd⟩:=hc;cases d with
 |list l=>obtain⟨vs,n,e',r⟩:=q;rw[e]at e';cases e';cases hd
 |dict l=>obtain⟨o',vs,e',⟨es,ep,hx,hd',_⟩,_⟩:=q;rw[e]at e';cases e';rw[hd]at hd';cases hd'
 |_=>exact q.elim
noncomputable def PS.set(σ:PS)(x:String)(d:D):PS:=⟨fun y=>if y=x then some d else σ.vars y,fun y=>if y=x then none else σ.own y⟩
noncomputable def PS.setOwn(σ:PS)(x:String)(d:D):PS:=⟨fun y=>if y=x then none else σ.vars y,fun y=>if y=x then some d else σ.own y⟩
variable{x:String}
def aya{P:Prop}(e:(σ.set x d).vars y=some d')(k:y=x->d=d'->P)(l:¬y=x->σ.vars y=some d'->P):P:=ifE e (fun h e=>k h (dn e)) l
def zf{P:Prop}(e:(σ.set x d).own y=some d')(l:¬y=x->σ.own y=some d'->P):P:=ifE e (fun _ e=>ns rfl e) l
def a9r{P:Prop}(e:(σ.setOwn x d).vars y=some d')(l:¬y=x->σ.vars y=some d'->P):P:=ifE e (fun _ e=>ns rfl e) l
def zt{P:Prop}(e:(σ.setOwn x d).own y=some d')(k:y=x->d=d'->P)(l:¬y=x->σ.own y=some d'->P):P:=ifE e (fun h e=>k h (dn e)) l
structure PS.le(σ τ:PS):Prop where
 vars:∀x d,σ.vars x=some d->τ.vars x=some d
 own:∀x d,σ.own x=some d->τ.own x=some d
def PS.le.refl(σ:PS):σ.le σ:=⟨fun _ _ e=>e,fun _ _ e=>e⟩
def PS.le.trans{a b c:PS}(x:a.le b)(y:b.le c):a.le c:=⟨fun n d e=>y.vars n d (x.vars n d e),fun n d e=>y.own n d (x.own n d e)⟩
theorem ft.le{env:Env}{g:ah}{s:af}{σ τ:PS}(x:ft G sc env g s τ)(h:σ.le τ):ft G sc env g s σ:=
 {x with vars:=fun n d e=>x.vars n d (h.vars n d e),own:=fun n d e=>x.own n d (h.own n d e)}
theorem Fr.le{env:Env}{W:ai->Prop}{g:ah}{s:af}{σ τ:PS}(x:Fr G sc env W g s τ)(h:σ.le τ):Fr G sc env W g s σ:=
 {x with eok:=x.eok.le h,oapart:=fun n m d d' a e e'=>x.oapart n m d d' a (h.own n d e) (h.own m d' e'),ownW:=fun n d a e=>x.ownW n d a (h.own n d e)}
def cu.ext{g:ah}{s:af}{x:Str}{v:ae}(X:SOK G g s)(y:Ext G g s g' s')(a:cu env s.heap x v):cu env s'.heap x v:=a.mono y.heap X.gok
def Fr.keep{g:ah}{s:af}(x:Fr G sc env W g s σ)(y:Ext G g s g' s'):Fr G sc env W g' s' σ where
 eok:=x.eok.mono y
 priv:=fun a h=>by
  refine⟨?_,(x.priv a h).2⟩;cases hq:g'.f a with
  |none=>rfl
  |some o=>
   rcases y.new a o hq with h1|h1
   .rw[(x.priv a h).1]at h1;exact nomatch h1
   .obtain⟨o',h2⟩:=x.here a h;rw[h2]at h1;exact nomatch h1
 here:=fun a h=>let⟨o,e⟩:=x.here a h;⟨o,y.heap a o (x.priv a h).2.2 e⟩
 loc:=x.loc
 ns:=let⟨m,hn⟩:=x.ns;⟨m,hn.at' fun o e=>y.heap _ o (x.priv _ x.loc).2.2 e⟩
 ownc:=x.ownc
 locs:=x.locs
 oapart:=fun n m d d' a e e' h h'=>by
  obtain⟨b,h1,h2,_⟩:=x.eok.own n d e;obtain⟨b',h1',h2',_⟩:=x.eok.own m d' e';have q:=cu.uniq (cu.ext x.eok.sok y h1) h;cases q;have q:=cu.uniq (cu.ext x.eok.sok y h1') h';cases q;exact x.oapart n m d d' _ e e' h1 h1'
 ownW:=fun n d a e h=>by
  obtain⟨b,h1,h2,_⟩:=x.eok.own n d e;have q:=cu.uniq (cu.ext x.eok.sok y h1) h;cases q;exact x.ownW n d _ e h1
def Mv.buts{g:ah}{s:af}{tk:Nat}(x:SOK G g s)(hw:∀a,W a->g.f a=none/\G.hB.get? a=none/\a≠G.P)(k:∀c o,¬W c->s.heap.get? c=some o->h'.get? c=some o)(ht:s.toks<=tk):Mv G W g s g {s with heap:=h',toks:=tk} where
 gle:=.refl _
 new:=fun _ _ e=>.inl e
 heap:=fun a o _ ha e=>k a o ha e
 view:=fun a o e=>k a o (fun ha=>by exact ns ((hw a ha).1) e) (x.view a o e)
 gP:=x.gP
 gok:=by
  have hP:¬W G.P:=fun ha=>(hw _ ha).2.2 rfl
  refine⟨fun a o ha e=>k a o (fun h=>by exact ns ((hw a h).2.1) e) (x.gok.keep a o ha e),?_,?_⟩
  .refine i3 x.gok.hasP fun o vs e r=>?_
   have:=x.gok.tab;replace this:=e.symm▸this;rw[k _ _ hP e];exact this
  .refine i3 x.gok.hasP fun o vs e r=>?_
   exact⟨o,vs,k _ _ hP e,r⟩
 toks:=ht
 lim:=aw x.lim ht
 os:=rfl
 bare:=x.bare
 gsize:=ay _
 gold:=fun _ _=>rfl
structure yh(G:Gl prog w)(env:Env)(W:ai->Prop)(g:ah)(x:String)(v:ae)(s s':af):Prop where
 mv:Mv G W g s g s'
 self:cu env s'.heap (aj x) v
 other:∀y u,y≠x->cu env s.heap (aj y) u->cu env s'.heap (aj y) u
 cell:∀y c u,env.cells.lookup y=some c->s.heap.IsCell c u->∃u',s'.heap.IsCell c u'
 ns:∃m,s'.heap.Ns env.locals m
 here:∀a,W a->∃o,s'.heap.get? a=some o
 shal:∀a d,ij prog w g s.heap a d->a≠env.locals->ij prog w g s'.heap a d
def s8{A:az}{g:ah}{s:af}{v:ae}{E:ae->af->Prop}(F:Fr G sc env W g s σ)
  (hx:sc.names.lookup (aj x)=some .local\/sc.names.lookup (aj x)=some .cell) (q:∀s',yh G env W g x v s s'->Q () s'):wpAny (model prog w) A (storeName env (aj x) v) Q E s:=by
 refine oE F.ns fun m hm=>?_
 refine iy hx (fun hx=>?_) fun hx=>?_
 .have hk:=F.locs _ hx;refine au2 hk hm (fun h' hn' hs'=>q _ ?_) (by rw[F.eok.kind];rfl)
  refine⟨Mv.buts F.eok.sok F.priv (fun c o hc e=>hs'.extBut c o (fun h=>hc (h▸F.loc)) e) (fm _),.inl ⟨hk,_,hn',if_pos rfl⟩,?_,?_,⟨_,hn'⟩,?_,?_⟩
  .intro y u hy hu;rcases hu with⟨k,m',hn,e⟩|⟨k,c,hl,hc⟩
   .exact .inl ⟨k,_,hn',by rw[if_neg (fun e=>hy (ae4 e):aj y≠aj x),ary hm hn];exact e⟩
   .refine .inr ⟨k,c,hl,hc.sameBut hs' ?_⟩;rintro rfl;refine zw hm fun o es ep e1 e2 _=>?_;clear hm
    refine oEA hc fun o' e1' e2'=>?_;clear hc
    rw[e1]at e1';cases e1';rw[e2]at e2';cases e2'
  .intro y c u hl hc;refine⟨u,hc.sameBut hs' ?_⟩;rintro rfl;refine zw hm fun o es ep e1 e2 _=>?_;clear hm
   refine oEA hc fun o' e1' e2'=>?_;clear hc
   rw[e1]at e1';cases e1';rw[e2]at e2';cases e2'
  .intro a ha;refine if e:a=env.locals then ?_ else ?_
   .subst e;refine a90 hn' fun o _ _ h _=>?_;clear hn';exact⟨o,h⟩
   .refine oE (F.here a ha) fun o h=>?_;exact⟨o,hs'.extBut a o e h⟩
  .exact fun a d hS ha=>hS.mono (.refl g) fun o e=>hs'.extBut a o ha e
 .refine oEA (F.ownc _ hx) fun c hc hW=>?_
  obtain⟨⟨c',v0,hc',hv0⟩,hk⟩:=F.eok.cells _ (.inl hx);rw[hc]at hc';cases hc';refine wpAny_storeName_cell F.eok.kind hk hc hv0 fun h' hcell' hs'=>q _ ?_
  have hLc:env.locals≠c:=by
   rintro rfl;refine zw hm fun o es ep e1 e2 _=>?_;clear hm
   refine oEA hv0 fun o' e1' e2'=>?_;clear hv0
   rw[e1]at e1';cases e1';rw[e2]at e2';cases e2'
  refine⟨Mv.buts (tk:=s.toks) F.eok.sok F.priv (fun a o ha e=>hs'.extBut a o (fun h=>ha (h▸hW)) e) (ay _),.inr ⟨.inl hk,c,hc,hcell'⟩,?_,?_,⟨m,hm.sameBut hs' hLc⟩,?_,?_⟩
  .intro y u hy hu;refine hu.keep (fun o e=>hs'.extBut _ o hLc e) fun c' o hl e=>hs'.extBut c' o ?_ e
   rintro rfl;exact hy (ae4 (F.eok.apart _ _ _ hl hc))
  .intro y c' u hl hu;refine if e:c'=c then ?_ else ?_
   .subst e;exact⟨_,hcell'⟩
   .exact⟨u,hu.sameBut hs' e⟩
  .intro a ha;refine if e:a=c then ?_ else ?_
   .subst e;refine oEA hcell' fun o h _=>?_;clear hcell';exact⟨o,h⟩
   .refine oE (F.here a ha) fun o h=>?_;exact⟨o,hs'.extBut a o e h⟩
  .exact fun a d hS _=>hS.mono (.refl g) fun o e=>hs'.extBut a o (hS.notCell hv0) e
theorem yh.eok{env:Env}{W:ai->Prop}{g:ah}{s s':af}{σ:PS}{x:String}{v:ae}(F:Fr G sc env W g s σ)(y:yh G env W g x v s s'):ft G sc env g s' ⟨fun z=>if z=x then none else σ.vars z,fun z=>if z=x then none else σ.own z⟩ where
 sok:=y.mv.sok F.eok.sok
 kind:=F.eok.kind
 globals:=F.eok.globals
 builtins:=F.eok.builtins
 glob:=F.eok.glob
 cells:=fun z hz=>let⟨⟨c,u,hl,hc⟩,hk⟩:=F.eok.cells z hz;let⟨u',h⟩:=y.cell z c u hl hc;⟨⟨c,u',hl,h⟩,hk⟩
 apart:=F.eok.apart
 code:=F.eok.code
 allc:=fun z c h=>let⟨u,hc⟩:=F.eok.allc z c h;y.cell z c u h hc
 vars:=fun z d e=>ifE e (fun _ e=>Mine.ns rfl e) fun hz e=>oEA (F.eok.vars z d e) fun u h1 h2=>⟨u,y.other z u hz h1,h2⟩
 own:=fun z d e=>ifE e (fun _ e=>Mine.ns rfl e) fun hz e=>kq (F.eok.own z d e) fun a h1 h2 h3=>⟨a,y.other z _ hz h1,y.shal a d h2 (F.ownW z d a e h1).2,h3⟩
def ft.down{g:ah}{s:af}{b:String}(F:ft G sc env g s σ)(e:σ.own b=some d)(up:∀u,cu env s.heap (aj b) (.ref u)->cu env h' (aj b) (.ref u))(h:cu env h' (aj b) (.ref c)):cu env s.heap (aj b) (.ref c):=
 kq (F.own b d e) fun u h1 _ _=>al4 (cu.uniq (up u h1) h)▸h1
theorem yh.set{env:Env}{W:ai->Prop}{g:ah}{s s':af}{σ:PS}{x:String}{v:ae}{d:D}(F:Fr G sc env W g s σ)(y:yh G env W g x v s s')(q:Rep prog w g v d):Fr G sc env W g s' (σ.set x d) where
 eok:={y.eok F with
  vars:=fun z d' e=>aya e (fun hz e=>⟨v,hz▸y.self,e▸q⟩) fun hz e=>(y.eok F).vars z d' ((if_neg hz).trans e)
  own:=(y.eok F).own}
 priv:=F.priv
 here:=y.here
 loc:=F.loc
 ns:=y.ns
 ownc:=F.ownc
 locs:=F.locs
 oapart:=fun a b d d' c e e' h h'=>zf e fun ha e=>zf e' fun hb e'=>F.oapart a b d d' c e e' (F.eok.down e (fun u=>y.other a _ ha) h) (F.eok.down e' (fun u=>y.other b _ hb) h')
 ownW:=fun a d c e h=>zf e fun ha e=>F.ownW a d c e (F.eok.down e (fun u=>y.other a _ ha) h)
def W1(W:ai->Prop)(a:ai):ai->Prop:=fun b=>W b\/b=a
theorem yh.setOwn{env:Env}{W:ai->Prop}{g:ah}{s s':af}{σ:PS}{x:String}{a:ai}{d:D}(F:Fr G sc env W g s σ)(y:yh G env W g x (.ref a) s s')(q:ij prog w g s.heap a d)(ha:¬W a)(hg:g.f a=none)(hB:G.hB.get? a=none):Fr G sc env (W1 W a) g s' (σ.setOwn x d):=
 have uq:∀{b c},b=x->cu env s'.heap (aj b) (.ref c)->c=a:=fun hb h=>al4 (cu.uniq (hb▸h) y.self)
 {eok:={y.eok F with
   vars:=(y.eok F).vars
   own:=fun z d' e=>zt e (fun hz e=>⟨a,hz▸y.self,e▸y.shal a d q (fun h=>ha (h▸F.loc)),hg⟩) fun hz e=>(y.eok F).own z d' ((if_neg hz).trans e)}
  priv:=fun b hb=>hb.elim (F.priv b) fun h=>h▸⟨hg,hB,q.ne_P F.eok.sok.gok⟩
  here:=fun b hb=>hb.elim (y.here b) fun h=>h▸(y.shal a d q (fun h=>ha (h▸F.loc))).here
  loc:=.inl F.loc
  ns:=y.ns
  ownc:=fun z hz=>let⟨c,h1,h2⟩:=F.ownc z hz;⟨c,h1,.inl h2⟩
  locs:=F.locs
  oapart:=fun b c d1 d2 u e e' h h'=>zt e
   (fun hb _=>zt e' (fun hc _=>hb.trans hc.symm) fun hc e'=>absurd (F.ownW c d2 a e' (F.eok.down e' (fun u=>y.other c _ hc) (uq hb h▸h'))).1 ha)
   fun hb e=>zt e' (fun hc _=>absurd (F.ownW b d1 a e (F.eok.down e (fun u=>y.other b _ hb) (uq hc h'▸h))).1 ha)
    fun hc e'=>F.oapart b c d1 d2 u e e' (F.eok.down e (fun u=>y.other b _ hb) h) (F.eok.down e' (fun u=>y.other c _ hc) h')
  ownW:=fun b d1 c e h=>zt e (fun hb _=>(uq hb h).symm▸(⟨.inr rfl,fun h=>ha (h▸F.loc)⟩:W1 W a a/\a≠env.locals))
   fun hb e=>oA (F.ownW b d1 c e (F.eok.down e (fun u=>y.other b _ hb) h)) fun h1 h2=>⟨.inl h1,h2⟩}
def pw(G:Gl prog w)(sc:dc)(t:al)(b:D->PS->Option PS):Prop:=
 ∀⦃A env W g s σ v d σ'⦄,A.handled=none->Fr G sc env W g s σ->Rep prog w g v d->b d σ=some σ' ->
  wpAny (model prog w) A (assign t env v) (fun _ s'=>Mv G W g s g s'/\Fr G sc env W g s' σ') NoE s
noncomputable def ax(x:String):D->PS->Option PS:=fun d σ=>some (σ.set x d)
noncomputable def af4(xs:List String):List D->PS->Option PS:=
 xs.rec (motive:=fun _=>List D->PS->Option PS) (fun ds σ=>ds.casesOn (some σ) fun _ _=>none) fun x _ r ds σ=>ds.casesOn none fun d ds=>r ds (σ.set x d)
noncomputable def cz(xs:List String)(d:D)(σ:PS):Option PS:=(vn d).bind fun ds=>af4 xs ds σ
def mq(sc:dc)(x:String):Prop:=sc.names.lookup (aj x)=some .local\/sc.names.lookup (aj x)=some .cell
def rp(hx:mq sc x):pw G sc (.Name (aj x) pos) (ax x):=fun _ _ _ _ _ _ _ _ _ _ F q y=>by
 cases y;exact aht (s8 F hx fun s' S=>⟨S.mv,S.set F q⟩)
inductive mr (sc:dc):List al->List String->Prop
 |nil:mr sc [] []
 |cons {x xs es:_} {pos:Pos}:mq sc x->mr sc es xs->mr sc (.Name (aj x) pos::es) (x::xs)
variable{xs:List String}
def mr.len(h:mr sc es xs):(assignEach es env).length=xs.length:=by
 induction h with
 |nil=>rfl
 |cons _ _ ih=>exact congrArg (·+1) ih
def mr.star(h:mr sc es xs):(assignEach es env).findIdx? (·.1)=none:=by
 induction h with
 |nil=>rfl
 |cons _ _ ih=>exact List.findIdx?_cons.trans (congrArg (o9 (·+1)) ih)
variable{σ':PS}
def bcq{A:az}{g:ah}(h:mr sc es xs){s:af}{vs:List ae}(F:Fr G sc env W g s σ)(r:a9 prog w g vs ds)(y:af4 xs ds σ=some σ') :
  wpAny (model prog w) A (assignInOrder ((assignEach es env).map (·.2)) vs) (fun _ s'=>Mv G W g s g s'/\Fr G sc env W g s' σ') NoE s:=by
 induction h generalizing s σ vs ds with
 |nil=>cases ds with
  |nil=>exact dn y▸r.nil▸bo ⟨Mv.refl F.eok.sok,F⟩
  |cons=>exact ns rfl y
 |cons hx hr ih=>cases ds with
  |nil=>exact ns rfl y
  |cons d ds=>cases vs with
   |nil=>exact rj r
   |cons v vs=>exact ak (jc (aht (s8 F hx fun s' S=>wm (ih (S.set F r.1) r.2 y) fun _ s'' ⟨a,b⟩=>⟨S.mv.trans a fun _ h=>.inl h,b⟩)))
def bgs(y:af4 xs ds σ=some σ'):xs.length=ds.length:=by
 induction xs generalizing ds σ with
 |nil=>cases ds with
  |nil=>rfl
  |cons=>exact ns rfl y
 |cons x xs ih=>cases ds with
  |nil=>exact ns rfl y
  |cons d ds=>exact congrArg (·+1) (ih y)
def qr{x1:Nat}(h:mr sc es xs):pw G sc (.Tuple es x1 pos) (cz xs):=fun A env W g s σ v d σ' hh F q y=>by
 refine aq y fun ds hd y=>?_
 replace hd:=ye hd;subst hd;obtain@⟨a,vs,m,e,r⟩:=lq q;refine amu hh (ly (F.eok.sok.view _ _ e)) (by rw[h.len,bgs y,ko,r.length]) h.star fun h' hx=>?_
 have e1:Ext G g s g {s with heap:=h'}:=Ext.grow (tk:=s.toks) F.eok.sok (fun a o e=>hx a o (k8 (il e)) e) (ay _)
 exact wm (bcq h (F.keep e1) r y) (fun _ s'' ⟨a,b⟩=>⟨e1.mv.trans a fun _ h=>.inl h,b⟩)
structure sd(sc scope:dc)(fs:List String):Prop where
 kind:scope.kind=.function
 names:∀p∈scope.names,scope.names.lookup p.1=some p.2
 free:∀p∈scope.names,p.2=.free->sc.names.lookup p.1=some .cell\/sc.names.lookup p.1=some .free
 fs:∀x∈fs,scope.names.lookup (aj x)=some .free
 code:scope.names.lookup (aj "new_callers")≠some .local
noncomputable def PS.only(fs:List String)(σ:PS):PS:=⟨fun x=>if x∈fs then σ.vars x else none,fun _=>none⟩
noncomputable def l4(cells:List (Str×ai)):List (Str×NameKind)->List (Str×ai)->List (Str×ai)
 |[],acc=>acc
 |(n,k)::r,acc=>if k==.free then l4 cells r ((n,(cells.lookup n).getD 0)::acc)else l4 cells r acc
def closureFor_ok{scope:dc}(h:∀p∈scope.names,p.2=.free->∃c,env.cells.lookup p.1=some c):closureFor scope env=pure (l4 env.cells scope.names []):=by
 have key:∀(names:List (Str×NameKind)) (acc:List (Str×ai)),(∀p∈names,p.2=.free->∃c,env.cells.lookup p.1=some c) ->
   (forIn (m:=Sem) names acc fun(x:Str×NameKind) (r:List (Str×ai))=>match x with
    |(name,kind)=>if(kind==uv)=true then do let a <-cellOf env name;pure (ny ((name,a)::r))else pure (ny r))=pure (l4 env.cells names acc):=by
  intro names;induction names with
  |nil=>intro acc _;rfl
  |cons p r ih=>
   intro acc hp;obtain⟨name,kind⟩:=p;rw[uw];dsimp only;unfold l4;by_cases hk:(kind==uv)=true
   .rw[if_pos hk,if_pos hk];obtain⟨c,hc⟩:=hp (name,kind) m4 (beq_iff_eq.mp hk);have:cellOf env name=pure c:=by unfold cellOf;rw[hc]
    rw[this,pure_bind,pure_bind];rw[show(aa6 name env.cells).getD 0=c from by rw[hc];rfl]
    exact ih _ fun q hq=>hp q (er _ hq)
   .rw[if_neg hk,if_neg hk,pure_bind];exact ih _ fun q hq=>hp q (er _ hq)
 exact(congrArg (· >>= pure) (key scope.names [] h)).trans rfl
theorem aq4(cells:List (Str×ai)):∀(names:List (Str×NameKind)) (acc:List (Str×ai)) (x:Str) (c:ai),(x,c)∈l4 cells names acc->(x,c)∈acc\/((x,.free)∈names/\c=(cells.lookup x).getD 0)
 |[],acc,x,c,h=>.inl h
 |(n,k)::r,acc,x,c,h=>by
  unfold l4 at h;split at h
  .rename_i hk;refine iy (aq4 cells r _ x c h) (fun h=>?_) fun h=>?_
   .refine iy (dt.mp h) (fun e=>?_) fun h=>?_
    .cases e;exact .inr ⟨by rw[beq_iff_eq.mp hk];exact m4,rfl⟩
    .exact .inl h
   .exact .inr ⟨er _ h.1,h.2⟩
  .refine iy (aq4 cells r _ x c h) (fun h=>?_) fun h=>?_
   .exact .inl h
   .exact .inr ⟨er _ h.1,h.2⟩
theorem aq5(cells:List (Str×ai)):∀(names:List (Str×NameKind)) (acc:List (Str×ai)) (x:Str),((x,.free)∈names\/∃c,(x,c)∈acc)->∃c,(x,c)∈l4 cells names acc
 |[],acc,x,h=>h.elim (fun h=>(nomatch h)) id
 |(n,k)::r,acc,x,h=>by
  dsimp only[l4];split
  .refine aq5 cells r _ x ?_;rcases h with h|⟨c,h⟩
   .refine iy (dt.mp h) (fun e=>?_) fun h=>?_
    .cases e;exact .inr ⟨_,m4⟩
    .exact .inl h
   .exact .inr ⟨c,er _ h⟩
  .rename_i hk;refine aq5 cells r _ x ?_;rcases h with h|⟨c,h⟩
   .refine iy (dt.mp h) (fun e=>?_) fun h=>?_
    .cases e;exact absurd rfl hk
    .exact .inl h
   .exact .inr ⟨c,h⟩
theorem z6{α:Type}:∀{l:List (Str×α)} {x:Str} {c:α},(x,c)∈l->∃c',l.lookup x=some c'
 |(k,v)::r,x,c,h=>by
  rw[y9];cases hb:x==k with
  |true=>exact⟨v,rfl⟩
  |false=>
   refine iy (dt.mp h) (fun e=>?_) fun h=>?_
   .cases e;simp at hb
   .exact z6 h
theorem aam:∀(names:List (Str×NameKind)) (n:Nat) (acc:List (Str×ai)),cellsFrom n names acc=cellsFrom n names []++acc
 |[],n,acc=>rfl
 |(name,kind)::r,n,acc=>by
  dsimp only[cellsFrom];split
  .rw[aam r (n+1) ((name,n)::acc),aam r (n+1) [(name,n)]];simp
  .exact aam r n acc
theorem aq7:∀(names:List (Str×NameKind)) (n:Nat) (acc:List (Str×ai)) (x:Str) (c:ai),(x,c)∈cellsFrom n names acc->(x,c)∈acc\/(x,wo)∈names
 |[],n,acc,x,c,h=>.inl h
 |(name,kind)::r,n,acc,x,c,h=>by
  unfold cellsFrom at h;split at h
  .rename_i hk;refine iy (aq7 r _ _ x c h) (fun h=>?_) fun h=>?_
   .refine iy (dt.mp h) (fun e=>?_) fun h=>?_
    .cases e;exact .inr (by exact(beq_iff_eq.mp hk)▸(m4))
    .exact .inl h
   .exact .inr (er _ h)
  .refine iy (aq7 r _ _ x c h) (fun h=>?_) fun h=>?_
   .exact .inl h
   .exact .inr (er _ h)
theorem aal:∀(names:List (Str×NameKind)) (n:Nat) (acc:List (Str×ai)) (x:Str),((x,wo)∈names\/∃c,(x,c)∈acc)->∃c,(x,c)∈cellsFrom n names acc
 |[],n,acc,x,h=>h.elim (fun h=>(nomatch h)) id
 |(name,kind)::r,n,acc,x,h=>by
  dsimp only[cellsFrom];split
  .refine aal r _ _ x ?_;rcases h with h|⟨c,h⟩
   .refine iy (dt.mp h) (fun e=>?_) fun h=>?_
    .cases e;exact .inr ⟨_,m4⟩
    .exact .inl h
   .exact .inr ⟨c,er _ h⟩
  .rename_i hk;refine aal r _ _ x ?_;rcases h with h|⟨c,h⟩
   .refine iy (dt.mp h) (fun e=>?_) fun h=>?_
    .cases e;exact absurd rfl hk
    .exact .inl h
   .exact .inr ⟨c,h⟩
theorem ayp{env:Env}:∀(names:List (Str×NameKind)) (x:Str),(names.map fun(n,k)=>if(k==uv && env.scope.kind==.function && env.kindOf n==some .cell)then(n,wo)else(n,k)).lookup x =
  (names.lookup x).map fun k=>if(k==uv && env.scope.kind==.function && env.kindOf x==some .cell)then wo else k
 |[],x=>rfl
 |(n,k)::r,x=>by
  have ih:=@ayp env r x;show aa6 x ((if(k==uv && env.scope.kind==.function && env.kindOf n==some .cell)=true then(n,wo)else(n,k))::_)=_
  cases hx:x==n with
  |true=>
   have:=beq_iff_eq.mp hx;subst this;by_cases hc:(k==uv && env.scope.kind==.function && env.kindOf x==some .cell)=true
   .rw[if_pos hc];simp only[y9,hx,o9];rw[if_pos hc]
   .rw[if_neg hc];simp only[y9,hx,o9];rw[if_neg hc]
  |false=>
   refine if hc:(k==uv && env.scope.kind==.function && env.kindOf n==some .cell)=true then ?_ else ?_
   .rw[if_pos hc];simp only[y9,hx];exact ih
   .rw[if_neg hc];simp only[y9,hx];exact ih
noncomputable def r5(scope:dc)(env:Env)(L:ai):Env:=
 {scope:=relabel scope env,locals:=L,globals:=env.globals,cells:=cellsFrom (L+1) scope.names (l4 env.cells scope.names []),qual:=env.qual,func:=none,code:=env.code,frame:=env.frame,builtins:=env.builtins}
variable {scope:dc} {fs:List String}
def ban{M:Model}{A:az}{E:ae->af->Prop}{s:af}{globals:ai}{cl:List (Str×ai)}{qual:Str}{Q:Env->af->Prop}
  (hQ:Q {scope,locals:=s.heap.objs.size,globals,cells:=cellsFrom (s.heap.objs.size+1) scope.names cl,qual,func:=none,code:=env.code,frame:=env.frame,builtins:=env.builtins}
   {s with heap:=pushCells (s.heap.push {cls:=.type "dict",data:=.dict #[]}) scope.names}):wpAny M A (newFunctionEnv scope globals cl [] qual none .none (some env)) Q E s:=by
 simp only[newFunctionEnv,Option.isSome_some,if_true];refine ak (wpAny_alloc ?_);refine ak (wpAny_layCells _ (fun name kind cells=>by cases hkc:kind==wo<;>with_reducible rfl) _ _ _ _ ?_)
 rw[show({s with heap:=s.heap.push {cls:=.type "dict",data:=.dict #[]}}:af).heap.objs.size=s.heap.objs.size+1 from mz ..];rw[as5];exact bP (bo hQ)
def inW(scope:dc)(L:ai):ai->Prop:=fun a=>a=L\/∃x,(x,a)∈cellsFrom (L+1) scope.names []
def a1d{g:ah}{s:af}(X:ft G sc env g s σ)(I:sd sc scope fs) :
  closureFor scope env=pure (l4 env.cells scope.names []) /\
  ∀s₁:af,s₁={s with heap:=pushCells (s.heap.push {cls:=.type "dict",data:=.dict #[]}) scope.names}->Ext G g s g s₁/\(∀a,inW scope s.heap.objs.size a->s.heap.get? a=none) /\
   Fr G scope (r5 scope env s.heap.objs.size) (inW scope s.heap.objs.size) g s₁ (σ.only fs) /\
   (∀x c,(r5 scope env s.heap.objs.size).cells.lookup x=some c->s.heap.get? c=none\/((sc.names.lookup x=some .cell\/sc.names.lookup x=some .free)/\env.cells.lookup x=some c)):=by
 have hfree:∀p∈scope.names,p.2=.free->∃c v,env.cells.lookup p.1=some c/\s.heap.IsCell c v:=fun p hp h=>by
  obtain⟨⟨c,v,h1,h2⟩,_⟩:=X.cells p.1 (I.free p hp h);exact⟨c,v,h1,h2⟩
 refine⟨closureFor_ok fun p hp h=>let⟨c,v,h1,_⟩:=hfree p hp h;⟨c,h1⟩,?_⟩
 rintro s₁ rfl;generalize hL:s.heap.objs.size=L;have hkeep:∀a o,s.heap.get? a=some o->(pushCells (s.heap.push {cls:=.type "dict",data:=.dict #[]}) scope.names).get? a=some o:=fun a o e=>pushCells_keeps _ _ a o (b4 _ e)
 have e1:Ext G g s g {s with heap:=pushCells (s.heap.push {cls:=.type "dict",data:=.dict #[]}) scope.names}:=by
  have:=Ext.grow (h':=pushCells (s.heap.push {cls:=.type "dict",data:=.dict #[]}) scope.names) (tk:=s.toks) X.sok hkeep (ay _);exact this
 have ok:=cellsFrom_ok scope.names (s.heap.push {cls:=.type "dict",data:=.dict #[]}) (L+1) [] ⟨fun _ _ hm=>(nomatch hm),a4o⟩ (by rw[mz,hL];exact ay _)
 rw[mz,hL]at ok;have hfresh:∀a,L<=a->s.heap.get? a=none:=fun a ha=>by
  cases e:s.heap.get? a with
  |none=>rfl
  |some o'=>exact absurd (il e) (gi.mpr (hL▸ha))
 have hW:∀a,inW scope L a->s.heap.get? a=none:=fun a ha=>by
  rcases ha with rfl|⟨x,hx⟩
  .exact hfresh _ (ay _)
  .exact hfresh _ (amo (ok.empty x a hx).2)
 have hns:(pushCells (s.heap.push {cls:=.type "dict",data:=.dict #[]}) scope.names).Ns L (fun _=>none):=by
  have:=(Heap.Ns.new s.heap (.type "dict")).keeps (pushCells_keeps scope.names _);rw[hL]at this;exact this
 have hmem:∀{x k},scope.names.lookup x=some k->(x,k)∈scope.names:=fun h=>mem_of_lookup h
 have own:∀x,scope.names.lookup x=some .cell->∃c,(r5 scope env L).cells.lookup x=some c/\(x,c)∈cellsFrom (L+1) scope.names []:=fun x hx=>by
  obtain⟨c,hc⟩:=aal scope.names (L+1) [] x (.inl (hmem hx));obtain⟨c',hc'⟩:=z6 hc;refine⟨c',?_,mem_of_lookup hc'⟩;show(cellsFrom (L+1) scope.names (l4 env.cells scope.names [])).lookup x=some c';rw[aam,at9,hc'];rfl
 have clos:∀x c,(x,c)∈l4 env.cells scope.names []->(x,uv)∈scope.names/\env.cells.lookup x=some c:=fun x c h=>by
  rcases aq4 _ _ _ _ _ h with h|⟨h1,h2⟩
  .cases h
  .obtain⟨c',v,h3,_⟩:=hfree _ h1 rfl;rw[h3]at h2;subst h2;exact⟨h1,h3⟩
 have kinds:∀x k k',(x,k)∈scope.names->(x,k')∈scope.names->k=k':=fun x k k' h h'=>by
  have a:=I.names _ h;have b:=I.names _ h';dsimp only at a b;rw[a]at b;exact dn b
 have free:∀x,scope.names.lookup x=some .free->(r5 scope env L).cells.lookup x=env.cells.lookup x:=fun x hx=>by
  show(cellsFrom (L+1) scope.names (l4 env.cells scope.names [])).lookup x=_;rw[aam,at9];have h0:(cellsFrom (L+1) scope.names []).lookup x=none:=by
   cases e:(cellsFrom (L+1) scope.names []).lookup x with
   |none=>rfl
   |some c=>
    rcases aq7 _ _ _ _ _ (mem_of_lookup e)with h|h
    .cases h
    .cases kinds _ _ _ (hmem hx) h
  rw[h0,adu];obtain⟨c,hc⟩:=aq5 env.cells scope.names [] x (.inl (hmem hx));obtain⟨c',hc'⟩:=z6 hc;rw[hc',(clos x c' (mem_of_lookup hc')).2]
 have kin:∀x,(r5 scope env L).kindOf x=(scope.names.lookup x).map fun k=>if(k==uv && env.scope.kind==.function && env.kindOf x==some .cell)then wo else k:=fun x=>ayp scope.names x
 have all:∀x c,(r5 scope env L).cells.lookup x=some c->(x,c)∈cellsFrom (L+1) scope.names []\/(env.cells.lookup x=some c/\∃v,s.heap.IsCell c v):=fun x c h=>by
  have h:(cellsFrom (L+1) scope.names (l4 env.cells scope.names [])).lookup x=some c:=h;rw[aam]at h;rcases ji.mp (mem_of_lookup h)with h|h
  .exact .inl h
  .obtain⟨h1,h2⟩:=clos x c h;obtain⟨c',v,h3,h4⟩:=hfree _ h1 rfl;rw[h2]at h3;cases h3;exact .inr ⟨h2,v,h4⟩
 have old:∀x c,(x,c)∈cellsFrom (L+1) scope.names []->∀v,¬s.heap.IsCell c v:=fun x c h v hv=>by
  obtain⟨o,e,_⟩:=hv;rw[hfresh c (amo (ok.empty x c h).2)]at e;cases e
 refine⟨e1,hW,?_⟩;have hhere:∀a,inW scope L a->∃o,(pushCells (s.heap.push {cls:=.type "dict",data:=.dict #[]}) scope.names).get? a=some o:=fun a ha=>by
  rcases ha with rfl|⟨x,hx⟩
  .obtain⟨o,_,_,e,_⟩:=hns;exact⟨o,e⟩
  .obtain⟨o,e,_⟩:=(ok.empty x a hx).1;exact⟨o,e⟩
 refine⟨?_,fun x c h=>?_⟩
 rotate_left
 .have h:(cellsFrom (L+1) scope.names (l4 env.cells scope.names [])).lookup x=some c:=h;rw[aam]at h;rcases ji.mp (mem_of_lookup h)with h|h
  .exact .inl (hfresh c (amo (ok.empty x c h).2))
  .obtain⟨h1,h2⟩:=clos x c h;exact .inr ⟨I.free _ h1 rfl,h2⟩
 exact{
  eok:={
   sok:=e1.sok X.sok
   kind:=I.kind
   globals:=X.globals
   builtins:=X.builtins
   code:=fun h=>absurd h I.code
   glob:=fun x hx=>by rw[kin,hx];rfl
   cells:=fun x hx=>by
    rcases hx with hx|hx
    .obtain⟨c,h1,h2⟩:=own x hx;exact⟨⟨c,none,h1,(ok.empty x c h2).1⟩,by rw[kin,hx];rfl⟩
    .obtain⟨⟨c,v,h1,h2⟩,hk⟩:=X.cells x (I.free _ (hmem hx) rfl);refine⟨⟨c,v,by rw[free x hx];exact h1,h2.keeps hkeep⟩,?_⟩
     rw[kin,hx,o9,hk,X.kind];rfl
   allc:=fun x c h=>by
    rcases all x c h with h|⟨_,v,hv⟩
    .exact⟨_,(ok.empty x c h).1⟩
    .exact⟨v,hv.keeps hkeep⟩
   apart:=fun x y c hx hy=>by
    rcases all x c hx with h|⟨h,v,hv⟩<;>rcases all y c hy with h'|⟨h',v',hv'⟩
    .exact name_of_addr ok.apart h h'
    .exact absurd hv' (old x c h v')
    .exact absurd hv (old y c h' v)
    .exact X.apart x y c h h'
   vars:=fun x d e=>by
    delta PS.only at e;dsimp only at e;split at e
    .rename_i hxf;have hx:=I.fs x hxf;obtain⟨⟨c,u,h1,h2⟩,hk⟩:=X.cells _ (I.free _ (hmem hx) rfl);obtain⟨v,hv,q⟩:=X.vars x d e;refine⟨v,.inr ⟨.inl ?_,c,by rw[free _ hx];exact h1,?_⟩,q⟩
     .rw[kin,hx,o9,hk,X.kind];rfl
     .rcases hv with⟨k,_⟩|⟨_,c',h3,h4⟩
      .rw[hk]at k;cases k
      .rw[h1]at h3;cases h3;exact h4.keeps hkeep
    .cases e
   own:=fun x d e=>by cases e}
  priv:=fun a ha=>by
   have h:=hW a ha;refine⟨gu X.sok h,?_,?_⟩
   .cases e:G.hB.get? a with
    |none=>rfl
    |some o=>
     refine if hP:a=G.P then ?_ else ?_
     .subst hP;obtain⟨o',_,e',_⟩:=X.sok.gok.hasP;exact ns h e'
     .exact ns h (X.sok.gok.keep a o hP e)
   .rintro rfl;obtain⟨o',_,e',_⟩:=X.sok.gok.hasP;exact ns h e'
  here:=hhere
  loc:=.inl rfl
  ns:=⟨_,hns⟩
  ownc:=fun x hx=>let⟨c,h1,h2⟩:=own x hx;⟨c,h1,.inr ⟨x,h2⟩⟩
  locs:=fun x hx=>by rw[kin,hx];rfl
  oapart:=fun _ _ _ _ _ e=>by cases e
  ownW:=fun _ _ _ e=>by cases e}
variable{R:Result->af->Prop}{elt:al}{ifs:List al}{it:ae}
def bf2{A:az}{target iter:al}{acc:ae}{s:af}(I:Nat->af->Prop)
  (turn:∀n s,I n s->wpAny (model prog w) A (pyNext it) (fun r s₁=>match r with
   |none=>R (.ok .next) s₁
   |some v=>wpAny (model prog w) A (letOwnedTupleGo target it v) (fun _ s₀=>wpAny (model prog w) A (assign target env v) (fun _ s₂=>
     wpAny (model prog w) A (forIn ifs true fun c r=>if r=true then do let ok <-isTrue c env (eval c env);pure (ny ok)else pure (ny r)) (fun ok s₃=>
      if ok=true then wpAny (model prog w) A (eval elt env) (fun x s4=>
       wpAny (model prog w) A (call (.builtin "list.append") [acc,x]) (fun _ s5=>∃m,m<n/\I m s5) NoE s4) NoE s₃
      else∃m,m<n/\I m s₃) NoE s₂) NoE s₀) NoE s₁) NoE s)
  (n:Nat) (h:I n s):codeAny (model prog w) A (.compLoop (.ListComp elt [⟨target,iter,ifs,0⟩] scope pos) 0 it acc env) R s:=by
 refine codeAny_loop rfl I (fun n s hI=>?_) n h
 show wpAny _ A ((compTurn (.ListComp elt [⟨target,iter,ifs,0⟩] scope pos) 0 it acc env).onRaise (fun x=>do noteFrame x env;theTreesLotGoes x)) _ _ s
 refine wpAny_noted ?_;rw[compTurn_list];refine ak (ox (ak (e9 (turn n s hI) (fun r s₁ h1=>?_) fun _ _ h'=>h'.elim)))
 induction r with
 |none=>exact bo h1
 |some v=>
  refine ak (e9 h1 (fun _ s₀ h0=>?_) fun _ _ h'=>h'.elim)
  refine ak (e9 h0 (fun _ s₂ h2=>ak (e9 h2 (fun ok s₃ h3=>?_) fun _ _ h'=>h'.elim)) fun _ _ h'=>h'.elim)
  induction ok with
  |false=>exact bo ⟨rfl,h3⟩
  |true=>
   exact ak (ak (e9 h3 (fun x s4 h4=>ak (e9 h4 (fun _ s5 h5=>bo (bo ⟨rfl,h5⟩)) fun _ _ h'=>h'.elim)) fun _ _ h'=>h'.elim))
variable{kx vx:al}
def bf3{A:az}{target iter:al}{D:ai}{s:af}(I:Nat->af->Prop)
  (turn:∀n s,I n s->wpAny (model prog w) A (pyNext it) (fun r s₁=>match r with
   |none=>R (.ok .next) s₁
   |some v=>wpAny (model prog w) A (letOwnedTupleGo target it v) (fun _ s₀=>wpAny (model prog w) A (assign target env v) (fun _ s₂=>
     wpAny (model prog w) A (forIn ifs true fun c r=>if r=true then do let ok <-isTrue c env (eval c env);pure (ny ok)else pure (ny r)) (fun ok s₃=>
      if ok=true then wpAny (model prog w) A (eval kx env) (fun kv s4=>wpAny (model prog w) A (eval vx env) (fun vv s5=>
       wpAny (model prog w) A (dictSet D kv vv) (fun _ s₆=>∃m,m<n/\I m s₆) NoE s5) NoE s4) NoE s₃
      else∃m,m<n/\I m s₃) NoE s₂) NoE s₀) NoE s₁) NoE s)
  (n:Nat) (h:I n s):codeAny (model prog w) A (.compLoop (.DictComp kx vx [⟨target,iter,ifs,0⟩] scope pos) 0 it (.ref D) env) R s:=by
 refine codeAny_loop rfl I (fun n s hI=>?_) n h
 show wpAny _ A ((compTurn (.DictComp kx vx [⟨target,iter,ifs,0⟩] scope pos) 0 it (.ref D) env).onRaise (fun x=>do noteFrame x env;theTreesLotGoes x)) _ _ s
 refine wpAny_noted ?_;rw[compTurn_dict];refine ak (ox (ak (e9 (turn n s hI) (fun r s₁ h1=>?_) fun _ _ h'=>h'.elim)))
 induction r with
 |none=>exact bo h1
 |some v=>
  refine ak (e9 h1 (fun _ s₀ h0=>?_) fun _ _ h'=>h'.elim)
  refine ak (e9 h0 (fun _ s₂ h2=>ak (e9 h2 (fun ok s₃ h3=>?_) fun _ _ h'=>h'.elim)) fun _ _ h'=>h'.elim)
  induction ok with
  |false=>exact bo ⟨rfl,h3⟩
  |true=>
   exact ak (ak (e9 h3 (fun kv s4 h4=>ak (jc (e9 h4 (fun vv s5 h5=>ak (ox (jc (e9 h5 (fun _ s₆ h6=>bo ⟨rfl,h6⟩) fun _ _ h'=>h'.elim)))) fun _ _ h'=>h'.elim))) fun _ _ h'=>h'.elim))
def se(G:Gl prog w)(sc:dc)(n:Nat)(ifs:List al)(ts:PS->Option Bool):Prop:=
 ∀⦃A env g s σ b⦄,dy A n->ft G sc env g s σ->ts σ=some b ->
  wpAny (model prog w) A (forIn ifs true fun c r=>if r=true then do let ok <-isTrue c env (eval c env);pure (ny ok)else pure (ny r)) (yk G g s b) NoE s
def a6e:se G sc n [] (fun _=>some true):=fun _ _ g _ _ _ _ X y=>by
 cases y;exact wpAny_tests_nil ⟨rfl,g,Ext.refl X.sok⟩
def aek{c:al}{f:PS->Option Bool}(h:q6 G sc n c f):se G sc n [c] f:=fun _ _ _ _ _ _ R X y=>wpAny_tests_one (h R X y)
noncomputable def q4{β:Type}(b:D->PS->Option PS)(ts:PS->Option Bool)(f:PS->Option β)(σ:PS):List D->Option (List β)
 |[]=>some []
 |d::ds=>(b d σ).bind fun σ'=>(ts σ').bind fun t=>if t then(f σ').bind fun y=>(q4 b ts f σ ds).map (y::·)else q4 b ts f σ ds
variable{ts:PS->Option Bool}
def bf4{b:D->PS->Option PS}{f:PS->Option β}{d ds:_}:q4 b ts f σ (d::ds)=(b d σ).bind fun σ'=>(ts σ').bind fun t=>if t then(f σ').bind fun y=>(q4 b ts f σ ds).map (y::·)else q4 b ts f σ ds:=rfl
variable{s'':af}
def Ext.then{g g'':ah}{s:af}(x:Ext G g s g' s')(y:Mv G W g' s' g'' s'')(h:∀a,W a->s.heap.get? a=none):Ext G g s g'' s'':=
 ((x.mv (W:=fun _=>False)).trans y fun a q=>.inr (h a q)).ext fun _ q=>q.elim
def Fr.keepOf{g:ah}{s:af}(x:Fr G sc env W g s σ)(hs:SOK G g' s')(hg:VLe g g')(hW:∀a,W a->g'.f a=none)
  (k:∀a o,(W a\/∃n,env.cells.lookup n=some a)->s.heap.get? a=some o->s'.heap.get? a=some o):Fr G sc env W g' s' σ:=by
 have ks:∀{n v},cu env s.heap n v->cu env s'.heap n v:=fun h=>h.keep (fun o e=>k _ o (.inl x.loc) e) fun c o hl e=>k c o (.inr ⟨_,hl⟩) e
 exact{
  eok:={x.eok with
   sok:=hs
   cells:=fun n hn=>let⟨⟨c,v,hl,o,ho,hd⟩,hk⟩:=x.eok.cells n hn;⟨⟨c,v,hl,o,k c o (.inr ⟨_,hl⟩) ho,hd⟩,hk⟩
   allc:=fun n c h=>let⟨v,o,ho,hd⟩:=x.eok.allc n c h;⟨v,o,k c o (.inr ⟨n,h⟩) ho,hd⟩
   vars:=fun n d hd=>let⟨v,h1,h2⟩:=x.eok.vars n d hd;⟨v,ks h1,h2.mono prog w hg⟩
   own:=fun n d hd=>by
    obtain⟨a,h1,h2,h3⟩:=x.eok.own n d hd;exact⟨a,ks h1,h2.mono hg fun o e=>k a o (.inl (x.ownW n d a hd h1).1) e,hW a (x.ownW n d a hd h1).1⟩}
  priv:=fun a h=>⟨hW a h,(x.priv a h).2⟩
  here:=fun a h=>let⟨o,e⟩:=x.here a h;⟨o,k a o (.inl h) e⟩
  loc:=x.loc
  ns:=let⟨m,hn⟩:=x.ns;⟨m,hn.at' fun o e=>k _ o (.inl x.loc) e⟩
  ownc:=x.ownc
  locs:=x.locs
  oapart:=fun n m d d' a e e' h h'=>by
   obtain⟨b,h1,h2,_⟩:=x.eok.own n d e;obtain⟨b',h1',h2',_⟩:=x.eok.own m d' e';have q:=cu.uniq (ks h1) h;cases q;have q:=cu.uniq (ks h1') h';cases q;exact x.oapart n m d d' _ e e' h1 h1'
  ownW:=fun n d a e h=>by
   obtain⟨b,h1,h2,_⟩:=x.eok.own n d e;have q:=cu.uniq (ks h1) h;cases q;exact x.ownW n d _ e h1}
def Ext.hidden{g:ah}{s:af}(y:Ext G g s g' s')(h:g.f a=none)(l:∃o,s.heap.get? a=some o):g'.f a=none:=by
 cases hq:g'.f a with
 |none=>rfl
 |some o=>
  rcases y.new a o hq with h1|h1
  .exact ns h h1
  .obtain⟨o',e⟩:=l;exact ns h1 e
def Turn.hidden{g:ah}{s:af}(y:Turn G wr g s g' s')(h:g.f a=none)(l:∃o,s.heap.get? a=some o):g'.f a=none:=by
 cases hq:g'.f a with
 |none=>rfl
 |some o=>
  rcases y.new a o hq with h1|h1
  .exact ns h h1
  .obtain⟨o',e⟩:=l;exact ns h1 e
def new_priv{g₀:ah}{s₀:af}(x0:SOK G g₀ s₀)(h:s₀.heap.get? a=none):G.hB.get? a=none/\a≠G.P:=by
 have hP:a≠G.P:=by rintro rfl;obtain⟨o',_,e',_⟩:=x0.gok.hasP;exact ns h e'
 refine⟨?_,hP⟩;cases e:G.hB.get? a with
 |none=>rfl
 |some o=>exact ns h (x0.gok.keep a o hP e)
variable (G)
structure vy(g₀:ah)(s₀:af)(cenv:Env)(W:ai->Prop)(wr:List ai)(Dd:ai):Prop where
 sok:SOK G g₀ s₀
 wrNew:∀a∈wr,s₀.heap.get? a=none
 wrW:∀a∈wr,¬W a
 wrC:∀a∈wr,∀n,cenv.cells.lookup n≠some a
 cP:∀n,cenv.cells.lookup n≠some G.P
 WNew:∀a,W a->s₀.heap.get? a=none
 DNew:s₀.heap.get? Dd=none
 DW:¬W Dd
 Dwr:Dd∉wr
 DC:∀n,cenv.cells.lookup n≠some Dd
structure ik(scope:dc)(g₀:ah)(s₀:af)(cenv:Env)(W:ai->Prop)(wr:List ai)(St:Nat->ah->bf->Prop)(Dd:ai)(σ:PS)(i:Nat)(g:ah)(s:af)(acc:D):Prop where
 ext:Ext G g₀ s₀ g s
 fr:Fr G scope cenv W g s σ
 st:St i g s.heap
 hid:∀a∈wr,g.f a=none
 acc:ij prog w g s.heap Dd acc
 accH:g.f Dd=none
variable {G}
section
variable {g₀:ah} {s₀:af} {cenv:Env} {W:ai->Prop} {wr:List ai} {St:Nat->ah->bf->Prop} {Dd:ai} {σ σ':PS} {i:Nat} {g g':ah} {s s':af} {acc acc':D} {A:az} {tgt:al} {it:ae} {ds:List D}
def ik.priv(Fx:vy G g₀ s₀ cenv W wr Dd)(x:ik G scope g₀ s₀ cenv W wr St Dd σ i g s acc):∀a∈wr,g.f a=none/\G.hB.get? a=none/\a≠G.P:=
 fun a ha=>⟨x.hid a ha,new_priv Fx.sok (Fx.wrNew a ha)⟩
def ik.step(Fx:vy G g₀ s₀ cenv W wr Dd)(I:eh G A tgt it wr ds St)(x:ik G scope g₀ s₀ cenv W wr St Dd σ i g s acc)(y:Ext G g s g' s'):ik G scope g₀ s₀ cenv W wr St Dd σ i g' s' acc where
 ext:=x.ext.trans y
 fr:=x.fr.keep y
 st:=I.hold _ _ _ _ _ x.st y.gle fun a ha o e=>y.heap a o (x.priv Fx a ha).2.2 e
 hid:=fun a ha=>y.hidden (x.hid a ha) (I.live _ _ _ x.st a ha)
 acc:=x.acc.mono y.gle fun o e=>y.heap Dd o (new_priv Fx.sok Fx.DNew).2 e
 accH:=y.hidden x.accH x.acc.here
def ik.turnedFr(Fx:vy G g₀ s₀ cenv W wr Dd)(x:ik G scope g₀ s₀ cenv W wr St Dd σ i g s acc)(y:Turn G wr g s g' s'):Fr G scope cenv W g' s' σ:=by
  refine x.fr.keepOf (y.sok x.fr.eok.sok) y.gle (fun a h=>y.hidden (x.fr.priv a h).1 (x.fr.here a h)) fun a o h e=>y.heap a o ?_ ?_ e
  .rcases h with h|⟨n,h⟩
   .exact(x.fr.priv a h).2.2
   .rintro rfl;exact Fx.cP n h
  .intro ha;rcases h with h|⟨n,h⟩
   .exact Fx.wrW a ha h
   .exact Fx.wrC a ha n h
def ik.turned(Fx:vy G g₀ s₀ cenv W wr Dd)(I:eh G A tgt it wr ds St)(x:ik G scope g₀ s₀ cenv W wr St Dd σ i g s acc)(y:Turn G wr g s g' s'){j:Nat}(hst:St j g' s'.heap):ik G scope g₀ s₀ cenv W wr St Dd σ j g' s' acc where
 ext:=x.ext.turn y Fx.wrNew
 fr:=x.turnedFr Fx y
 st:=hst
 hid:=fun a ha=>y.hidden (x.hid a ha) (I.live _ _ _ x.st a ha)
 acc:=x.acc.mono y.gle fun o e=>y.heap Dd o (new_priv Fx.sok Fx.DNew).2 Fx.Dwr e
 accH:=y.hidden x.accH x.acc.here
def ik.bound(Fx:vy G g₀ s₀ cenv W wr Dd)(I:eh G A tgt it wr ds St)(x:ik G scope g₀ s₀ cenv W wr St Dd σ i g s acc)(y:Mv G W g s g s')(F:Fr G scope cenv W g s' σ'):ik G scope g₀ s₀ cenv W wr St Dd σ' i g s' acc where
 ext:=x.ext.then y Fx.WNew
 fr:=F
 st:=I.hold _ _ _ _ _ x.st (.refl g) fun a ha o e=>y.heap a o (x.priv Fx a ha).2.2 (Fx.wrW a ha) e
 hid:=x.hid
 acc:=x.acc.mono (.refl g) fun o e=>y.heap Dd o (new_priv Fx.sok Fx.DNew).2 Fx.DW e
 accH:=x.accH
def ik.put(Fx:vy G g₀ s₀ cenv W wr Dd)(I:eh G A tgt it wr ds St)(x:ik G scope g₀ s₀ cenv W wr St Dd σ i g s acc){h':bf}{tk:Nat}(hs:pe Dd s.heap h')(ht:s.toks<=tk)(q:ij prog w g h' Dd acc') :
  ik G scope g₀ s₀ cenv W wr St Dd σ i g {s with heap:=h',toks:=tk} acc':=by
 have y:Mv G (fun a=>a=Dd) g s g {s with heap:=h',toks:=tk}:=Mv.buts x.fr.eok.sok (fun a h=>h▸⟨x.accH,(new_priv Fx.sok Fx.DNew)⟩) (fun c o hc e=>hs.extBut c o hc e) ht
 exact{
  ext:=x.ext.then y fun a h=>h▸Fx.DNew
  fr:=x.fr.keepOf (y.sok x.fr.eok.sok) y.gle (fun a h=>(x.fr.priv a h).1) fun a o h e=>hs.extBut a o (by
   rintro rfl;rcases h with h|⟨n,h⟩
   .exact Fx.DW h
   .exact Fx.DC n h) e
  st:=I.hold _ _ _ _ _ x.st (.refl g) fun a ha o e=>hs.extBut a o (fun h=>Fx.Dwr (h▸ha)) e
  hid:=x.hid
  acc:=q
  accH:=x.accH}
def ik.less(x:ik G scope g₀ s₀ cenv W wr St Dd σ' i g s acc)(h:σ.le σ'):ik G scope g₀ s₀ cenv W wr St Dd σ i g s acc:={x with fr:=x.fr.le h}
def a53(Fx:vy G g₀ s₀ cenv W wr Dd)(I:eh G A tgt it wr ds St){b:D->PS->Option PS}{ifs:List al}{ts:PS->Option Bool}(ht:pw G scope tgt b)(hts:se G scope n ifs ts)(R:dy A n)
  (x:ik G scope g₀ s₀ cenv W wr St Dd σ i g s acc) {Q:Bool->af->Prop} {Qn:af->Prop}
  (hn:i=ds.length->∀g' s',ik G scope g₀ s₀ cenv W wr (fun _ _ _=>True) Dd σ i g' s' acc->Qn s')
  (hle:i<=ds.length) (hb:∀hi:i<ds.length,∃σ' t,b ds[i] σ=some σ'/\ts σ'=some t/\∀g' s',ik G scope g₀ s₀ cenv W wr St Dd σ' (i+1) g' s' acc->Q t s') :
  wpAny (model prog w) A (pyNext it) (fun r s₁=>match r with
   |none=>Qn s₁
   |some v=>wpAny (model prog w) A (letOwnedTupleGo tgt it v) (fun _ s₀=>wpAny (model prog w) A (assign tgt cenv v) (fun _ s₂=>
     wpAny (model prog w) A (forIn ifs true fun c r=>if r=true then do let ok <-isTrue c cenv (eval c cenv);pure (ny ok)else pure (ny r)) Q NoE s₂) NoE s₀) NoE s₁) NoE s:=by
 by_cases hi:i<ds.length
 .obtain⟨σ',t,h1,h2,h3⟩:=hb hi;refine wm (I.next i hi g s x.fr.eok.sok x.st (x.priv Fx)) (fun r s₁ ⟨v,hv,h⟩=>?_)
  subst hv;refine wm h (fun _ s₂ ⟨g₂,T,q,st⟩=>?_)
  have x2:=x.turned Fx I T st;refine wm (ht R.hh x2.fr q h1) (fun _ s₃ ⟨m,F⟩=>?_)
  refine gT (hts R F.eok h2) (fun ok s4 e g4 y=>?_)
  subst e;exact h3 g4 s4 ((x2.bound Fx I m F).step Fx I y)
 .have hi:i=ds.length:=O.ao1 hle hi;subst hi;refine wm (I.done g s x.fr.eok.sok x.st (x.priv Fx)) (fun r s₁ ⟨hr,g1,T⟩=>?_)
  subst hr;exact hn rfl g1 s₁ {
   ext:=x.ext.turn T Fx.wrNew
   fr:=x.turnedFr Fx T
   st:=trivial
   hid:=fun a ha=>T.hidden (x.hid a ha) (I.live _ _ _ x.st a ha)
   acc:=x.acc.mono T.gle fun o e=>T.heap Dd o (new_priv Fx.sok Fx.DNew).2 Fx.Dwr e
   accH:=T.hidden x.accH x.acc.here}
end
variable (G)
inductive sb (tgt:al) (h0:bf) (g₂:ah) (s₂:af) (ds:List D) (it:ae) (s₃:af):Prop
 |mk (g₃:ah) (wr:List ai) (St:Nat->ah->bf->Prop) (e:Ext G g₂ s₂ g₃ s₃) (h:∀a∈wr,h0.get? a=none/\g₃.f a=none) (ok:∀A,A.handled=none->eh G A tgt it wr ds St) (st:St 0 g₃ s₃.heap)
def ac8(tgt:al)(h0:bf)(g1:ah)(s₁:af)(v:ae)(ds:List D):Prop:=
 ∀⦃A g₂ s₂⦄,A.handled=none->Ext G g1 s₁ g₂ s₂->wpAny (model prog w) A (pyIter v) (sb G tgt h0 g₂ s₂ ds) NoE s₂
inductive aat (tgt:al) (g:ah) (s:af) (ds:List D) (v:ae) (s':af):Prop
 |mk (g':ah) (e:Ext G g s g' s') (q:ac8 G tgt s.heap g' s' v ds)
def mu(sc:dc)(n:Nat)(tgt:al)(e:al)(F:PS->Option (List D)):Prop:=
 ∀⦃A env g s σ ds⦄,dy A n->ft G sc env g s σ->F σ=some ds->wpAny (model prog w) A (eval e env) (aat G tgt g s ds) NoE s
def v8(fs:List String)(b:D->PS->Option PS):Prop:=∀(d:D) (σ σ':PS),b d (σ.only fs)=some σ'->(σ.only fs).le σ'
variable {G}
variable{Q:ae->af->Prop}
def gI{A:az}{g:ah}{s:af}{E:ae->af->Prop}{t:Sem ae}(h:wpAny (model prog w) A t (aat G tgt g s ds) E s)(k:∀v s₁ g1,Ext G g s g1 s₁->ac8 G tgt s.heap g1 s₁ v ds->Q v s₁):wpAny (model prog w) A t Q E s:=wm h fun v s₁ h=>h.casesOn (k v s₁)
def gJ{A:az}{g:ah}{h0:bf}{s:af}{E:ae->af->Prop}{t:Sem ae}(h:wpAny (model prog w) A t (sb G tgt h0 g s ds) E s)(k:∀it s₁ g1 wr St,Ext G g s g1 s₁->(∀a∈wr,h0.get? a=none/\g1.f a=none)->(∀A,A.handled=none->eh G A tgt it wr ds St)->St 0 g1 s₁.heap->Q it s₁):wpAny (model prog w) A t Q E s:=wm h fun v s₁ h=>h.casesOn (k v s₁)
def azf(h:x∉fs){τ:PS}(l:(σ.only fs).le τ)(d:D):(σ.only fs).le (τ.set x d):=
 ⟨fun z d' e=>ifE e (fun hz _=>(if_neg fun hx:z=x=>h (hx▸hz)).trans (l.vars z d' e)) fun _ e=>ns rfl e,fun _ _ e=>ns rfl e⟩
def xn(h:x∉fs):v8 fs (ax x):=fun d σ σ' y=>dn y▸azf h (.refl _) d
def bgr(h:∀x∈xs,x∉fs){ρ:PS}(l:(σ.only fs).le ρ)(y:af4 xs ds ρ=some σ'):(σ.only fs).le σ':=by
 induction xs generalizing ds ρ with
 |nil=>induction ds with
  |nil=>exact dn y▸l
  |cons=>exact ns rfl y
 |cons x xs ih=>induction ds with
  |nil=>exact ns rfl y
  |cons d ds=>exact ih (fun z hz=>h z (.tail _ hz)) (azf (h x (.head _)) l d) y
def aj1(h:∀x∈xs,x∉fs):v8 fs (cz xs):=fun _ _ _ y=>aq y fun _ _ y=>bgr h (.refl _) y
def bbh{g g3:ah}{s s₃ s4:af}{Dd:ai}(X:ft G sc env g s σ)(e3:Ext G g s g3 s₃)(I:sd sc scope fs)(hwr:∀a∈wr,s.heap.get? a=none)(hlive:∀a∈wr,∃o,s₃.heap.get? a=some o)
  (hD:s₃.heap.get? Dd=none) (hD4:∃o,s4.heap.get? Dd=some o) (e4:Ext G g3 s₃ g3 s4)
  (hW:∀a,inW scope s4.heap.objs.size a->s4.heap.get? a=none)
  (hC:∀x c,(r5 scope env s4.heap.objs.size).cells.lookup x=some c->s4.heap.get? c=none\/((sc.names.lookup x=some .cell\/sc.names.lookup x=some .free)/\env.cells.lookup x=some c)) :
  vy G g s (r5 scope env s4.heap.objs.size) (inW scope s4.heap.objs.size) wr Dd:=by
 have X3:=e3.sok X.sok;have X4:=e4.sok X3;have back:∀a,s4.heap.get? a=none->s.heap.get? a=none:=fun a h=>by
  refine noS fun o q=>?_
  refine if hP:a=G.P then ?_ else ?_
  .subst hP;refine i3 X4.gok.hasP fun o' _ e' _=>?_;exact ns h e'
  .exact ns h ((e3.trans e4).heap a o hP q)
 have live4:∀a∈wr,∃o,s4.heap.get? a=some o:=fun a ha=>by
  refine oE (hlive a ha) fun o h=>?_
  exact⟨o,e4.heap a o (new_priv X.sok (hwr a ha)).2 h⟩
 have hDs:s.heap.get? Dd=none:=by
  refine noS fun o q=>?_
  refine if hP:Dd=G.P then ?_ else ?_
  .subst hP;refine i3 X3.gok.hasP fun o' _ e' _=>?_;exact ns hD e'
  .exact ns hD (e3.heap Dd o hP q)
 exact{
  sok:=X.sok
  wrNew:=hwr
  wrW:=fun a ha h=>by refine oE (live4 a ha) fun o q=>?_;exact ns (hW a h) q
  wrC:=fun a ha x h=>by
   rcases hC x a h with h|⟨h,hl⟩
   .refine oE (live4 a ha) fun o q=>?_;exact ns h q
   .obtain⟨⟨c,v,h1,o,h2,_⟩,_⟩:=X.cells x h;rw[hl]at h1;cases h1;exact ns (hwr a ha) h2
  cP:=fun x h=>by
   rcases hC x _ h with h|⟨h,hl⟩
   .refine i3 X4.gok.hasP fun o' _ e' _=>?_;exact ns h e'
   .obtain⟨⟨c,v,h1,h2⟩,_⟩:=X.cells x h;rw[hl]at h1;cases h1;refine zx X.sok.gok.hasP fun o' vs e' d' _=>?_
    exact ajy e' d' h2 rfl
  WNew:=fun a h=>back a (hW a h)
  DNew:=hDs
  DW:=fun h=>by refine oE hD4 fun o q=>?_;clear hD4;exact ns (hW _ h) q
  Dwr:=fun h=>by refine oE (hlive _ h) fun o q=>?_;exact ns hD q
  DC:=fun x h=>by
   rcases hC x _ h with h|⟨h,hl⟩
   .refine oE hD4 fun o q=>?_;clear hD4;exact ns h q
   .obtain⟨⟨c,v,h1,o,h2,_⟩,_⟩:=X.cells x h;rw[hl]at h1;cases h1;exact ns hDs h2}
def agm(G:Gl prog w)(g:ah)(s:af)(d:D)(R:ae->ai->Result->af->Prop):Prop:=
 ∀Dd C g' s',Ext G g s g' s'->s.heap.get? Dd=none->s.heap.get? C=none->Dd≠C->g'.f Dd=none->g'.f C=none->ij prog w g' s'.heap Dd d->(∃m,s'.heap.Ns C m)->R (.ref Dd) C (.ok .next) s'
variable{use:Option (ae->Sem Unit)}
def a27{A:az}{g:ah}{s:af}{comp iter:al}{new:Sem ae}{o0:Obj}{F:PS->Option (List D)}{b:D->PS->Option PS}{f:PS->Option β}{wrap:List β->D}{ys:List β}{step:ai->Env->(af->Prop)->af->Prop}
  (hcl:clausesOf comp=[⟨tgt,iter,ifs,0⟩]) (ho:o0.isFreed=false) (hnew:∀{s Q},Q (.ref s.heap.objs.size) {s with heap:=s.heap.push o0}->wpAny (model prog w) A new Q NoE s)
  (hst:∀{it acc cenv R s},codeAny (model prog w) A (.compLoop comp 0 it acc cenv) R s->wpAny (model prog w) A (pyIter it) (fun it' s'=>codeAny (model prog w) A (.compLoop comp 0 it' acc cenv) R s') (notedBy (model prog w) A cenv fun x s'=>R (.error x) s') s->codeAny (model prog w) A (.compStart comp 0 it acc cenv) R s)
  (hloop:∀{it Dd cenv R s} (I:Nat->af->Prop) (_:∀n s,I n s->wpAny (model prog w) A (pyNext it) (fun r s₁=>match r with
   |none=>R (.ok .next) s₁
   |some v=>wpAny (model prog w) A (letOwnedTupleGo tgt it v) (fun _ s₀=>wpAny (model prog w) A (assign tgt cenv v) (fun _ s₂=>
     wpAny (model prog w) A (forIn ifs true fun c r=>if r=true then do let ok <-isTrue c cenv (eval c cenv);pure (ny ok)else pure (ny r)) (fun ok s₃=>
      if ok=true then step Dd cenv (fun s4=>∃m,m<n/\I m s4) s₃ else∃m,m<n/\I m s₃) NoE s₂) NoE s₀) NoE s₁) NoE s)
   (n:Nat),I n s->codeAny (model prog w) A (.compLoop comp 0 it (.ref Dd) cenv) R s)
  (hstep:∀{cenv W wr St Dd i g1 s₁ σ' zs y it K},vy G g s cenv W wr Dd->eh G A tgt it wr ds St->ik G scope g s cenv W wr St Dd σ' i g1 s₁ (wrap zs)->f σ'=some y->zs.length<sizeLine ->
   (∀g₂ s₂,ik G scope g s cenv W wr St Dd σ' i g₂ s₂ (wrap (zs++[y]))->K s₂)->step Dd cenv K s₁)
  (hwrap:∀g h a,(a==sysModules)=false->h.get? a=some o0->ij prog w g h a (wrap []))
  (hi:mu G sc n tgt iter F) (I:sd sc scope fs) (ht:pw G scope tgt b) (hb:v8 fs b) (hts:se G scope n ifs ts) (hf:∀x,foldedSetIterable iter env x=pure x)
  (R:dy A n) (X:ft G sc env g s σ) (hF:F σ=some ds) (hsz:ds.length<=sizeLine) (hy:q4 b ts f (σ.only fs) ds=some ys)
  (hE:agm G g s (wrap ys) (fun acc C r s'=>compPost (model prog w) A NoE use Q acc C r s')) :
  wpAny (model prog w) A (comprehension comp scope env p new false (eval iter env) use) Q NoE s:=by
 refine wpAny_comprehension_free hcl hf ((a1d X I).1:closureFor scope env=pure (l4 env.cells scope.names [])) I.kind (fun x hx hl=>by rw[I.names x hx,hl]) ?_
 refine gI (hi R X hF) fun v s₁ g1 e1 it1=>gJ (it1 R.hh (Ext.refl (e1.sok X.sok))) fun it s₃ g3 wr St e2 hwr hit hst'=>hnew ?_
 have e3:=e1.trans e2;have X3:=X.mono e3;have IT:=hit A R.hh;generalize hs4:({s₃ with heap:=s₃.heap.push o0}:af)=s4;have e4:Ext G g3 s₃ g3 s4:=hs4▸Ext.grow X3.sok (fun a o e=>b4 _ e) (ay _)
 have hD4:s4.heap.get? s₃.heap.objs.size=some o0:=hs4▸dw _ ho;refine ban (oA (a1d (X3.mono e4) I) fun _ h5=>a94 (h5 _ rfl) fun e5 hW F5 hC=>?_)
 generalize hs5:({s4 with heap:=pushCells (s4.heap.push {cls:=.type "dict",data:=.dict #[]}) scope.names}:af)=s5 at e5 F5;have Fx:=bbh X e3 I (fun a ha=>(hwr a ha).1) (IT.live _ _ _ hst') (dq _) ⟨_,hD4⟩ e4 hW hC
 have L5:ik G scope g s (r5 scope env s4.heap.objs.size) (inW scope s4.heap.objs.size) wr St s₃.heap.objs.size (σ.only fs) 0 g3 s5 (wrap []):={
  ext:=(e3.trans e4).trans e5
  fr:=F5
  st:=IT.hold _ _ _ _ _ hst' (.refl _) fun a ha o e=>e5.heap a o (new_priv X.sok (hwr a ha).1).2 (e4.heap a o (new_priv X.sok (hwr a ha).1).2 e)
  hid:=fun a ha=>(hwr a ha).2
  acc:=hwrap _ _ _ (aj2 X3.sok) (e5.heap _ _ (new_priv X.sok Fx.DNew).2 hD4)
  accH:=gu X3.sok (dq _)}
 have loop:codeAny (model prog w) A (.compLoop comp 0 it (.ref s₃.heap.objs.size) (r5 scope env s4.heap.objs.size)) (fun r s'=>compPost (model prog w) A NoE use Q (.ref s₃.heap.objs.size) s4.heap.objs.size r s') s5:=by
  refine hloop (fun k s'=>∃i g' zs rest,ik G scope g s (r5 scope env s4.heap.objs.size) (inW scope s4.heap.objs.size) wr St s₃.heap.objs.size (σ.only fs) i g' s' (wrap zs)/\i<=ds.length /\
   q4 b ts f (σ.only fs) (ds.drop i)=some rest/\zs++rest=ys/\zs.length<=i/\k=ds.length+1 - i) ?_ (ds.length+1) ⟨0,g3,[],ys,L5,g9 _,hy,rfl,g9 _,rfl⟩
  rintro k s' ⟨i,g',zs,rest,L,hil,hrest,hzs,hzl,rfl⟩;refine a53 (Qn:=fun s₁=>compPost (model prog w) A NoE use Q (.ref s₃.heap.objs.size) s4.heap.objs.size (.ok .next) s₁) Fx IT ht hts R L (fun hin g₆ s₆ L6=>?_) hil fun hlt=>?_
  .subst hin;rw[ad3]at hrest;cases hrest;rw[fo]at hzs;subst hzs;exact hE _ _ g₆ s₆ L6.ext Fx.DNew (Fx.WNew _ (.inl rfl)) (fun h=>ns (dq _) (h▸hD4)) L6.accH (L6.fr.priv _ (.inl rfl)).1 L6.acc L6.fr.ns
  .rw[lh hlt]at hrest;refine aq hrest fun σ' h1 hrest=>aq hrest fun t h2 hrest=>⟨σ',t,h1,h2,fun g₆ s₆ L6=>?_⟩
   induction t with
   |false=>exact⟨ds.length+1 - (i+1),O.aja hlt,i+1,g₆,zs,rest,L6.less (hb _ _ _ h1),hlt,hrest,hzs,gm hzl,rfl⟩
   |true=>
    refine aq hrest fun y hy hrest=>b9 hrest fun rest' hrest' ez2=>?_
    exact hstep Fx IT L6 hy (rf hzl (i7 hlt hsz)) fun g7 s₇ L7=>⟨ds.length+1 - (i+1),O.aja hlt,i+1,g7,zs++[y],rest',L7.less (hb _ _ _ h1),hlt,hrest',by rw[gj,au1,ez2];exact hzs,by rw[de];exact abb hzl,rfl⟩
 exact hst loop (IT.self _ _ _ _ _ L5.st loop)
def a25{A:az}{g:ah}{s:af}{iter:al}{F:PS->Option (List D)}{b:D->PS->Option PS}{ys:List D}
  (hi:mu G sc n tgt iter F) (I:sd sc scope fs) (ht:pw G scope tgt b) (hb:v8 fs b) (hts:se G scope n ifs ts) (he:Den G scope n elt f) (hf:∀x,foldedSetIterable iter env x=pure x)
  (R:dy A n) (X:ft G sc env g s σ) (hF:F σ=some ds) (hsz:ds.length<=sizeLine) (hy:q4 b ts f (σ.only fs) ds=some ys)
  (hE:agm G g s (.list ys) (fun acc C r s'=>compPost (model prog w) A NoE use Q acc C r s')) :
  wpAny (model prog w) A (comprehension (.ListComp elt [⟨tgt,iter,ifs,0⟩] scope pos) scope env p (newList []) false (eval iter env) use) Q NoE s:=
 a27 (wrap:=.list) (step:=fun Dd cenv K s=>wpAny (model prog w) A (eval elt cenv) (fun x s4=>wpAny (model prog w) A (call (.builtin "list.append") [.ref Dd,x]) (fun _ s5=>K s5) NoE s4) NoE s) rfl rfl (fun h=>rd h (by size_fits)) codeAny_compStart_list bf2
  (fun{_ _ _ _ _ _ _ _ _ zs y _ _} Fx IT L hy hz K=>gv (he R L.fr.eok hy) fun v s₇ g7 e7 q=>i3 (L.step Fx IT e7).acc fun vs m eD r=>by
   refine avn (items:=vs.toArray) ⟨m,eD⟩ (fun h8 ⟨m',hp⟩ hs=>K _ _ ((L.step Fx IT e7).put (tk:=s₇.toks) Fx IT hs (ay _) (acc':=.list (zs++[y])) ⟨vs++[v],m',?_,r.snoc q⟩)) (ko▸r.length▸sx hz)
   rw[hp];simp[c8])
  (fun _ _ _ _ h=>⟨[],0,h,trivial⟩) hi I ht hb hts hf R X hF hsz hy hE
noncomputable def fx(kvs:List (Str×D))(k:Str)(d:D):List (Str×D):=
 if kvs.any (fun kv=>kv.1=k)then kvs.map (fun kv=>if kv.1=k then(kv.1,d)else kv)else kvs++[(k,d)]
noncomputable def xu(l:List (Str×D)):List (Str×D):=l.foldl (fun kvs p=>fx kvs p.1 p.2) []
def a5g{v:ae}{vs:List ae}{k:Str}:gy (v::vs) ((k,d)::l)=(k,v)::gy vs l:=rfl
def a5h{g:ah}{k:Str}{vs:List ae}(r:dz prog w g vs l):(gy vs l).any (fun kv=>kv.1=k)=l.any (fun kv=>kv.1=k):=by
 induction r using dz.ind with
 |n=>rfl
 |c _ _ ih=>exact congrArg (_ || ·) ih
def a2q{g:ah}{k:Str}{v:ae}{vs:List ae}(r:dz prog w g vs l)(q:Rep prog w g v d) :
  ∃vs',gy vs' (fx l k d)=stored (gy vs l) k v/\dz prog w g vs' (fx l k d):=by
 delta fx stored;refine(a5h r)▸?_;split
 .rename_i h;clear h;induction r using dz.ind with
  |n=>exact⟨[],rfl,trivial⟩
  |@c u vs k' d' l q' _ ih=>
   refine oEA ih fun vs' h1 h2=>if hk:k'=k then⟨v::vs',?_⟩else⟨u::vs',?_⟩
   all_goals simp only[ee,a5g,hk,if_true,if_false]
   .exact⟨congrArg _ h1,q,h2⟩
   .exact⟨congrArg _ h1,q',h2⟩
 .rename_i h;clear h;induction r using dz.ind with
  |n=>exact⟨[v],rfl,q,trivial⟩
  |@c u vs k' d' l q' _ ih=>exact oEA ih fun vs' h1 h2=>⟨u::vs',congrArg ((k',u)::·) h1,q',h2⟩
def ber(l:List (Str×D))(k:Str)(d:D):(fx l k d).length<=l.length+1:=by delta fx;split<;>simp
def a2p(l:List (Str×D))(p:Str×D):xu (l++[p])=fx (xu l) p.1 p.2:=abj
def bep(l:List (Str×D)):(xu l).length<=l.length:=by
 have:∀(l m:List (Str×D)),(l.foldl (fun kvs p=>fx kvs p.1 p.2) m).length<=m.length+l.length:=fun l=>by
  induction l with
  |nil=>exact fun m=>ay _
  |cons p l ih=>exact fun m=>aw (ih _) (aw (aus (ber m p.1 p.2) _) (aha (Nat.succ_add_eq_add_succ _ _)))
 exact sv l.length▸this l []
noncomputable def aow(fk fv:PS->Option D):PS->Option (Str×D):=fun σ=>(fk σ).bind fun a=>(b7 a).bind fun k=>(fv σ).map fun d=>(k,d)
variable{fk fv:PS->Option D}
def a26{A:az}{g:ah}{s:af}{iter:al}{F:PS->Option (List D)}{b:D->PS->Option PS}{ys:List (Str×D)}
  (hi:mu G sc n tgt iter F) (I:sd sc scope fs) (ht:pw G scope tgt b) (hb:v8 fs b) (hts:se G scope n ifs ts) (hk:Den G scope n kx fk) (hv:Den G scope n vx fv) (hf:∀x,foldedSetIterable iter env x=pure x)
  (R:dy A n) (X:ft G sc env g s σ) (hF:F σ=some ds) (hsz:ds.length<=sizeLine) (hy:q4 b ts (aow fk fv) (σ.only fs) ds=some ys)
  (hE:agm G g s (.dict (xu ys)) (fun acc C r s'=>compPost (model prog w) A NoE use Q acc C r s')) :
  wpAny (model prog w) A (comprehension (.DictComp kx vx [⟨tgt,iter,ifs,0⟩] scope pos) scope env p newDict false (eval iter env) use) Q NoE s:=
 a27 (wrap:=fun zs=>.dict (xu zs)) (step:=fun Dd cenv K s=>wpAny (model prog w) A (eval kx cenv) (fun kv s4=>wpAny (model prog w) A (eval vx cenv) (fun vv s5=>wpAny (model prog w) A (dictSet Dd kv vv) (fun _ s₆=>K s₆) NoE s5) NoE s4) NoE s) rfl rfl (fun h=>rd h (by size_fits)) codeAny_compStart_dict bf3
  (fun{_ _ _ _ _ _ _ _ _ zs y _ _} Fx IT L hy hz K=>aq hy fun a ha hy=>aq hy fun kk hkk hy=>b9 hy fun d hd ez=>gv (hk R L.fr.eok ha) fun kv s₇ g7 e7 q=>oE (gr q hkk) fun tk ez1=>ez1▸by
   have L7:=L.step Fx IT e7;refine gv (hv R L7.fr.eok hd) fun vv s₈ g₈ e8 q'=>?_
   have L8:=L7.step Fx IT e8;refine xi L8.acc fun o vs eD hD r hsys=>wpAny_dictSet_pairs (knd:=strKind prog w) (k:=kk) (aa2 _ _ _ _) (ux.mpr ⟨o,eD,hD⟩) (fun h9 hd9 hs=>?_) ((sz r).symm▸sx (rf (bep zs) hz))
   refine oEA (ux.mp hd9) fun o' eo hd'=>oEA (a2q (k:=kk) r q') fun vs' hz r'=>K _ _ (L8.put (tk:=s₈.toks+1) Fx IT hs (fm _) ⟨o',vs',eo,?_,?_,hsys⟩)
   .rw[a2p,<-ez,hz];exact hd'
   .rw[a2p,<-ez];exact r')
  (fun _ _ _ hs h=>⟨_,[],h,ajx,trivial,hs⟩) hi I ht hb hts hf R X hF hsz hy hE
noncomputable def a7(fs:List String)(F:PS->Option (List D))(b:D->PS->Option PS)(ts:PS->Option Bool)(f:PS->Option D):PS->Option D:=
 fun σ=>(F σ).bind fun ds=>if ds.length<=sizeLine then(q4 b ts f (σ.only fs) ds).map .list else none
noncomputable def i4(fs:List String)(F:PS->Option (List D))(b:D->PS->Option PS)(ts:PS->Option Bool)(fk fv:PS->Option D):PS->Option D:=
 fun σ=>(F σ).bind fun ds=>if ds.length<=sizeLine then(q4 b ts (aow fk fv) (σ.only fs) ds).map fun l=>.dict (xu l)else none
def ax8{g:ah}(q:ij prog w g h a d)(hg:g.f a=none):∃o,h.get? a=some o/\Rep prog w (bu g a o) (.ref a) d:=by
 have le:∀o,VLe g (bu g a o):=fun o=>bu.le hg
 cases d with
 |list l=>refine i3 q fun vs m e r=>?_;clear q;exact⟨_,e,by exact⟨a,vs,m,rfl,bu.self,r.mono prog w (le _)⟩⟩
 |dict l=>refine xi q fun o vs e hd r hs=>?_;clear q;exact⟨o,e,by exact⟨a,o,vs,rfl,bu.self,hd,r.mono prog w (le _),hs⟩⟩
 |_=>exact q.elim
def a29{A:az}{g:ah}{s:af}(X:SOK G g s):agm G g s d (fun acc C r s'=>compPost (model prog w) A NoE none (bj G g s d) acc C r s'):=by
 intro Dd C g' s' e hD hC hne gD gC sh ⟨m,hm⟩;refine⟨m,hm,fun h' hs=>?_⟩
 refine oEA (ax8 (sh.mono (.refl g') fun o x=>hs.extBut Dd o hne x) gD) fun o ho q=>?_
 exact⟨_,(e.touch (tk:=s'.toks) X hC gC hs (ay _)).reveal X hD gD ho,q⟩
def acx{iter:al}{F:PS->Option (List D)}{b:D->PS->Option PS}
  (hi:mu G sc n tgt iter F) (I:sd sc scope fs) (ht:pw G scope tgt b) (hb:v8 fs b) (hts:se G scope n ifs ts) (he:Den G scope n elt f) (hf:∀env x,foldedSetIterable iter env x=pure x) :
  Den G sc n (.ListComp elt [⟨tgt,iter,ifs,0⟩] scope pos) (a7 fs F b ts f):=fun A env g s σ d R X y=>by
 refine aq y ?_;clear y;intro ds hds y;split at y
 .rename_i hsz;refine b9 y fun ys hys e=>e▸?_
  rw[arm_eval_ListComp];exact a25 hi I ht hb hts he (hf env) R X hds hsz hys (a29 X.sok)
 .exact nomatch y
def bfk{iter:al}{F:PS->Option (List D)}{b:D->PS->Option PS}
  (hi:mu G sc n tgt iter F) (I:sd sc scope fs) (ht:pw G scope tgt b) (hb:v8 fs b) (hts:se G scope n ifs ts) (hk:Den G scope n kx fk) (hv:Den G scope n vx fv) (hf:∀env x,foldedSetIterable iter env x=pure x) :
  Den G sc n (.DictComp kx vx [⟨tgt,iter,ifs,0⟩] scope pos) (i4 fs F b ts fk fv):=fun A env g s σ d R X y=>by
 refine aq y ?_;clear y;intro ds hds y;split at y
 .rename_i hsz;refine b9 y fun ys hys e=>e▸?_
  rw[arm_eval_DictComp];exact a26 hi I ht hb hts hk hv (hf env) R X hds hsz hys (a29 X.sok)
 .exact nomatch y
noncomputable abbrev adg(h:bf)(x:Str)(t:Tok):bf:=h.push {cls:=.type (strIterType x),data:=.fields #[.str x t,.int 0 0]}
noncomputable abbrev agw(h:bf)(x:Str)(t:Tok)(l2:ai):bf:=(adg h x t).push {cls:=.type "list_iterator",data:=.fields #[.ref l2,.int 0 0]}
noncomputable abbrev agv(h:bf)(x:Str)(t:Tok)(l2:ai):bf:=(agw h x t l2).push {cls:=.type "tuple",data:=.seq #[.ref h.objs.size,.ref (adg h x t).objs.size]}
noncomputable abbrev agu(h:bf)(x:Str)(t:Tok)(l2:ai):bf:=(agv h x t l2).push {cls:=.type "tuple",data:=.seq #[.none,.none]}
noncomputable abbrev aaw(h:bf)(x:Str)(t:Tok)(l2:ai):bf:=(agu h x t l2).push {cls:=.type "zip",data:=.fields #[.none,.bool false,.bool false,.ref (agw h x t l2).objs.size,.ref (agv h x t l2).objs.size]}
set_option maxHeartbeats 2000000 in
def ba6(x:Str)(t:Tok)(l2:ai)(ys:Array ae) :
  Meets (Builtin.«zip.__new__» ⟨[.type "zip",.str x t,.ref l2],[]⟩) (fun _ R s=>s.heap.IsList l2 ys /\
   R (.ok (.ret (.ref (agu s.heap x t l2).objs.size))) {s with heap:=aaw s.heap x t l2}):=
 .of_wp fun prog w A R s h=>by
  obtain⟨hp,g,d,tk,os⟩:=s;obtain⟨hl2,h⟩:=h;have hsub:=sub_zip;have hL2:Heap.IsList (alq ⟨adg hp x t,g,d,tk,os⟩) l2 ys:=Heap.IsList.push hl2 _
  wp_walk using wpAny_pyIter_strU,amr hL2
  exact⟨_,rfl,h⟩
def bgg{A:az}{E:ae->af->Prop}{s:af}{x:Str}{t:Tok}{l2:ai}{ys:Array ae}(hl2:s.heap.IsList l2 ys)
  (h:∀h',IsZip h' (s.heap.objs.size+4) (s.heap.objs.size+2) (s.heap.objs.size+3) .none->IsPair h' (s.heap.objs.size+2) (.ref s.heap.objs.size) (.ref (s.heap.objs.size+1)) ->
   IsPair h' (s.heap.objs.size+3) .none .none->h'.IsStrIter s.heap.objs.size (strIterType x) x t 0->h'.IsListIter (s.heap.objs.size+1) l2 0 ->
   (∀c o,s.heap.get? c=some o->h'.get? c=some o)->Q (.ref (s.heap.objs.size+4)) {s with heap:=h'}) :
  wpAny (model prog w) A (call (.type "zip") [.str x t,.ref l2]) Q E s:=by
 refine callType_new F.called_zip (by decide) (F.typeCall_zip_2 _ _) (F.newCall_zip_2 _ _) (fun obj=>F.args_object_init_3 obj _ _) F.entry_zip_new
  (ba6 x t l2 ys) ⟨hl2,?_⟩
 have z1:(adg s.heap x t).objs.size=s.heap.objs.size+1:=mz ..;have z2:(agw s.heap x t l2).objs.size=s.heap.objs.size+2:=by rw[mz,z1]
 have z3:(agv s.heap x t l2).objs.size=s.heap.objs.size+3:=by rw[mz,z2]
 have z4:(agu s.heap x t l2).objs.size=s.heap.objs.size+4:=by rw[mz,z3]
 have g5:(aaw s.heap x t l2).get? (agu s.heap x t l2).objs.size=some _:=dw _ rfl;have g4:(aaw s.heap x t l2).get? (agv s.heap x t l2).objs.size=some _:=b4 _ (dw _ rfl);have g3:(aaw s.heap x t l2).get? (agw s.heap x t l2).objs.size=some _:=b4 _ (b4 _ (dw _ rfl));have g2:(aaw s.heap x t l2).get? (adg s.heap x t).objs.size=some _:=b4 _ (b4 _ (b4 _ (dw _ rfl)));have g1:(aaw s.heap x t l2).get? s.heap.objs.size=some _:=b4 _ (b4 _ (b4 _ (b4 _ (dw _ rfl))));show _/\_;rw[z2,z3,z4]at g5;rw[z1,z2]at g3;rw[z3]at g4;rw[z1]at g2;rw[z4];exact⟨⟨_,g5,rfl⟩,h _ g5 g3 g4 ⟨_,g1,rfl,rfl⟩ ⟨_,g2,rfl,rfl⟩ fun c o x=>
  b4 _ (b4 _ (b4 _ (b4 _ (b4 _ x))))⟩
def Ext.back{g:ah}{s:af}(e:Ext G g s g' s')(h:s'.heap.get? a=none):s.heap.get? a=none:=by
 refine noS fun o q=>?_
 exact if hP:a=G.P then i3 e.gok.hasP fun o' _ e' _=>ns (hP▸h) e' else ns h (e.heap a o hP q)
def aat.after{g:ah}{s:af}{v:ae}(x:Ext G g s g' s')(y:aat G tgt g' s' ds v s''):aat G tgt g s ds v s'':=by
 obtain⟨g'',e,it⟩:=y;refine⟨g'',x.trans e,fun A g₂ s₂ hh e2=>wm (it hh e2) (fun v' s₃ ⟨g3,wr,St,e3,hw,r,r'⟩=>⟨g3,wr,St,e3,fun a ha=>⟨x.back (hw a ha).1,(hw a ha).2⟩,r,r'⟩)⟩
theorem ac8.self{tgt:al}{g g1:ah}{s s₁:af}{it:ae}{wr:List ai}{St:Nat->ah->bf->Prop}{ds:List D}(X:SOK G g s)(hw:∀a∈wr,s.heap.get? a=none/\g1.f a=none)
  (I:∀A,A.handled=none->eh G A tgt it wr ds St) (st:St 0 g1 s₁.heap):ac8 G tgt s.heap g1 s₁ it ds:=fun A g₂ s₂ hh e2=>by
 have IT:=I A hh;have st2:St 0 g₂ s₂.heap:=IT.hold _ _ _ _ _ st e2.gle fun a ha o e=>e2.heap a o (new_priv X (hw a ha).1).2 e
 refine IT.self _ _ _ _ _ st2 ⟨g₂,wr,St,?_,fun a ha=>⟨(hw a ha).1,e2.hidden (hw a ha).2 ((IT.live _ _ _ st) a ha)⟩,I,st2⟩
 exact⟨.refl _,fun _ _ e=>.inl e,fun _ _ _ e=>e,e2.view,e2.gP,e2.gok,ay _,e2.lim,rfl,e2.bare,ay _,fun _ _=>rfl⟩
theorem sb.push{tgt:al}{h0:bf}{g:ah}{s:af}{o:Obj}{ds:List D}{St:Nat->ah->bf->Prop}(X:SOK G g s)(back:∀a,s.heap.get? a=none->h0.get? a=none)(I:∀A,A.handled=none->eh G A tgt (.ref s.heap.objs.size) [s.heap.objs.size] ds St)(st:St 0 g (s.heap.push o)) :
  sb G tgt h0 g s ds (.ref s.heap.objs.size) {s with heap:=s.heap.push o}:=
 ⟨g,[_],St,aoo X o,fun b hb=>amw.1 hb▸⟨back _ (dq _),gu X (dq _)⟩,I,st⟩
noncomputable def yf(d:D):Option (List D):=@D.casesOn (fun _=>Option (List D)) d none (fun _=>none) (fun _=>none) (fun x=>if x.cps.all (·<128)then some (iu x)else none) (fun x=>if x.cps.all (·<128)then some (iu x)else none) (fun _=>none) some some (fun _=>none)
noncomputable def au(f:PS->Option D):PS->Option (List D):=fun σ=>(f σ).bind yf
inductive ItC:D->List D->Prop
 |str {d x:_} (h:b7 d=some x) (ha:x.cps.all (·<128)=true):ItC d (iu x)
 |tup (l:_):ItC (.tup l) l
 |list (l:_):ItC (.list l) l
variable{l:List D}
def itC(h:yf d=some l):ItC d l:=by
 cases d with
 |str=>exact ifS h fun h e=>e▸.str rfl h
 |hstr=>exact ifS h fun h e=>e▸.str rfl h
 |tup=>exact dn h▸.tup _
 |list=>exact dn h▸.list _
 |_=>exact ns rfl h
def bcd{g:ah}{s:af}{v:ae}(X:SOK G g s)(e:Ext G g s g1 s₁)(q:Rep prog w g1 v d)(h:yf d=some ds):ac8 G tgt s.heap g1 s₁ v ds:=fun A g₂ s₂ hh e2=>by
 have X2:=e2.sok (e.sok X);replace q:=q.mono prog w e2.gle;have back:∀a,s₂.heap.get? a=none->s.heap.get? a=none:=fun a h=>(e.trans e2).back h
 replace h:=itC h;induction h with
 |str h ha=>exact oE (gr q h) fun t e=>e▸wpAny_pyIter_ascii ha (sb.push X2 back (fun A hA=>eh.ascii hA) ⟨_,dw _ rfl,rfl,rfl⟩)
 |tup l=>
  obtain⟨ea,r⟩:=lq q;exact amt (ly (X2.view _ _ ea)) (sb.push X2 back (fun A hA=>eh.tuple hA (k8 (il (X2.view _ _ ea)))) ⟨⟨_,dw _ rfl,rfl,rfl⟩,ea,r⟩)
 |list l=>
  obtain⟨ea,r⟩:=jy q;exact amr (fz (X2.view _ _ ea)) (sb.push X2 back (fun A hA=>eh.list hA (k8 (il (X2.view _ _ ea)))) ⟨⟨_,dw _ rfl,rfl,rfl⟩,ea,r⟩)
def q0(h:Den G sc n e f):mu G sc n tgt e (au f):=fun _ _ _ _ _ _ R X y=>
 aq y fun d hd y=>gv (h R X hd) fun v s₁ g1 e1 q=>⟨g1,e1,bcd X.sok e1 q y⟩
noncomputable def aky(d:D):Option (List D):=(mn d).map th
noncomputable def a3x(d:D):Option (List D):=(mn d).map fun l=>l.map (·.2)
noncomputable def aci(f:PS->Option D):PS->Option (List D):=fun σ=>(f σ).bind aky
noncomputable def aww(f:PS->Option D):PS->Option (List D):=fun σ=>(f σ).bind a3x
def a2y{o:al}{m:Str}{id:String}{F:List (Str×D)->List D}(h:Den G sc n o f)(hbase:∀env,attributeBase o m env (eval o env)=eval o env)(hline:(apos.endLine==pos.line)=true)
  (slot:Slot "dict" m id) (ty:typeOf (.builtin id)=pure (.type "method_descriptor"))
  (C:∀{A:az} {s:af} {a:ai} {kvs:List (Str×ae)} {Q:ae->af->Prop},s.heap.DictOf (strKind prog w) a kvs->(a==sysModules)=false->Q (.ref s.heap.objs.size) {s with heap:=s.heap.push {cls:=.type cls,data:=.fields #[.ref a]}}->wpAny (model prog w) A (call (.builtin id) [.ref a]) Q NoE s)
  (J:∀{A:az} {g:ah} {s:af} {h0:bf} {V a:ai} {o:Obj} {vs:List ae} {kvs:List (Str×D)} {ep:Nat},SOK G g s->(∀b,s.heap.get? b=none->h0.get? b=none)->s.heap.get? V=some {cls:=.type cls,data:=.fields #[.ref a]} ->
   (∀h':bf,h'.get? a=some o->h'.DictAt (strKind prog w) a (gy vs kvs) ep)->g.f a=some o->dz prog w g vs kvs->wpAny (model prog w) A (pyIter (.ref V)) (sb G tgt h0 g s (F kvs)) NoE s) :
  mu G sc n tgt (.Call (.Attribute o m apos) [] [] pos) (fun σ=>(f σ).bind fun d=>(mn d).map F):=fun A env g s σ ds R X y=>by
 refine aq y fun d hd y=>b9 y fun kvs hk e=>e▸?_
 replace hk:=af8 hk;subst hk;refine yu (hbase _) rfl hline (gv (h R X hd) fun v s₁ g1 e1 q=>?_)
 obtain@⟨a,o',vs,ea,hdo,r,hsys⟩:=rv q;have X1:=e1.sok X.sok;have ho:=X1.view _ _ ea;have hdict:s₁.heap.DictOf (strKind prog w) a (gy vs kvs):=ux.mpr ⟨o',ho,hdo⟩;refine⟨"dict",id,PySem.F.plainAttrs_dict,slot,ty,hdict.typeIs,hdict.mapOf.noDict,ug rfl (aum (C hdict hsys ?_))⟩;have e2:=aoo X1 {cls:=.type cls,data:=.fields #[.ref a]};refine⟨g1,e1.trans e2,fun A' g₂ s₂ hh e3=>oE (beu ho hdo) fun ep hat=>?_⟩
 exact J ((e2.trans e3).sok X1) (fun b hb=>((e1.trans e2).trans e3).back hb) (e3.heap _ _ (acd X1 (dq _)) (dw _ rfl)) hat (e3.gle.at' _ _ ea) (r.mono prog w e3.gle)
def akd{o:al}{x1:Nat}(h:Den G sc n o f)(hbase:∀env,attributeBase o "items" env (eval o env)=eval o env)(hline:(apos.endLine==pos.line)=true) :
  mu G sc n (.Tuple elts x1 tp) (.Call (.Attribute o "items" apos) [] [] pos) (aci f):=
 a2y h hbase hline avm PySem.F.type_dict_items (fun hd hs q=>call_meetsIn avm hd.typeIs PySem.F.entry_dict_items (PySem.F.args_dict_items_1 _) (meets_dict_items (strKind prog w) _ hs) ⟨⟨_,hd⟩,q⟩)
  fun X back hV hat ea r=>wpAny_pyIter_items ⟨_,hV,rfl,rfl⟩ (hat _ (X.view _ _ ea)) (sb.push X back (fun A hA=>eh.items hA (k8 (il (X.view _ _ ea))) hat) ⟨⟨.none,.none,dw _ rfl⟩,ea,r⟩)
def bft{o:al}(h:Den G sc n o f)(hbase:∀env,attributeBase o "values" env (eval o env)=eval o env)(hline:(apos.endLine==pos.line)=true) :
  mu G sc n tgt (.Call (.Attribute o "values" apos) [] [] pos) (aww f):=
 a2y h hbase hline avu PySem.F.type_dict_values (fun hd hs q=>call_meetsIn avu hd.typeIs PySem.F.entry_dict_values (PySem.F.args_dict_values_1 _) (meets_dict_values (strKind prog w) _ hs) ⟨⟨_,hd⟩,q⟩)
  fun X back hV hat ea r=>wpAny_pyIter_values ⟨_,hV,rfl,rfl⟩ (hat _ (X.view _ _ ea)) (sb.push X back (fun A hA=>eh.values hA (k8 (il (X.view _ _ ea))) hat) ⟨⟨_,dw _ rfl,rfl,rfl⟩,ea,r⟩)
noncomputable def xr(f:PS->Option D):PS->Option (List D):=fun σ=>((f σ).bind jg).map nk
noncomputable def qp(f₁ f₂:PS->Option D):PS->Option (List D):=fun σ=>((f₁ σ).bind jg).bind fun a=>((f₂ σ).bind jg).bind fun b=>if a.length=b.length then some (ro a b)else none
noncomputable def aeh(x:Str)(f₂:PS->Option D):PS->Option (List D):=fun σ=>((f₂ σ).bind jg).bind fun b=>if x.cps.all (·<128)=true/\(iu x).length=b.length then some (ro (iu x) b)else none
noncomputable def aol(f:PS->Option D):PS->Option (List D):=fun σ=>(f σ).bind fun d=>(i6 d).bind fun i=>if 0<=i/\i<2 ^ 62 then some (aev i.toNat)else none
def aeu{g:ah}{v:ae}(q:Rep prog w g v d)(h:jg d=some l):Sq prog w g "list" l v:=by
 replace h:=ua h;subst h;exact jy q
def aaf(ha:h.objs.size<=a):h.get? a=none:=by
 refine noS fun o e=>?_
 exact absurd (il e) (gi.mpr ha)
def Ext.new_it{g:ah}{s:af}{tk:Nat}{St:Nat->ah->bf->Prop}(X:SOK G g s)(e:Ext G g s g1 s₁)(k:∀a o,s₁.heap.get? a=some o->h'.get? a=some o)(ht:s₁.toks<=tk)(hw:∀b∈wr,s₁.heap.objs.size<=b)
  (I:∀A,A.handled=none->eh G A tgt it wr ds St) (st:St 0 g1 h'):aat G tgt g s ds it {s₁ with heap:=h',toks:=tk}:=
 aat.after e ⟨g1,Ext.grow (e.sok X) k ht,ac8.self (e.sok X) (fun b hb=>⟨aaf (hw b hb),gu (e.sok X) (aaf (hw b hb))⟩) I st⟩
def bfv{x1:Nat}(B:ey G)(h:Den G sc n e f)(hs:gg e=true)(hx:sc.names.lookup ("enumerate" : Str)=some .globalImplicit) :
  mu G sc n (.Tuple elts x1 tp) (.Call (.Name "enumerate" np) [e] [] pos) (xr f):=fun A env g s σ ds R X y=>by
 refine b9 y fun l hl e=>e▸aq hl fun d hd hl=>t1 (T := "enumerate") B X hs hx (by decide) (by decide) (gv (h R X hd) fun v s₁ g1 e1 q1=>?_)
 obtain@⟨a,vs,m,ea,r⟩:=aeu q1 hl;refine call_enumerate_list (fz ((e1.sok X.sok).view _ _ ea)) fun h' he hi hsz hk=>?_
 exact Ext.new_it (wr:=[s₁.heap.objs.size+1,s₁.heap.objs.size]) X.sok e1 hk (ay _) (fun b hb=>(dt.1 hb).elim (fun e=>e▸fm _) fun hb=>amw.1 hb▸ay _) (fun A hA=>eh.enum hA (amj _)) ⟨⟨.none,by assumption⟩,hi,ea,r⟩
def aro(k:Nat):agp (k+4) (k+2) (k+3) k (k+1):=
 have a:∀i j:Nat,i<j->k+i≠k+j:=fun _ _ h=>k8 (ah1 h k)
 ⟨a 2 4 (by decide),a 3 4 (by decide),a 0 4 (by decide),a 1 4 (by decide),a 2 3 (by decide),(a 0 2 (by decide)).symm,(a 1 2 (by decide)).symm,(a 0 3 (by decide)).symm,(a 1 3 (by decide)).symm,a 0 1 (by decide)⟩
def awm{b:Nat}{wr:List Nat}(hw:∀b∈wr,∃i,b=k+i)(h:b∈wr):k<=b:=oE (hw b h) fun i e=>e▸kn k i
variable{f':PS->Option D}
def bfs{x1:Nat}(B:ey G)(h:Den G sc n e f)(h':Den G sc n e' f')(hs:gg e=true)(hs':gg e'=true)(hx:sc.names.lookup ("zip" : Str)=some .globalImplicit) :
  mu G sc n (.Tuple elts x1 tp) (.Call (.Name "zip" np) [e,e'] [] pos) (qp f f'):=fun A env g s σ ds R X y=>by
 refine aq y fun l hl y=>aq y fun l' hl' y=>aq hl fun d hd hl=>aq hl' fun d' hd' hl'=>ifS y fun hlen e=>e▸?_
 refine t2 (T := "zip") B X hs hs' hx (by decide) (by decide) (gv (h R X hd) fun v s₁ g1 e1 q1=>gv (h' R (X.mono e1) hd') fun v' s₂ g₂ e2 q2=>?_)
 obtain⟨ea,r⟩:=aeu (q1.mono prog w e2.gle) hl;obtain⟨ea',r'⟩:=aeu q2 hl';have X2:=e2.sok (e1.sok X.sok);refine call_zip_2 (fz (X2.view _ _ ea)) (fz (X2.view _ _ ea')) fun h'' hz hTI hTO h1 h2 hsz hk=>?_
 exact Ext.new_it X.sok (e1.trans e2) hk (ay _) (fun b=>awm (by simp)) (fun A hA=>eh.zip (aro s₂.heap.objs.size) (fun A hA=>k6.list hA) (fun A hA=>k6.list hA) hA hlen) ⟨hz,hTI,⟨_,_,hTO⟩,⟨h1,ea,r⟩,⟨h2,ea',r'⟩⟩
def aqy{x:Str}{x1:Nat}{kp:Pos}{kk}(B:ey G)(h':Den G sc n e' f')(hs':gg e'=true)(hx:sc.names.lookup ("zip" : Str)=some .globalImplicit) :
  mu G sc n (.Tuple elts x1 tp) (.Call (.Name "zip" np) [.Constant (.str x) kk kp,e'] [] pos) (aeh x f'):=fun A env g s σ ds R X y=>by
 refine aq y fun l' hl' y=>aq hl' fun d' hd' hl'=>ifS y fun hlen e=>e▸?_
 refine t2 (T := "zip") B X rfl hs' hx (by decide) (by decide) (ahz ?_)
 have e1:Ext G g s g {s with toks:=s.toks+1}:=Ext.grow (h':=s.heap) X.sok (fun _ _ e=>e) (fm _)
 refine gv (h' R (X.mono e1) hd') fun v' s₂ g₂ e2 q2=>?_
 obtain⟨ea',r'⟩:=aeu q2 hl';have X2:=e2.sok (e1.sok X.sok);refine bgg (fz (X2.view _ _ ea')) fun h'' hz hTI hTO h1 h2 hk=>?_
 replace h1:=(show strIterType x = "str_ascii_iterator"from if_pos hlen.1)▸h1;exact Ext.new_it X.sok (e1.trans e2) hk (ay _) (fun b=>awm (by simp)) (fun A hA=>eh.zip (aro s₂.heap.objs.size) (fun A hA=>k6.ascii (x:=x) (t:=s.toks) hA) (fun A hA=>k6.list hA) hA hlen.2) ⟨hz,hTI,⟨_,_,hTO⟩,h1,⟨h2,ea',r'⟩⟩
def bfu(B:ey G)(h:Den G sc n e f)(hs:gg e=true)(hx:sc.names.lookup ("range" : Str)=some .globalImplicit) :
  mu G sc n tgt (.Call (.Name "range" np) [e] [] pos) (aol f):=fun A env g s σ ds R X y=>by
 refine aq y fun d hd y=>aq y fun i hi' y=>ifS y fun hi e=>e▸t1 (T := "range") B X hs hx (by decide) (by decide) (gv (h R X hd) fun v s₁ g1 e1 q1=>?_)
 replace hi':=i5 hi';subst hi';refine oE q1 fun t e=>e▸call_range_1 ?_
 have X1:=e1.sok X.sok;have e2:=Ext.grow (h':=s₁.heap.push {cls:=.type "range",data:=.fields #[.int 0 s₁.toks,.int i t,.int 1 (s₁.toks+1)]}) (tk:=s₁.toks+1+1) X1 (fun _ _ e=>b4 _ e) (O.ajb)
 refine⟨g1,e1.trans e2,fun A' g₂ s₂ hh e3=>?_⟩
 have hr:IsRange s₂.heap s₁.heap.objs.size 0 i 1 s₁.toks t (s₁.toks+1):=e3.heap _ _ (acd X1 (dq _)) (dw _ rfl);refine wpAny_pyIter_range hr (small_one (by decide) (by decide) (wk (by decide) hi.1) hi.2) (sb.push ((e2.trans e3).sok X1) (fun b hb=>((e1.trans e2).trans e3).back hb) (fun A hA=>eh.range hA) ?_)
 have e:avl 0 i 1=((i.toNat:Nat):Int) - ((0:Nat):Int):=by rw[rangeSize_nat];simp
 exact e.symm▸(dw s₂.heap (o:={cls:=.type "range_iterator",data:=.fields #[rawInt 0,rawInt (avl 0 i 1),rawInt 1]}) rfl)
inductive Out where
 |next (σ:PS)
 |ret (d:D)
variable (G)
inductive bjt (sc:dc) (env:Env) (W:ai->Prop) (g:ah) (s:af) (σ':PS) (f:Flow) (s':af):Prop
 |mk (hf:f=.next) (W':ai->Prop) (g':ah) (m:Mv G W g s g' s') (hW:∀a,W' a->W a\/s.heap.get? a=none) (F:Fr G sc env W' g' s' σ')
inductive bjs (W:ai->Prop) (g:ah) (s:af) (d:D) (f:Flow) (s':af):Prop
 |mk (v:ae) (g':ah) (hf:f=.ret v) (m:Mv G W g s g' s') (q:Rep prog w g' v d)
def ud(sc:dc)(env:Env)(W:ai->Prop)(g:ah)(s:af)(out:Out):Flow->af->Prop:=
 match out with
 |.next σ'=>bjt G sc env W g s σ'
 |.ret d=>bjs G W g s d
def k7(sc:dc)(n:Nat)(st:Stmt)(F:PS->Option Out):Prop:=
 ∀⦃A env W g s σ out⦄,dy A n->Fr G sc env W g s σ->F σ=some out->wpAny (model prog w) A (exec st env) (ud G sc env W g s out) NoE s
def gh(sc:dc)(n:Nat)(body:List Stmt)(F:PS->Option Out):Prop:=
 ∀⦃A env W g s σ out⦄,dy A n->Fr G sc env W g s σ->F σ=some out->wpAny (model prog w) A (execs body env) (ud G sc env W g s out) NoE s
variable {G}
def ud.from{g:ah}{s:af}{out:Out}{f:Flow}(x:Mv G W g s g' s')(hW:∀a,W' a->W a\/s.heap.get? a=none)(hb:∀a,s'.heap.get? a=none->s.heap.get? a=none\/W a)(y:ud G sc env W' g' s' out f s''):ud G sc env W g s out f s'':=by
 induction out with
 |next σ'=>
  obtain⟨rfl,W2,g₂,m,h,F⟩:=y;refine⟨rfl,W2,g₂,x.trans m hW,fun a ha=>?_,F⟩
  rcases h a ha with h|h
  .exact hW a h
  .exact(hb a h).symm
 |ret d=>
  obtain⟨v,g₂,rfl,m,q⟩:=y;exact⟨v,g₂,rfl,x.trans m hW,q⟩
def Mv.back{g:ah}{s:af}(e:Mv G W g s g' s')(h:s'.heap.get? a=none):s.heap.get? a=none\/W a:=by
 by_cases hw:W a
 .exact .inr hw
 .left;refine noS fun o q=>?_
  refine if hP:a=G.P then ?_ else ?_
  .subst hP;refine i3 e.gok.hasP fun o' _ e' _=>?_;exact ns h e'
  .exact ns h (e.heap a o hP hw q)
noncomputable def ag(F:PS->Option Out)(H:PS->Option Out):PS->Option Out:=fun σ=>(F σ).bind fun|.next σ'=>H σ'|.ret d=>some (.ret d)
def bgk:gh G sc n [] (fun σ=>some (.next σ)):=fun A env W g s σ out R F y=>by
 cases y;exact amd ⟨rfl,W,g,Mv.refl F.eok.sok,fun a h=>.inl h,F⟩
variable{H:PS->Option Out}{rest:List Stmt}
def bg{st:Stmt}{F:PS->Option Out}(h:k7 G sc n st F)(hr:gh G sc n rest H):gh G sc n (st::rest) (ag F H):=fun A env W g s σ out R Fr y=>by
 refine aq y ?_;clear y;intro o ho y;refine atm (wm (h R Fr ho) (fun f s' q=>?_))
 induction o with
 |next σ'=>
  obtain⟨rfl,W',g',m,hW,Fr'⟩:=q;exact wm (hr R Fr' y) (fun f s'' z=>z.from m hW fun a h=>m.back h)
 |ret d=>
  cases y;obtain⟨v,g',rfl,m,q⟩:=q;exact⟨v,g',rfl,m,q⟩
noncomputable def PS.freeze(σ:PS)(x:String):PS:=(σ.own x).elim σ (σ.set x)
theorem Fr.freeze{env:Env}{W:ai->Prop}{g:ah}{s:af}{σ:PS}(F:Fr G sc env W g s σ)(x:String):∃W' g',Mv G W g s g' s/\(∀a,W' a->W a)/\Fr G sc env W' g' s (σ.freeze x):=by
 delta PS.freeze;cases hx:σ.own x with
 |none=>exact⟨W,g,Mv.refl F.eok.sok,fun _ h=>h,F⟩
 |some d=>
  refine kq (F.eok.own x d hx) fun a ha sh ga=>oA (F.ownW x d a hx ha) fun hWa hLa=>oAA (F.priv a hWa) fun _ hB hP=>oEA (ax8 sh ga) fun o ho q=>?_
  have hle:VLe g (bu g a o):=bu.le ga;have S:SOK G (bu g a o) s:=⟨fun b o' e=>vaE e (fun hb e=>hb▸e▸ho) fun _ e=>F.eok.sok.view b o' e,(if_neg (g7 hP)).trans F.eok.sok.gP,F.eok.sok.gok,F.eok.sok.toks,F.eok.sok.lim,F.eok.sok.bare⟩
  have hid:∀b,W b->b≠a->(bu g a o).f b=none:=fun b hb hne=>(if_neg hne).trans (F.priv b hb).1
  have ownne:∀y d' b,y≠x->σ.own y=some d'->cu env s.heap (aj y) (.ref b)->b≠a:=fun y d' b hy e h hb=>hy (F.oapart y x d' d b e hx h (hb.symm▸ha))
  refine⟨fun b=>W b/\b≠a,bu g a o,⟨hle,fun b o' e=>vaE e (fun hb _=>.inr (.inl (hb▸hWa))) fun _ e=>.inl e,fun b o' _ _ e=>e,S.view,S.gP,S.gok,ay _,S.lim,rfl,S.bare,ay _,fun _ _=>rfl⟩,fun b h=>h.1,?_⟩
  exact{
   eok:={F.eok with
    sok:=S
    vars:=fun y d' e=>aya e (fun hy e=>⟨_,hy▸ha,e▸q⟩) fun _ e=>oEA (F.eok.vars y d' e) fun v h1 h2=>⟨v,h1,h2.mono prog w hle⟩
    own:=fun y d' e=>zf e fun hy e=>kq (F.eok.own y d' e) fun b h1 h2 h3=>⟨b,h1,h2.mono hle fun _ x=>x,hid b (F.ownW y d' b e h1).1 (ownne y d' b hy e h1)⟩}
   priv:=fun b hb=>⟨hid b hb.1 hb.2,(F.priv b hb.1).2⟩
   here:=fun b hb=>F.here b hb.1
   loc:=⟨F.loc,g7 hLa⟩
   ns:=F.ns
   ownc:=fun y hy=>oEA (F.ownc y hy) fun c h1 h2=>oA (F.eok.cells y (.inl hy)) fun h3 _=>oEE h3 fun c' v h3=>⟨c,h1,h2,g7 (sh.notCell (dn (h3.1.symm.trans h1)▸h3.2))⟩
   locs:=F.locs
   oapart:=fun y z d1 d2 b e e' h h'=>zf e fun _ e=>zf e' fun _ e'=>F.oapart y z d1 d2 b e e' h h'
   ownW:=fun y d1 b e h=>zf e fun hy e=>⟨⟨(F.ownW y d1 b e h).1,ownne y d1 b hy e h⟩,(F.ownW y d1 b e h).2⟩}
noncomputable def bw(x:String)(F:PS->Option Out):PS->Option Out:=fun σ=>F (σ.freeze x)
variable{body:List Stmt}
def oq(x:String){F:PS->Option Out}(h:gh G sc n body F):gh G sc n body (bw x F):=fun A env W g s σ out R Fr y=>by
 refine zx (Fr.freeze x) fun W' g' m hW Fr'=>?_
 exact wm (h R Fr' y) (fun f s'' z=>z.from m (fun a h=>.inl (hW a h)) fun a h=>.inl h)
noncomputable def ej(f:PS->Option D):PS->Option Out:=fun σ=>(f σ).map .ret
def jx(h:Den G sc n e f):k7 G sc n (.Return (some e) pos) (ej f):=fun A env W g s σ out R F y=>by
 refine b9 y fun d hd e=>e▸?_
 exact wpAny_Return_some (gv (h R F.eok hd) (fun v s₁ g1 e1 q=>⟨v,g1,rfl,e1.mv,q⟩))
noncomputable def ifF(t:PS->Option Bool)(a b:PS->Option Out):PS->Option Out:=fun σ=>(t σ).bind fun x=>if x then a σ else b σ
def j6{orelse:List Stmt}{t:PS->Option Bool}{a b:PS->Option Out}(ht:q6 G sc n e t)(ha:gh G sc n body a)(hb:gh G sc n orelse b):k7 G sc n (.If e body orelse pos) (ifF t a b):=fun A env W g s σ out R F y=>by
 refine aq y ?_;clear y;intro x hx y;refine wpAny_If (gT (ht R F.eok hx) (fun c s₁ e g1 e1=>?_))
 subst e;have F1:=F.keep e1;induction c with
 |true=>
  exact wm (ha R F1 y) (fun f s'' z=>z.from e1.mv (fun a h=>.inl h) fun a h=>.inl (e1.back h))
 |false=>
  exact wm (hb R F1 y) (fun f s'' z=>z.from e1.mv (fun a h=>.inl h) fun a h=>.inl (e1.back h))
noncomputable def b3(x:String)(f:PS->Option D):PS->Option Out:=fun σ=>(f σ).map fun d=>.next (σ.set x d)
def j7(h:Den G sc n e f)(hx:mq sc x)(hs:∀env,swapsWith e (some (.Name (aj x) p)) pos.line env=pure false):k7 G sc n (.Assign [.Name (aj x) p] e pos) (b3 x f):=fun A env W g s σ out R F y=>by
 refine b9 y fun d hd e=>e▸?_
 refine abi (gv (h R F.eok hd) (fun v s₁ g1 e1 q=>?_)) (hs env)
 have F1:=F.keep e1;exact s8 F1 hx fun s' S=>⟨rfl,W,g1,e1.mv.trans S.mv (fun a h=>.inl h),fun a h=>.inl h,S.set F1 q⟩
noncomputable def lz(b:D->PS->Option PS)(body:PS->Option Out):List D->PS->Option Out
 |[],σ=>some (.next σ)
 |d::ds,σ=>(b d σ).bind fun σ'=>(body σ').bind fun|.next σ''=>lz b body ds σ''|.ret d=>some (.ret d)
def a1t{b:D->PS->Option PS}{body:PS->Option Out}{d ds σ:_}:lz b body (d::ds) σ=(b d σ).bind fun σ'=>(body σ').bind fun|.next σ''=>lz b body ds σ''|.ret d=>some (.ret d):=rfl
noncomputable def i8(F:PS->Option (List D))(b:D->PS->Option PS)(body:PS->Option Out):PS->Option Out:=fun σ=>(F σ).bind fun ds=>lz b body ds σ
def xd{iter:al}{F:PS->Option (List D)}{b:D->PS->Option PS}(hi:mu G sc n tgt iter F)(ht:pw G sc tgt b)(hb:gh G sc n body H)(hf:∀env x,foldedSetIterable iter env x=pure x) :
  k7 G sc n (.For tgt iter body [] pos) (i8 F b H):=fun A env W g s σ out R Fr0 y=>by
 refine aq y ?_;clear y;intro ds hds y;refine wpAny_For (wm (hi R Fr0.eok hds) (fun v s₁ ⟨g1,e1,it1⟩=>?_)) (hf env)
 refine wm (it1 R.hh (Ext.refl (e1.sok Fr0.eok.sok))) (fun it s₂ ⟨g₂,wr,St,e2,hwr,hit,hst⟩=>?_)
 have e:=e1.trans e2;have IT:=hit A R.hh;have hnew:∀a∈wr,G.hB.get? a=none/\a≠G.P:=fun a ha=>new_priv Fr0.eok.sok (hwr a ha).1
 have wrC:∀a∈wr,∀x,env.cells.lookup x≠some a:=fun a ha x h=>by
  obtain⟨v,o,ho,_⟩:=Fr0.eok.allc x a h;exact ns ((hwr a ha).1) ho
 refine auj (fun k s'=>∃i W' g' σ',i<=ds.length/\k=ds.length+1 - i/\Fr G sc env W' g' s' σ'/\St i g' s'.heap/\(∀a∈wr,g'.f a=none/\¬W' a)/\Mv G W g s g' s'/\(∀a,W' a->W a\/s.heap.get? a=none) /\
  lz b H (ds.drop i) σ'=some out) ?_ (ds.length+1) ⟨0,W,g₂,σ,g9 _,rfl,Fr0.keep e,hst,fun a ha=>⟨(hwr a ha).2,fun h=>by
   obtain⟨o,ho⟩:=Fr0.here a h;exact ns ((hwr a ha).1) ho⟩,e.mv,fun a h=>.inl h,y⟩
 rintro k s₃ ⟨i,W3,g3,σ3,hil,rfl,F3,st3,hid,m3,hW3,y⟩;have priv:∀a∈wr,g3.f a=none/\G.hB.get? a=none/\a≠G.P:=fun a ha=>⟨(hid a ha).1,hnew a ha⟩
 have keepT:∀{g4:ah} {s4:af},Turn G wr g3 s₃ g4 s4->Fr G sc env W3 g4 s4 σ3:=fun T=>
  F3.keepOf (T.sok F3.eok.sok) T.gle (fun a h=>T.hidden (F3.priv a h).1 (F3.here a h)) fun a o h e=>T.heap a o
   (by
    rcases h with h|⟨x,h⟩
    .exact(F3.priv a h).2.2
    .obtain⟨v,hv⟩:=F3.eok.allc x a h;obtain⟨o',vs,e',d',_⟩:=F3.eok.sok.gok.hasP;exact ajy e' d' hv)
   (fun ha=>by
    rcases h with h|⟨x,h⟩
    .exact(hid a ha).2 h
    .exact wrC a ha x h) e
 have wW:∀a∈wr,W a\/s.heap.get? a=none:=fun a ha=>.inr (hwr a ha).1
 by_cases hlt:i<ds.length
 .rw[lh hlt]at y;refine aq y ?_;clear y;intro σ4 h4 y;refine aq y ?_;clear y;intro o5 h5 y;refine wm' (IT.next i hlt g3 s₃ F3.eok.sok st3 priv) (fun r s4 ⟨v,hv,h⟩=>?_)
  subst hv;refine wm' h (fun _ s5 ⟨g5,T,q,st5⟩=>?_)
  refine wm' (ht R.hh (keepT T) q h4) (fun _ s₆ ⟨m₆,F6⟩=>?_)
  have st6:St (i+1) g5 s₆.heap:=IT.hold _ _ _ _ _ st5 (.refl g5) fun a ha o e=>m₆.heap a o (hnew a ha).2 (hid a ha).2 e
  have m6':=(m3.trans (T.mv (W:=fun a=>a∈wr) fun a h=>h) wW:Mv G W g s g5 s5).trans m₆ hW3
  refine wm' (hb R F6 h5) (fun f s₇ z=>?_)
  induction o5 with
  |next σ7=>
   obtain⟨rfl,W7,g7,m₇,hW7,F7⟩:=z;refine⟨ds.length+1 - (i+1),O.aja hlt,i+1,W7,g7,σ7,hlt,rfl,F7,IT.hold _ _ _ _ _ st6 m₇.gle fun a ha o e=>m₇.heap a o (hnew a ha).2 (hid a ha).2 e,fun a ha=>⟨?_,fun h=>?_⟩,m6'.trans m₇ hW3,fun a h=>?_,y⟩
   .refine noS fun o hq=>?_
    rcases m₇.new a o hq with h1|h1|h1
    .exact ns ((fun a ha=>T.hidden (hid a ha).1 (IT.live _ _ _ st3 a ha):∀a∈wr,g5.f a=none) a ha) h1
    .exact absurd h1 (hid a ha).2
    .obtain⟨o',e⟩:=IT.live _ _ _ st6 a ha;exact ns h1 e
   .rcases hW7 a h with h|h
    .exact(hid a ha).2 h
    .obtain⟨o',e⟩:=IT.live _ _ _ st6 a ha;exact ns h e
   .rcases hW7 a h with h|h
    .exact hW3 a h
    .exact(m6'.back h).symm
  |ret d=>
   cases y;obtain⟨v',g7,rfl,m₇,q'⟩:=z;exact⟨v',g7,rfl,m6'.trans m₇ hW3,q'⟩
 .have hi:i=ds.length:=O.ao1 hil hlt;subst hi;replace y:=ad3.symm▸y;cases y;refine wm' (IT.done g3 s₃ F3.eok.sok st3 priv) (fun r s4 ⟨hr,g4,T⟩=>?_)
  subst hr;refine amd ?_;exact⟨rfl,W3,g4,m3.trans (T.mv (W:=fun a=>a∈wr) fun a h=>h) wW,hW3,keepT T⟩
inductive fc where
 |sh (d:D)
 |ow (d:D)
noncomputable def fc.isOw:fc->Bool
 |.sh _=>false
 |.ow _=>true
noncomputable def PS.put(σ:PS)(x:String):fc->PS
 |.sh d=>σ.set x d
 |.ow d=>σ.setOwn x d
noncomputable def PS.puts(σ:PS):List (String×fc)->PS
 |[]=>σ
 |p::r=>(σ.put p.1 p.2).puts r
noncomputable def fc.var:fc->Option D
 |.sh d=>some d
 |.ow _=>none
noncomputable def fc.own:fc->Option D
 |.sh _=>none
 |.ow d=>some d
def ayr(σ:PS)(x y:String)(i:fc):(σ.put x i).vars y=if y=x then i.var else σ.vars y:=by cases i<;>rfl
def ayu(σ:PS)(x y:String)(i:fc):(σ.put x i).own y=if y=x then i.own else σ.own y:=by cases i<;>rfl
theorem aix{y:String}:∀{l:List (String×fc)} (σ:PS),y∉l.map (·.1)->(σ.puts l).vars y=σ.vars y/\(σ.puts l).own y=σ.own y
 |[],σ,_=>⟨rfl,rfl⟩
 |p::r,σ,h=>by
  simp only[ee,dt,not_or]at h;refine oA (aix (σ.put p.1 p.2) h.2) fun a b=>?_
  refine⟨a.trans ?_,b.trans ?_⟩
  .rw[ayr,if_neg h.1]
  .rw[ayu,if_neg h.1]
theorem aom{y:String}{i:fc}:∀{l:List (String×fc)} (σ:PS),(l.map (·.1)).Nodup->(y,i)∈l->(σ.puts l).vars y=i.var/\(σ.puts l).own y=i.own
 |[],σ,_,h=>by cases h
 |p::r,σ,hn,h=>by
  simp only[ee,wu]at hn;refine iy (dt.mp h) (fun e=>?_) fun h=>?_
  .subst e;refine oA (aix (σ.put y i) hn.1) fun a b=>?_
   refine⟨a.trans ?_,b.trans ?_⟩
   .rw[ayr,if_pos rfl]
   .rw[ayu,if_pos rfl]
  .exact aom (l:=r) (σ.put p.1 p.2) hn.2 h
def a82{l:List (String×fc)}(σ:PS)(hn:(l.map (·.1)).Nodup):(σ.puts l).le (σ.puts l.reverse):=by
 have key:∀y,(σ.puts l).vars y=(σ.puts l.reverse).vars y/\(σ.puts l).own y=(σ.puts l.reverse).own y:=fun y=>by
  refine if h:y∈l.map (·.1)then ?_ else ?_
  .obtain⟨⟨y',i⟩,hm,rfl⟩:=ia.mp h;refine oA (aom σ hn hm) fun a b=>?_
   refine oA (aom σ (by exact ami▸(au0.mpr (hn.imp fun h=>g7 h)):(l.reverse.map (·.1)).Nodup) (ahq.mpr hm)) fun a' b'=>?_
   exact⟨a.trans a'.symm,b.trans b'.symm⟩
  .refine oA (aix σ h) fun a b=>?_
   refine oA (aix (l:=l.reverse) σ (by rw[ami,ahq];exact h)) fun a' b'=>?_
   exact⟨a.trans a'.symm,b.trans b'.symm⟩
 exact⟨fun y d e=>(key y).1▸e,fun y d e=>(key y).2▸e⟩
variable (G)
inductive a4d (g:ah) (s:af) (d:D) (v:ae) (s':af):Prop
 |mk (a:ai) (g':ah) (hv:v=.ref a) (e:Ext G g s g' s') (hn:s.heap.get? a=none) (hg:g'.f a=none) (q:ij prog w g' s'.heap a d)
def ada(sc:dc)(n:Nat)(e:al)(f:PS->Option D):Prop:=
 ∀⦃A env g s σ d⦄,dy A n->ft G sc env g s σ->f σ=some d->wpAny (model prog w) A (eval e env) (a4d G g s d) NoE s
def gF{G:Gl prog w}{A:az}{g:ah}{s:af}{E:ae->af->Prop}{t:Sem ae}(h:wpAny (model prog w) A t (a4d G g s d) E s)(k:∀v s₁ a g1,v=.ref a->Ext G g s g1 s₁->s.heap.get? a=none->g1.f a=none->ij prog w g1 s₁.heap a d->Q v s₁):wpAny (model prog w) A t Q E s:=wm h fun v s₁ h=>h.casesOn (k v s₁)
def aas(g:ah)(s:af)(W:ai->Prop)(v:ae):fc->Prop
 |.sh d=>Rep prog w g v d
 |.ow d=>∃a,v=.ref a/\g.f a=none/\G.hB.get? a=none/\ij prog w g s.heap a d/\¬W a
def agh(l:List (ae×fc)):Prop:=l.Pairwise fun p q=>p.2.isOw=true->q.2.isOw=true->p.1≠q.1
def agk(sc:dc)(n:Nat)(e:al)(f:PS->Option fc):Prop:=
 (∃f',Den G sc n e f'/\f=fun σ=>(f' σ).map .sh)\/(∃f',ada G sc n e f'/\f=fun σ=>(f' σ).map .ow)
variable {G}
def bfq(h:Den G sc n e f):agk G sc n e (fun σ=>(f σ).map .sh):=.inl ⟨f,h,rfl⟩
def bfr(h:ada G sc n e f):agk G sc n e (fun σ=>(f σ).map .ow):=.inr ⟨f,h,rfl⟩
def af0:ada G sc n (.List [] pos) (kD (.list [])):=fun A env g s σ d R X y=>by
 cases y;refine List_ (bo ?_);refine al5 ?_ (g9 _);have e:=Ext.grow (h':=s.heap.push {cls:=.type "list",data:=.seq ([]:List ae).toArray}) (tk:=s.toks) X.sok (fun b o e=>b4 _ e) (ay _)
 exact⟨s.heap.objs.size,g,rfl,e,dq _,gu X.sok (dq _),[],0,dw _ rfl,trivial⟩
def af1:ada G sc n (.Dict [] [] pos) (kD (.dict [])):=fun A env g s σ d R X y=>by
 cases y;refine att ?_;have e:=Ext.grow (h':=s.heap.push {cls:=.type "dict",data:=.dict #[]}) (tk:=s.toks) X.sok (fun b o e=>b4 _ e) (ay _)
 exact⟨s.heap.objs.size,g,rfl,e,dq _,gu X.sok (dq _),_,[],dw _ rfl,ajx,trivial,aj2 X.sok⟩
inductive agj (G:Gl prog w) (sc:dc) (n:Nat):List al->List (PS->Option fc)->Prop
 |nil:agj G sc n [] []
 |cons {e es f fs:_}:gg e=true->agk G sc n e f->agj G sc n es fs->agj G sc n (e::es) (f::fs)
noncomputable def evM:List (PS->Option fc)->PS->Option (List fc)
 |[],_=>some []
 |f::fs,σ=>(f σ).bind fun d=>(evM fs σ).map (d::·)
def aqm{z0}:evM [] z0=some []:=rfl
def aql{f fs σ:_}:evM (f::fs) σ=(f σ).bind fun d=>(evM fs σ).map (d::·):=rfl
theorem a2a:∀{fs:List (PS->Option fc)} {σ:PS} {ds:List fc},evM fs σ=some ds->ds.length=fs.length
 |[],_,_,h=>by cases h;rfl
 |f::fs,σ,ds,h=>by
  refine aq h ?_;clear h;intro d _ h;refine b9 h fun r hr e=>e▸?_
  simp[a2a hr]
def aas.keep{g:ah}{s:af}{v:ae}{i:fc}(q:aas G g s W v i)(hg:VLe g g')(k:∀a d,v=.ref a->ij prog w g s.heap a d->g.f a=none->¬W a->ij prog w g' s'.heap a d/\g'.f a=none/\¬W' a):aas G g' s' W' v i:=by
 induction i with
 |sh d=>exact Rep.mono prog w hg q
 |ow d=>
  refine ae6 q fun a ez1 h1 h2 h3 h4=>?_;clear q;subst ez1
  refine oAA (k a d rfl h3 h1 h4) fun h5 h6 h7=>?_
  exact⟨a,rfl,h6,h2,h5,h7⟩
def ar4(G:Gl prog w)(g:ah)(s₀ s:af)(l:List (ae×fc)):Prop:=∀p∈l,aas G g s (fun a=>s₀.heap.get? a≠none) p.1 p.2
def a7k{fs:List (PS->Option fc)}(h:agj G sc n es fs):∀{A:az} {env:Env} {g:ah} {s:af} {σ:PS} {ds:List fc},dy A n->ft G sc env g s σ->evM fs σ=some ds ->
  wpAny (model prog w) A (spliced (backTo pos (starEach es env))) (fun vs s'=>∃g',Ext G g s g' s'/\vs.length=ds.length/\ar4 G g' s s' (vs.zip ds)/\agh (vs.zip ds)) NoE s:=by
 induction h with
 |nil=>intro A env g s σ ds R X y;cases y;exact bo ⟨g,Ext.refl X.sok,rfl,by simp[ar4],by simp[agh]⟩
 |@cons e es f fs hs h₁ _ ih=>
  intro A env g s σ ds R X y;refine aq y ?_;clear y;intro d hd y;refine b9 y fun r hr e0=>?_;clear y;subst e0
  rw[tc hs];refine ju ?_;have first:wpAny (model prog w) A (eval e env) (fun v s₁=>∃g1,Ext G g s g1 s₁/\aas G g1 s₁ (fun a=>s.heap.get? a≠none) v d) NoE s:=by
   rcases h₁ with⟨f',h₁,rfl⟩|⟨f',h₁,rfl⟩
   .refine b9 hd fun d' hd' e0=>?_;clear hd;subst e0
    exact gv (h₁ R X hd') (fun v s₁ g1 e1 q=>⟨g1,e1,q⟩)
   .refine b9 hd fun d' hd' e0=>?_;clear hd;subst e0
    refine gF (h₁ R X hd') (fun v s₁ a g1 hv e1 ha hg hS=>⟨g1,e1,a,hv,hg,(new_priv X.sok ha).1,hS,fun h=>h ha⟩)
  refine e9 first (fun v s₁ ⟨g1,e1,q1⟩=>wm (ih R (X.mono e1) hr) (fun vs s₂ ⟨g₂,e2,hl,hA,hD⟩=>⟨g₂,e1.trans e2,congrArg _ (by assumption),?_,?_⟩)) fun _ _ f=>f
  .intro p hp;rcases dt.mp hp with rfl|hp
   .refine q1.keep e2.gle fun a d' hv hS hg hW=>⟨hS.mono e2.gle fun o x=>e2.heap a o (hS.ne_P (e1.gok)) x,e2.hidden hg hS.here,hW⟩
   .refine(hA p hp).keep (.refl _) fun a d' hv hS hg hW=>⟨hS,hg,fun h=>h (e1.back (by
     cases q:s₁.heap.get? a with
     |none=>rfl
     |some o=>exact absurd (by rw[q];exact fun h=>by cases h) hW))⟩
  .refine at8.mpr ⟨fun p hp h1 h2=>?_,hD⟩
   induction d with
   |sh d=>cases h1
   |ow d=>
    refine ae6 q1 fun a ez1 _ _ hS _=>?_;clear q1;subst ez1
    have:=hA p hp;cases hp2:p.2 with
    |sh d2=>rw[hp2]at h2;cases h2
    |ow d2=>
     replace this:=hp2.symm▸this;refine ae6 this fun b hb _ _ _ hW=>?_;clear this
     intro e;rw[hb]at e;cases e;refine oE hS.here fun o ho=>?_
     exact hW (by show s₁.heap.get? a≠none;exact ho▸(fun h=>by cases h))
inductive aav (prog:dm) (w:dv) (env:Env):List (ae->Sem Unit)->List String->Prop
 |nil:aav prog w env [] []
 |cons {t ts x xs:_}:(∀(v:ae) (A:az) (Q:Unit->af->Prop) (s:af),wpAny (model prog w) A (storeName env (aj x) v) Q NoE s->wpAny (model prog w) A (t v) Q NoE s)->aav prog w env ts xs->aav prog w env (t::ts) (x::xs)
def bcp{A:az}{g:ah}{ts:List (ae->Sem Unit)}(h:aav prog w env ts xs):∀{W:ai->Prop} {s:af} {σ:PS} {vs:List ae} {ds:List fc},Fr G sc env W g s σ->(∀x∈xs,mq sc x)->vs.length=xs.length->ds.length=xs.length ->
  (∀p∈vs.zip ds,aas G g s W p.1 p.2)->agh (vs.zip ds) ->
  wpAny (model prog w) A (assignInOrder ts vs) (fun _ s'=>∃W',Mv G (fun a=>W a\/∃p∈vs.zip ds,p.2.isOw=true/\p.1=.ref a) g s g s'/\(∀a,W' a->W a\/∃p∈vs.zip ds,p.2.isOw=true/\p.1=.ref a)/\Fr G sc env W' g s' (σ.puts (xs.zip ds))) NoE s:=by
 induction h with
 |nil=>
  intro W s σ vs ds F _ hv hd hA hD;cases vs with
  |nil=>exact bo ⟨W,Mv.refl F.eok.sok,fun a h=>.inl h,F⟩
  |cons=>cases hv
 |@cons t ts x xs ht hr ih=>
  intro W s σ vs ds F hx hv hd hA hD;cases vs with
  |nil=>cases hv
  |cons v vs=>
   cases ds with
   |nil=>cases hd
   |cons d ds=>
    refine ak (jc (ht _ _ _ _ (s8 F (hx x m4) fun s' S=>?_)))
    have hA0:=hA (v,d) m4;refine oA (at8.mp hD) fun hD1 hD2=>?_
    have hv':vs.length=xs.length:=by simpa using hv
    have hd':ds.length=xs.length:=by simpa using hd
    cases d with
    |sh d=>
     refine e9 (ih (S.set F hA0) (fun y hy=>hx y (er _ hy)) hv' hd' (fun p hp=>(hA p (er _ hp)).keep (.refl _) fun a d' _ hS hg hW=>⟨S.shal a d' hS (fun e=>hW (e▸F.loc)),hg,hW⟩) hD2) (fun _ s'' ⟨W',m,hW,F''⟩=>?_) fun _ _ f=>f
     refine⟨W',(S.mv.weak fun a h=>.inl h).trans m fun a h=>.inl (h.imp id fun⟨p,hp,h⟩=>⟨p,er _ hp,h⟩),fun a ha=>?_,F''⟩
     rcases hW a ha with h|⟨p,hp,h⟩
     .exact .inl h
     .exact .inr ⟨p,er _ hp,h⟩
    |ow d=>
     refine ae6 hA0 fun a0 ez1 hg hB hS hW0=>?_;clear hA0;subst ez1
     refine e9 (ih (S.setOwn F hS hW0 hg hB) (fun y hy=>hx y (er _ hy)) hv' hd' (fun p hp=>?_) hD2) (fun _ s'' ⟨W',m,hW,F''⟩=>?_) fun _ _ f=>f
     .have q:=hA p (er _ hp);have hdis:=hD1 p hp;obtain⟨pv,pi⟩:=p;cases pi with
      |sh d2=>exact q
      |ow d2=>
       refine ae6 q fun b hb h1 h2 h3 h4=>?_;clear q
       dsimp only at hb;subst hb;refine⟨b,rfl,h1,h2,S.shal b d2 h3 (fun e=>h4 (e▸F.loc)),fun h=>?_⟩
       refine iy h (fun h=>?_) fun h=>?_
       .exact h4 h
       .subst h;exact hdis rfl rfl rfl
     .refine⟨W',(S.mv.weak fun a h=>.inl h).trans m fun a h=>.inl ?_,fun a ha=>?_,F''⟩
      .rcases h with(h|h)|⟨p,hp,h⟩
       .exact .inl h
       .subst h;exact .inr ⟨_,m4,rfl,rfl⟩
       .exact .inr ⟨p,er _ hp,h⟩
      .rcases hW a ha with h|⟨p,hp,h⟩
       .refine iy h (fun h=>?_) fun h=>?_
        .exact .inl h
        .subst h;exact .inr ⟨_,m4,rfl,rfl⟩
       .exact .inr ⟨p,er _ hp,h⟩
def bh0(h:mr sc es xs):aav prog w env ((assignEach es env).map (·.2)) xs:=by
 induction h with
 |nil=>exact .nil
 |cons hx _ ih=>exact .cons (fun v A Q s q=>aht q) ih
theorem a31{env:Env}:∀(xs:List String),aav prog w env ((xs.map aj).map fun n=>bindName env n) xs
 |[]=>.nil
 |x::xs=>.cons (fun v A Q s q=>wpAny_bindName q) (a31 xs)
def mr.all(h:mr sc es xs):∀x∈xs,mq sc x:=by
 induction h with
 |nil=>intro x hx;cases hx
 |cons hx _ ih=>intro x h;rcases dt.mp h with rfl|h;exact hx;exact ih x h
variable{line:Nat}
def bdu(h:mr sc es xs)(f:al->Option Str)(hf:∀id pos,f (.Name id pos)=if env.kindOf id==some .local && pos.line==line then some id else none) :
  (es.filterMap f).length<=es.length/\((es.filterMap f).length=es.length->es.filterMap f=xs.map aj):=by
 induction h with
 |nil=>exact⟨ay _,fun _=>rfl⟩
 |@cons x xs es pos hx hr ih=>
  refine oA ih fun h1 h2=>?_;clear ih
  rw[amz,hf];refine if hq:(env.kindOf (aj x)==some .local && pos.line==line)=true then ?_ else ?_
  .refine(if_pos hq)▸?_;refine⟨abb (by assumption),fun h=>?_⟩
   simp only[dh,Nat.add_right_cancel_iff]at h;rw[h2 h];rfl
  .refine(if_neg hq)▸?_;refine⟨by simp at h1 |-;exact gm (by assumption),fun h=>?_⟩
   simp at h h1;exact O.ck [_,_] [.le .x0 .x1,.eq .x0 (.a .x1 (.c 1))] (.h _) 101 rfl h1 h
def ajw{α:Sort _}{c:Prop}[Decidable c]{a b x y:α}(h:a=x)(k:¬c->b=x\/b=y):(if c then a else b)=x\/(if c then a else b)=y:=
 if p:c then .inl ((if_pos p).trans h)else(k p).imp (if_neg p).trans (if_neg p).trans
variable{k':Nat}{vp:Pos}
def a6q{ts vs:List al}(h:mr sc ts xs)(hc:vs.all (constantsAlone 8)=false) :
  swappedStores [.Tuple ts k tp] (.Tuple vs k' vp) env=pure none\/swappedStores [.Tuple ts k tp] (.Tuple vs k' vp) env=pure (some (xs.map aj)):=by
 refine ajw rfl fun h1=>ajw rfl fun h2=>ajw rfl fun h3=>ajw rfl fun h4=>?_
 rw[hc];refine .inr ?_;simp only[ahm,bne_iff_ne,ne_eq,not_or,Decidable.not_not]at h3;rw[if_neg (by decide)]
 exact congrArg (fun l=>pure (some l)) ((bdu h _ (fun _ _=>rfl)).2 h3.1)
noncomputable def f7(xs:List String)(fs:List (PS->Option fc)):PS->Option Out:=fun σ=>(evM fs σ).bind fun ds=>if ds.length=xs.length then some (.next (σ.puts (xs.zip ds)))else none
theorem aia{α β:Type}:∀{l:List α} {r:List β},l.length=r.length->(l.zip r).reverse=l.reverse.zip r.reverse
 |[],[],_=>rfl
 |a::l,b::r,h=>by
  simp only[aea,at0];rw[aia (by simpa using h),List.zip_append (by simpa using h)];rfl
 |[],_::_,h=>by simp at h
 |_::_,[],h=>by simp at h
theorem anj{α β:Type}:∀{l:List α} {r:List β},l.length=r.length->(l.zip r).map (·.1)=l
 |[],[],_=>rfl
 |a::l,b::r,h=>by simp only[aea,ee];rw[anj (by simpa using h)]
 |[],_::_,h=>by simp at h
 |_::_,[],h=>by simp at h
def ais{ts:List al}{fs:List (PS->Option fc)}(hn:mr sc ts xs)(hd:xs.Nodup)(h:agj G sc n es fs)(hc:es.all (constantsAlone 8)=false)(hz:fs.length<=1000:=by decide) :
  k7 G sc n (.Assign [.Tuple ts k tp] (.Tuple es k' vp) pos) (f7 xs fs):=fun A env W g s σ out R F y=>by
 refine aq y ?_;clear y;intro ds hds y;split at y
 .rename_i hlen;cases y;have ev:∀{Q:ae->af->Prop},(∀(T:ai) (vs:List ae) (g':ah) (s':af),Ext G g s g' s'->s'.heap.IsTuple T vs.toArray->vs.length=ds.length->ar4 G g' s s' (vs.zip ds)->agh (vs.zip ds)->Q (.ref T) s')->wpAny (model prog w) A (eval (.Tuple es k' vp) env) Q NoE s:=by
   intro Q hQ;refine Tuple_ (wm (a7k h R F.eok hds) (fun vs s₁ ⟨g1,e1,hl,hA,hD⟩=>?_))
   refine al9 ?_ (by exact hl▸(a2a hds)▸(aw hz (by decide)))
   have e2:=Ext.grow (h':=s₁.heap.push {cls:=.type "tuple",data:=.seq vs.toArray}) (tk:=s₁.toks) (e1.sok F.eok.sok) (fun b o e=>b4 _ e) (ay _)
   refine hQ _ vs g1 _ (e1.trans e2) ⟨_,dw _ rfl,rfl,_,rfl⟩ hl (fun p hp=>(hA p hp).keep (.refl _) fun a d' _ hS hg hW=>⟨hS.mono (.refl _) fun o x=>b4 _ x,hg,hW⟩) hD
  have after:∀{ts':List (ae->Sem Unit)} {xs':List String} {T:ai} {vs vs':List ae} {ds':List fc} {g':ah} {s' s'':af},Ext G g s g' s'->Ext G g' s' g' s''->aav prog w env ts' xs'->(∀x∈xs',mq sc x)->vs'.length=xs'.length->ds'.length=xs'.length ->
    (∀p∈vs'.zip ds',aas G g' s'' (fun a=>s.heap.get? a≠none) p.1 p.2)->agh (vs'.zip ds')->(σ.puts (xs.zip ds)).le (σ.puts (xs'.zip ds')) ->
    wpAny (model prog w) A (assignInOrder ts' vs') (fun _ s₃=>ud G sc env W g s (.next (σ.puts (xs.zip ds))) .next s₃) NoE s'':=by
   intro ts' xs' T vs vs' ds' g' s' s'' e e' hacts hw hv hd' hA hD hle;refine wm (bcp hacts (F.keep (e.trans e')) hw hv hd' (fun p hp=>(hA p hp).keep (.refl _) fun a d' _ hS hg hW=>⟨hS,hg,fun h=>?_⟩) hD) (fun _ s₃ ⟨W',m,hW,F3⟩=>⟨rfl,W',g',?_,?_,F3.le hle⟩)
   .obtain⟨o,ho⟩:=F.here a h;exact hW (by show s.heap.get? a≠none;exact ho▸(fun h=>by cases h))
   .refine((e.trans e').mv (W:=W)).trans m fun a ha=>?_
    rcases ha with h|⟨p,hp,h1,h2⟩
    .exact .inl h
    .have q:=hA p hp;obtain⟨pv,pi⟩:=p;induction pi with
     |sh d=>cases h1
     |ow d=>
      obtain⟨b,hb,_,_,_,hW⟩:=q;rw[hb]at h2;cases h2;exact .inr (ams.mp hW)
   .intro a ha;rcases hW a ha with h|⟨p,hp,h1,h2⟩
    .exact .inl h
    .have q:=hA p hp;obtain⟨pv,pi⟩:=p;induction pi with
     |sh d=>cases h1
     |ow d=>
      obtain⟨b,hb,_,_,_,hW⟩:=q;rw[hb]at h2;cases h2;exact .inr (ams.mp hW)
  have grow:∀{g':ah} {s':af} {h':bf},SOK G g' s'->um s'.heap.objs.size s'.heap h'->Ext G g' s' g' {s' with heap:=h'}:=fun X hx=>by
   have:=Ext.grow (h':=_) (tk:=_) X (fun a o e=>hx a o (k8 (il e)) e) (ay _)
   exact this
  rcases a6q (env:=env) (k:=k) (k':=k') (tp:=tp) (vp:=vp) hn hc with hw|hw
  .refine alw (ev fun T vs g' s' e hT hl hA hD=>?_) rfl hw
   refine amu R.hh hT (by rw[hn.len,<-hlen,<-hl];exact l7) hn.star fun h' hx=>?_
   have e':=grow (e.sok F.eok.sok) hx;exact after (T:=T) (vs:=vs) e e' (bh0 hn) hn.all (by rw[hl,hlen]) hlen (fun p hp=>(hA p hp).keep (.refl _) fun a d' _ hS hg hW=>⟨hS.mono (.refl _) fun o x=>e'.heap a o (hS.ne_P e.gok) x,hg,hW⟩) hD (.refl _)
  .refine Assign_Tuple_swapped (ev fun T vs g' s' e hT hl hA hD=>?_) rfl hw
   rw[show(xs.map aj).length=vs.toArray.size from by simp[hl,hlen]]
   refine wpAny_unpackItems_tuple R.hh hT fun h' hx=>?_
   have e':=grow (e.sok F.eok.sok) hx;refine ami▸List.toList_toArray.symm▸?_;have hlv:vs.length=ds.length:=hl;refine after (T:=T) (vs:=vs) (xs':=xs.reverse) (ds':=ds.reverse) e e' (a31 _) (fun x hx=>hn.all x (ahq.mp hx)) (by simp[hl,hlen]) (by simp[hlen]) (fun p hp=>?_) ?_ ?_
   .replace hp:=(aia hlv)▸hp;exact(hA p (ahq.mp hp)).keep (.refl _) fun a d' _ hS hg hW=>⟨hS.mono (.refl _) fun o x=>e'.heap a o (hS.ne_P e.gok) x,hg,hW⟩
   .exact(aia hlv).symm▸(au0.mpr (hD.imp fun h h1 h2=>g7 (h h2 h1)))
   .refine(aia hlen.symm).symm▸?_;exact a82 σ (by exact(anj hlen.symm).symm▸(hd))
 .cases y
noncomputable def c7(x:String)(f:PS->Option D):PS->Option Out:=fun σ=>(f σ).map fun d=>.next (σ.setOwn x d)
def aet(h:ada G sc n e f)(hx:mq sc x)(hs:∀env,swapsWith e (some (.Name (aj x) p)) pos.line env=pure false):k7 G sc n (.Assign [.Name (aj x) p] e pos) (c7 x f):=fun A env W g s σ out R F y=>by
 refine b9 y fun d hd e=>e▸?_
 refine abi (gF (h R F.eok hd) (fun v s₁ a g1 hv e1 ha hg hS=>?_)) (hs env)
 subst hv;have F1:=F.keep e1;have hW:¬W a:=fun h=>by obtain⟨o,ho⟩:=F.here a h;exact ns ha ho
 refine s8 F1 hx fun s' S=>⟨rfl,W1 W a,g1,e1.mv.trans S.mv (fun a h=>.inl h),fun b h=>by
  rcases h with h|h
  .exact .inl h
  .exact .inr (h▸ha),S.setOwn F1 hS hW hg (new_priv F.eok.sok ha).1⟩
def a28{A:az}{g:ah}{s:af}(F:Fr G sc env W g s σ)(hx:mq sc x) :
  agm G g s d (fun acc C r s'=>compPost (model prog w) A NoE (some (assign (.Name (aj x) p) env)) (fun _ s'=>ud G sc env W g s (.next (σ.setOwn x d)) .next s') acc C r s'):=by
 intro Dd C g' s' e hD hC hne gD gC sh ⟨m,hm⟩;have F':=F.keep e;have hW:∀a,s.heap.get? a=none->¬W a:=fun a ha h=>by obtain⟨o,ho⟩:=F.here a h;exact ns ha ho
 refine aht (s8 F' hx fun s'' S=>?_)
 have F'':=S.setOwn F' sh (hW _ hD) gD (new_priv F.eok.sok hD).1;have hCl:C≠env.locals:=fun h=>hW _ hC (h▸F.loc)
 obtain⟨oC,es,ep,eC,dC,_⟩:=id hm;refine⟨m,?_,fun h' hs=>?_⟩
 .refine hm.at' fun o e=>S.mv.heap C o ((new_priv F.eok.sok hC).2:C≠G.P) (hW _ hC) e
 .have hW1:∀a,W1 W Dd a->a≠C:=fun a ha h=>by
   subst h;rcases ha with h|h
   .exact hW _ hC h
   .exact hne h.symm
  have y:Mv G (fun a=>a=C) g' s'' g' {s'' with heap:=h'}:=Mv.buts (tk:=s''.toks) F''.eok.sok (fun a h=>h▸⟨gC,new_priv F.eok.sok hC⟩) (fun c o hc e=>hs.extBut c o hc e) (ay _)
  refine⟨rfl,W1 W Dd,g',?_,fun a h=>by
   rcases h with h|h
   .exact .inl h
   .exact .inr (h▸hD),?_⟩
  .exact(e.mv.trans S.mv fun a h=>.inl h).trans y fun a h=>.inr (h▸hC)
  .refine F''.keepOf (y.sok F''.eok.sok) (.refl _) (fun a h=>(F''.priv a h).1) fun a o h e=>hs.extBut a o ?_ e
   rcases h with h|⟨z,h⟩
   .exact hW1 a h
   .rintro rfl;obtain⟨v,o',ho',_⟩:=F.eok.allc z a h;exact ns hC ho'
variable{cp:Pos}{gs:List Comprehension}
def a6m{x:Str}(hk:env.scope.kind=.function)(hl:env.kindOf x=some .local)
  (hp:(p.line==cp.line)=true) (hn:(scope.names.any fun(n,k)=>n==x && (k==.local ||k==.cell))=false):swapsWith (.ListComp elt gs scope cp) (some (.Name x p)) line env=pure true:=by
 show(pure (env.blockKind==.function && env.kindOf x==some .local && p.line==cp.line && !(scope.names.any fun(n,k)=>n==x && (k==.local ||k==.cell))):Sem Bool)=pure true
 rw[hn,hp,hl];simp only[asr,hk];rfl
def a6n{x:Str}(hk:env.scope.kind=.function)(hl:env.kindOf x=some .local)
  (hp:(p.line==cp.line)=true) (hn:(scope.names.any fun(n,k)=>n==x && (k==.local ||k==.cell))=false):swapsWith (.DictComp kx vx gs scope cp) (some (.Name x p)) line env=pure true:=by
 show(pure (env.blockKind==.function && env.kindOf x==some .local && p.line==cp.line && !(scope.names.any fun(n,k)=>n==x && (k==.local ||k==.cell))):Sem Bool)=pure true
 rw[hn,hp,hl];simp only[asr,hk];rfl
def an9{cpos:Pos}{iter:al}{F:PS->Option (List D)}{b:D->PS->Option PS}
  (hi:mu G sc n tgt iter F) (I:sd sc scope fs) (ht:pw G scope tgt b) (hb:v8 fs b) (hts:se G scope n ifs ts) (he:Den G scope n elt f) (hf:∀env x,foldedSetIterable iter env x=pure x)
  (hx:sc.names.lookup (aj x)=some .local) (hp:(p.line==cpos.line)=true) (hn:(scope.names.any fun(n,k)=>n==aj x && (k==.local ||k==.cell))=false) :
  k7 G sc n (.Assign [.Name (aj x) p] (.ListComp elt [⟨tgt,iter,ifs,0⟩] scope cpos) pos) (c7 x (a7 fs F b ts f)):=fun A env W g s σ out R Fr0 y=>by
 refine b9 y fun d hd e=>e▸?_
 refine aq hd ?_;clear hd;intro ds hds hd;split at hd
 .rename_i hsz;refine b9 hd fun ys hys e=>e▸?_
  rw[auz _ _ _ _ (a6m Fr0.eok.kind (Fr0.locs _ hx) hp hn)];refine ak (ox (ak ?_));exact ak (e9 (a25 hi I ht hb hts he (hf env) R Fr0.eok hds hsz hys (a28 Fr0 (.inl hx))) (fun _ s' hq=>bo (bo hq)) fun _ _ e=>e)
 .exact nomatch hd
def aiu{cpos:Pos}{iter:al}{F:PS->Option (List D)}{b:D->PS->Option PS}
  (hi:mu G sc n tgt iter F) (I:sd sc scope fs) (ht:pw G scope tgt b) (hb:v8 fs b) (hts:se G scope n ifs ts) (hk:Den G scope n kx fk) (hv:Den G scope n vx fv) (hf:∀env x,foldedSetIterable iter env x=pure x)
  (hx:sc.names.lookup (aj x)=some .local) (hp:(p.line==cpos.line)=true) (hn:(scope.names.any fun(n,k)=>n==aj x && (k==.local ||k==.cell))=false) :
  k7 G sc n (.Assign [.Name (aj x) p] (.DictComp kx vx [⟨tgt,iter,ifs,0⟩] scope cpos) pos) (c7 x (i4 fs F b ts fk fv)):=fun A env W g s σ out R Fr0 y=>by
 refine b9 y fun d hd e=>e▸?_
 refine aq hd ?_;clear hd;intro ds hds hd;split at hd
 .rename_i hsz;refine b9 hd fun ys hys e=>e▸?_
  rw[auz _ _ _ _ (a6n Fr0.eok.kind (Fr0.locs _ hx) hp hn)];refine ak (ox (ak ?_));exact ak (e9 (a26 hi I ht hb hts hk hv (hf env) R Fr0.eok hds hsz hys (a28 Fr0 (.inl hx))) (fun _ s' hq=>bo (bo hq)) fun _ _ e=>e)
 .exact nomatch hd
def a6o{v:al}{x:Str}(hl:env.kindOf x=some .cell):swapsWith v (some (.Name x p)) line env=pure false:=by
 delta swapsWith;split
 .simp only[hl];rw[show((some wo==some NameKind.local)=false)from rfl];simp
 .rfl
def ayh(h:Den G sc n e f)(hx:sc.names.lookup (aj x)=some .cell):k7 G sc n (.Assign [.Name (aj x) p] e pos) (b3 x f):=fun A env W g s σ out R F y=>by
 refine b9 y fun d hd e=>e▸?_
 refine abi (gv (h R F.eok hd) (fun v s₁ g1 e1 q=>?_)) (a6o (F.eok.cells _ (.inl hx)).2)
 have F1:=F.keep e1;exact s8 F1 (.inr hx) fun s' S=>⟨rfl,W,g1,e1.mv.trans S.mv (fun a h=>.inl h),fun a h=>.inl h,S.set F1 q⟩
noncomputable def r8(b:D->PS->Option PS)(f:PS->Option D):PS->Option Out:=fun σ=>(f σ).bind fun d=>(b d σ).map .next
def ait{ts:List al}(h:Den G sc n e f)(hn:mr sc ts xs)(hs:∀env,swapsWithSole [.Tuple ts k tp] e pos.line env=pure false)(hw:∀env,swappedStores [.Tuple ts k tp] e env=pure none) :
  k7 G sc n (.Assign [.Tuple ts k tp] e pos) (r8 (cz xs) f):=fun A env W g s σ out R F y=>by
 refine aq y ?_;clear y;intro d hd y;refine b9 y fun σ' h' e=>e▸?_
 refine alw (gv (h R F.eok hd) (fun v s₁ g1 e1 q=>?_)) (hs env) (hw env)
 exact wm (qr hn R.hh (F.keep e1) q h') (fun _ s₂ ⟨m,F2⟩=>⟨rfl,W,g1,e1.mv.trans m fun a h=>.inl h,fun a h=>.inl h,F2⟩)
def Fr.mut{g:ah}{s:af}{tk:Nat}(F:Fr G sc env W g s σ)(hx:σ.own x=some d)(ha:cu env s.heap (aj x) (.ref a))(hs:pe a s.heap h')(ht:s.toks<=tk)(q:ij prog w g h' a d') :
  Mv G W g s g {s with heap:=h',toks:=tk}/\Fr G sc env W g {s with heap:=h',toks:=tk} (σ.setOwn x d'):=by
 refine oA (F.ownW x d a hx ha) fun hWa hLa=>kq (F.eok.own x d hx) fun b hb sh gb=>?_
 cases cu.uniq hb ha;have m:Mv G W g s g {s with heap:=h',toks:=tk}:=Mv.buts F.eok.sok F.priv (fun c o hc e=>hs.extBut c o (fun h=>hc (h▸hWa)) e) ht
 have k:∀c o,(c=env.locals\/∃z,env.cells.lookup z=some c)->s.heap.get? c=some o->h'.get? c=some o:=fun c o h e=>hs.extBut c o (fun hc=>h.elim (fun h=>hLa (hc▸h)) fun⟨z,h⟩=>oE (F.eok.allc z _ h) fun v hv=>sh.notCell hv hc.symm) e
 have ks:∀{z v},cu env s.heap z v->cu env h' z v:=fun h=>h.keep (fun o e=>k _ o (.inl rfl) e) fun c o hl e=>k c o (.inr ⟨_,hl⟩) e
 have ownne:∀y d₁ b,¬y=x->σ.own y=some d₁->cu env s.heap (aj y) (.ref b)->b≠a:=fun y d₁ b hy e h hb=>hy (F.oapart y x d₁ d b e hx h (hb.symm▸ha))
 have down:∀{y d₁ c},(σ.setOwn x d').own y=some d₁->cu env h' (aj y) (.ref c)->∃d₂,σ.own y=some d₂/\cu env s.heap (aj y) (.ref c):=fun e h=>
  have:∃d₂,σ.own _=some d₂:=zt e (fun hy _=>⟨d,hy▸hx⟩) fun _ e=>⟨_,e⟩
  oE this fun d₂ e=>⟨d₂,e,F.eok.down e (fun u=>ks) h⟩
 exact⟨m,{
  eok:={F.eok with
   sok:=m.sok F.eok.sok
   cells:=fun z hz=>let⟨⟨c,v,hl,o,ho,hd⟩,hk⟩:=F.eok.cells z hz;⟨⟨c,v,hl,o,k c o (.inr ⟨_,hl⟩) ho,hd⟩,hk⟩
   allc:=fun z c h=>let⟨v,o,ho,hd⟩:=F.eok.allc z c h;⟨v,o,k c o (.inr ⟨z,h⟩) ho,hd⟩
   vars:=fun y d₁ e=>a9r e fun _ e=>oEA (F.eok.vars y d₁ e) fun v h1 h2=>⟨v,ks h1,h2⟩
   own:=fun y d₁ e=>zt e (fun hy e=>⟨a,hy▸ks ha,e▸q,gb⟩) fun hy e=>kq (F.eok.own y d₁ e) fun b h1 h2 h3=>⟨b,ks h1,h2.mono (.refl g) fun o x=>hs.extBut b o (ownne y d₁ b hy e h1) x,h3⟩}
  priv:=F.priv
  here:=fun c hc=>if h:c=a then h▸q.here else oE (F.here c hc) fun o e=>⟨o,hs.extBut c o h e⟩
  loc:=F.loc
  ns:=let⟨m',hn⟩:=F.ns;⟨m',hn.at' fun o e=>k _ o (.inl rfl) e⟩
  ownc:=F.ownc
  locs:=F.locs
  oapart:=fun y z d1 d2 c e e' h h'=>oEA (down e h) fun p hp h1=>oEA (down e' h') fun r hr h2=>F.oapart y z p r c hp hr h1 h2
  ownW:=fun y d1 c e h=>oEA (down e h) fun p hp h1=>F.ownW y p c hp h1}⟩
def ae0{A:az}{g:ah}{s:af}(F:Fr G sc env W g s σ)(hx:σ.own x=some d)(hd:(aj x==("__debug__" : Str))=false)(hn:(aj x==("__classdict__" : Str))=false)
  (q:∀a,cu env s.heap (aj x) (.ref a)->ij prog w g s.heap a d->Q (.ref a) s):wpAny (model prog w) A (eval (.Name (aj x) p) env) Q NoE s:=by
 refine kq (F.eok.own x d hx) fun a h1 h2 _=>?_
 exact afc F.eok.kind h1 (q a h1 h2) hd hn
def an3{A:az}{g:ah}{s:af}{k:Str}{t:Tok}{v:ae}(F:Fr G sc env W g s σ)(hx:σ.own x=some (.dict kvs))(ha:cu env s.heap (aj x) (.ref a))(q:Rep prog w g v d)(hz:kvs.length<=sizeLine) :
  wpAny (model prog w) A (setItem (.ref a) (.str k t) v) (fun _ s'=>Mv G W g s g s'/\Fr G sc env W g s' (σ.setOwn x (.dict (fx kvs k d)))) NoE s:=by
 refine kq (F.eok.own x _ hx) fun b hb sh _=>?_
 have e:=cu.uniq hb ha;cases e;refine xi sh fun o vs eo hd r hsys=>?_;clear sh
 refine wpAny_setItem_pairs (knd:=strKind prog w) (k:=k) (aa2 _ _ _ _) (ux.mpr ⟨o,eo,hd⟩) (fun h' hd' hs=>?_) (by exact(sz r)▸(hz))
 refine oEA (ux.mp hd') fun o' eo' hd'=>?_
 refine oEA (a2q (k:=k) r q) fun vs' hzip r'=>?_
 exact F.mut hx ha hs (fm _) ⟨o',vs',eo',by rw[hzip];exact hd',r',hsys⟩
noncomputable def jj(x:String)(fi:PS->Option D)(f:PS->Option D):PS->Option Out:=fun σ=>(f σ).bind fun d=>(fi σ).bind fun kd=>(b7 kd).bind fun k=>((σ.own x).bind mn).bind fun kvs=>
 if kvs.length<=sizeLine then some (.next (σ.setOwn x (.dict (fx kvs k d))))else none
def ai5(h:(σ.own x).bind mn=some kvs):σ.own x=some (.dict kvs):=
 aq h fun _ hd h=>af8 h▸hd
variable{fi:PS->Option D}{i:al}
def xc(h:Den G sc n e f)(hi:Den G sc n i fi)(hs:∀env,swapsWith e (some (.Subscript (.Name (aj x) np) i p)) pos.line env=pure false)
  (ok:okN x=true:=by exact rfl):k7 G sc n (.Assign [.Subscript (.Name (aj x) np) i p] e pos) (jj x fi f):=fun A env W g s σ out R F y=>by
 refine aq y ?_;clear y;intro d hd' y;refine aq y ?_;clear y;intro kd hk y;refine aq y ?_;clear y;intro k hk' y;refine aq y ?_;clear y;intro kvs hkvs y;have hx:=ai5 hkvs;split at y
 .rename_i hz;cases y;refine wpAny_Assign_Subscript (gv (h R F.eok hd') (fun v s₁ g1 e1 q=>?_)) (hs env)
  have F1:=F.keep e1;refine ae0 F1 hx (okd ok) (okc ok) fun a ha sh=>?_
  refine gv (hi R F1.eok hk) (fun kv s₂ g₂ e2 qk=>?_)
  refine oE (gr qk hk') fun t ez1=>?_;subst ez1
  refine wm (an3 (F1.keep e2) hx (cu.ext F1.eok.sok e2 ha) (q.mono prog w e2.gle) hz) (fun _ s₃ ⟨m,F3⟩=>?_)
  exact⟨rfl,W,g₂,(e1.trans e2).mv.trans m fun a h=>.inl h,fun a h=>.inl h,F3⟩
 .exact ns rfl y
noncomputable def jo(a b:D):Option D:=(i6 a).elim ((b7 a).bind fun x=>ak3 x b) fun a=>(i6 b).map fun b=>.int (a+b)
noncomputable def acj:=acm fun a b=>some (a - b)
def ak6(G:Gl prog w)(n:Nat)(op:Operator)(F:D->D->Option D):Prop:=
 ∀⦃A g s v1 v2 d1 d2 d⦄,dy A n->SOK G g s->Rep prog w g v1 d1->Rep prog w g v2 d2->F d1 d2=some d->wpAny (model prog w) A (inplaceOp op v1 v2) (bj G g s d) NoE s
def ack:ak6 G n .Add jo:=fun A g s v1 v2 d1 d2 d R x q1 q2 y=>
 oel y (fun _ y=>aq y fun z hz y=>aq y fun z' hz' y=>ifS y fun hl e=>oE (gr q1 hz) fun t e1=>oE (gr q2 hz') fun u e2=>e▸e1▸e2▸qq (SB.iadd (fun t' k ht=>bj.tok x ve ht) hl))
  fun a ha y=>b9 y fun b hb e=>by
   replace ha:=i5 ha;replace hb:=i5 hb;subst e ha hb;exact oE q1 fun t e=>oE q2 fun u e'=>e▸e'▸P.iadd_int (bj.tok x ⟨_,rfl⟩)
def bck:ak6 G n .Sub acj:=fun A g s v1 v2 d1 d2 d R x q1 q2 y=>by
 refine aq y fun a ha y=>aq y fun b hb y=>b9 y fun c hc e=>?_
 cases hc;replace ha:=i5 ha;replace hb:=i5 hb;subst e ha hb;exact oE q1 fun t e=>oE q2 fun u e'=>e▸e'▸P.isub_int (bj.tok x ⟨_,rfl⟩)
noncomputable def r9(x:String)(op:D->D->Option D)(f:PS->Option D):PS->Option Out:=fun σ=>(σ.vars x).bind fun a=>(f σ).bind fun b=>(op a b).map fun d=>.next (σ.set x d)
variable{op:Operator}
def an8{H:D->D->Option D}(hop:ak6 G n op H)(h:Den G sc n e f)(hx:mq sc x)(hn:(aj x==("__classdict__" : Str))=false:=by decide):k7 G sc n (.AugAssign (.Name (aj x) np) op e pos) (r9 x H f):=fun A env W g s σ out R F y=>by
 refine aq y ?_;clear y;intro a ha y;refine aq y ?_;clear y;intro b hb y;refine oEA (ave.mp y) fun d hd ez2=>?_;subst ez2
 refine oEA (F.eok.vars x a ha) fun v hv q=>?_
 refine wpAny_AugAssign_Name ?_;have main:wpAny (model prog w) A (eval e env) (fun v2 s₂=>wpAny (model prog w) A (inplaceOp op v v2) (fun r s₃=>wpAny (model prog w) A (storeName env (aj x) r) (fun _=>ud G sc env W g s (.next (σ.set x d)) .next) NoE s₃) NoE s₂) NoE s:=by
  refine gv (h R F.eok hb) (fun v2 s₂ g₂ e2 q2=>?_)
  refine gv (hop R (e2.sok F.eok.sok) (q.mono prog w e2.gle) q2 hd) (fun r s₃ g3 e3 q3=>?_)
  have e:=e2.trans e3;have F3:=F.keep e;exact s8 F3 hx fun s' S=>⟨rfl,W,g3,e.mv.trans S.mv (fun a h=>.inl h),fun a h=>.inl h,S.set F3 q3⟩
 rcases hv with⟨hl,m,hns,hm⟩|⟨hl|hl,c,hc,hcv⟩
 .exact ah3 F.eok.kind hl hns hm main
 .exact auo F.eok.kind hl hc hcv main
 .exact aun F.eok.kind hl hc hcv main hn
noncomputable def m6(x:String)(op:D->D->Option D)(fi f:PS->Option D):PS->Option Out:=fun σ=>((σ.own x).bind mn).bind fun kvs=>(fi σ).bind fun kd=>(b7 kd).bind fun k=>(jq kvs k).bind fun a=>(f σ).bind fun b=>(op a b).bind fun d=>
 if kvs.length<=sizeLine then some (.next (σ.setOwn x (.dict (fx kvs k d))))else none
def air{H:D->D->Option D}(hop:ak6 G n op H)(hi:Den G sc n i fi)(h:Den G sc n e f)
  (hst:∀ov iv new,augStore i ov iv new=(do holding [new,ov,iv] (setItem ov iv new);release [new,ov,iv] [];pure .next))
  (ok:okN x=true:=by exact rfl):k7 G sc n (.AugAssign (.Subscript (.Name (aj x) np) i p) op e pos) (m6 x H fi f):=fun A env W g s σ out R F y=>by
 refine aq y ?_;clear y;intro kvs hkvs y;refine aq y ?_;clear y;intro kd hk y;refine aq y ?_;clear y;intro k hk' y;refine aq y ?_;clear y;intro a hla y;refine aq y ?_;clear y;intro b hb y;refine aq y ?_;clear y;intro d hop' y;have hx:=ai5 hkvs;split at y
 .rename_i hz;cases y;refine wpAny_AugAssign_SubscriptAny ?_ hst;refine ae0 F hx (okd ok) (okc ok) fun o ho sh=>?_
  refine gv (hi R F.eok hk) (fun kv s₂ g₂ e2 qk=>?_)
  have F2:=F.keep e2;refine oE (gr qk hk') fun t ez1=>?_;subst ez1
  have ho2:=cu.ext F.eok.sok e2 ho;refine kq (F2.eok.own x _ hx) fun o' h1 h2 h3=>?_
  have e:=cu.uniq h1 ho2;cases e;have get:=(a1q (A:=A) (k:=.str k) F2.eok.sok (.inr ⟨o,rfl,h2,h3⟩) (show Rep prog w g₂ (.str k t) (.str k)from⟨t,rfl⟩) (r:=a) hla fun l j hl=>hl.elim nofun nofun).2
  refine gv get (fun old s₃ g3 e3 q3=>?_)
  have F3:=F2.keep e3;refine gv (h R F3.eok hb) (fun v s4 g4 e4 q₄=>?_)
  have F4:=F3.keep e4;refine gv (hop R F4.eok.sok (q3.mono prog w e4.gle) q₄ hop') (fun r s5 g5 e5 q₅=>?_)
  have e35:=(e3.trans e4).trans e5;refine wm (an3 (F4.keep e5) hx (cu.ext F2.eok.sok e35 ho2) q₅ hz) (fun _ s₆ ⟨m,F6⟩=>?_)
  exact⟨rfl,W,g5,(e2.trans e35).mv.trans m fun a h=>.inl h,fun a h=>.inl h,F6⟩
 .exact ns rfl y
noncomputable def jr(x:String)(f:PS->Option D):PS->Option Out:=fun σ=>(f σ).bind fun d=>((σ.own x).bind jg).bind fun l=>if l.length<sizeLine then some (.next (σ.setOwn x (.list (l++[d]))))else none
def azc(h:(σ.own x).bind jg=some l):σ.own x=some (.list l):=
 aq h fun _ hd h=>ua h▸hd
def ab1{ap:Pos}(h:Den G sc n e f)(hs:gg e=true)(hbase:∀env,attributeBase (.Name (aj x) np) "append" env (eval (.Name (aj x) np) env)=eval (.Name (aj x) np) env)(hline:(ap.endLine==p.line)=true)
  (hint:∀env:Env,env.scope.kind=.function->interactive env=false)
  (ok:okN x=true:=by exact rfl) :
  k7 G sc n (.Expr (.Call (.Attribute (.Name (aj x) np) "append" ap) [e] [] p) pos) (jr x f):=fun A env W g s σ out R F y=>by
 refine aq y ?_;clear y;intro d hd' y;refine aq y ?_;clear y;intro l hl y;have hx:=azc hl;split at y
 .rename_i hz;cases y;refine wpAny_Expr_any ?_ (hint env F.eok.kind) rfl;refine yu (hbase env) (by rw[ab7 hs];rfl) hline (ae0 F hx (okd ok) (okc ok) fun a ha sh=>?_)
  refine i3 sh fun vs m ea r=>?_;clear sh
  refine⟨"list", "list.append",am8,PySem.F.slot_list_append,PySem.F.type_list_append,⟨_,ea,rfl⟩,(fun b hb=>by cases hb;exact⟨_,ea,rfl⟩),?_⟩
  rw[ab7 hs];refine ug rfl (qf (ju (gv (h R F.eok hd') (fun v s₁ g1 e1 q=>q9 ?_))))
  have F1:=F.keep e1;have ha1:=cu.ext F.eok.sok e1 ha;obtain⟨b,h1,⟨ws,m',eb,r'⟩,_⟩:=F1.eok.own x _ hx;have e:=cu.uniq h1 ha1;cases e;refine avn (items:=ws.toArray) ⟨m',eb⟩ (fun h' ⟨m'',hp⟩ hss=>?_) (by exact ko▸r'.length▸(sx (by assumption)))
  refine oA (F1.mut (tk:=s₁.toks) (d':=.list (l++[d])) hx ha1 hss (ay _) ⟨ws++[v],m'',by rw[hp];simp[c8],r'.snoc q⟩) fun mv F2=>?_
  exact⟨rfl,W,g1,e1.mv.trans mv fun a h=>.inl h,fun a h=>.inl h,F2⟩
 .exact ns rfl y
noncomputable def acq(x:String)(f:PS->Option D):PS->Option Out:=fun σ=>((f σ).bind jg).bind fun k=>((σ.own x).bind jg).bind fun l=>if l.length+k.length<=sizeLine then some (.next (σ.setOwn x (.list (l++k))))else none
def a75{ap:Pos}(h:Den G sc n e f)(hs:gg e=true)(hbase:∀env,attributeBase (.Name (aj x) np) "extend" env (eval (.Name (aj x) np) env)=eval (.Name (aj x) np) env)(hline:(ap.endLine==p.line)=true)
  (hint:∀env:Env,env.scope.kind=.function->interactive env=false)
  (ok:okN x=true:=by exact rfl) :
  k7 G sc n (.Expr (.Call (.Attribute (.Name (aj x) np) "extend" ap) [e] [] p) pos) (acq x f):=fun A env W g s σ out R F y=>by
 refine aq y ?_;clear y;intro k hk y;refine aq hk ?_;clear hk;intro d hd' hk;refine aq y ?_;clear y;intro l hl y;have hx:=azc hl;split at y
 .rename_i hz;cases y;refine wpAny_Expr_any ?_ (hint env F.eok.kind) rfl;refine yu (hbase env) (by rw[ab7 hs];rfl) hline (ae0 F hx (okd ok) (okc ok) fun a ha sh=>?_)
  refine i3 sh fun vs m ea r=>?_;clear sh
  refine⟨"list", "list.extend",am8,avt,PySem.F.type_list_extend,⟨_,ea,rfl⟩,(fun b hb=>by cases hb;exact⟨_,ea,rfl⟩),?_⟩
  rw[ab7 hs];refine ug rfl (qf (ju (gv (h R F.eok hd') (fun v s₁ g1 e1 q=>q9 ?_))))
  have F1:=F.keep e1;have ha1:=cu.ext F.eok.sok e1 ha;obtain⟨b,h1,⟨ws,m',eb,r'⟩,gb⟩:=F1.eok.own x _ hx;have e:=cu.uniq h1 ha1;cases e;obtain@⟨c,us,m2,ec,r2⟩:=aeu q hk;have hlen:ws.toArray.size+us.toArray.size<=sizeLine:=by exact ko.symm▸ko.symm▸r'.length.symm▸r2.length.symm▸hz
  refine ri avt ⟨_,eb,rfl⟩ PySem.F.entry_list_extend (PySem.F.args_list_extend_2 _ _) (AutoSeq1.list_extend_list_list_0 a ws.toArray m' c us.toArray m2 (extend_door hlen) (O.o0 hlen) (by exact gm (by assumption))) ⟨eb,(F1.eok.sok.view _ _ ec),?_⟩
  have ho':∃m3,(s₁.heap.update a (adm fun x=>x++us.toArray)).get? a=some (c8 "list" (ws++us) m3):=by
   refine⟨if(ws.toArray++us.toArray).size==ws.toArray.size then m' else m'+1,?_⟩
   have:adm (fun x=>x++us.toArray) (c8 "list" ws m')=c8 "list" (ws++us) (if(ws.toArray++us.toArray).size==ws.toArray.size then m' else m'+1):=by
    simp[adm,c8]
   rw[ah5 _ eb (by rw[this];rfl),this]
  refine oE ho' ?_;clear ho';intro m3 ho';refine oA (F1.mut (tk:=s₁.toks) (d':=.list (l++k)) hx ha1 (aee ..) (ay _) ⟨ws++us,m3,ho',r'.append r2⟩) fun mv F2=>?_
  exact⟨rfl,W,g1,e1.mv.trans mv fun a h=>.inl h,fun a h=>.inl h,F2⟩
 .exact ns rfl y
theorem a3f{k:Str->Option NameKind}{n:Str}:∀{l:List (Str×ae)} (m:Str->Option ae),n∉l.map (·.1)->aa5 k l m n=m n
 |[],m,_=>rfl
 |(x,v)::r,m,h=>by
  simp only[ee,dt,not_or]at h;dsimp only[aa5];rw[a3f _ h.2];split
  .dsimp only;rw[if_neg h.1]
  .rfl
theorem a3g{k:Str->Option NameKind}{n:Str}{v:ae}(hk:k n=some .local):∀{l:List (Str×ae)} (m:Str->Option ae),(l.map (·.1)).Nodup->(n,v)∈l->aa5 k l m n=some v
 |[],m,_,h=>by cases h
 |(x,u)::r,m,hn,h=>by
  simp only[ee,wu]at hn;dsimp only[aa5];rcases dt.mp h with e|h
  .cases e;rw[a3f _ hn.1,if_pos hk];exact if_pos rfl
  .exact a3g hk _ hn.2 h
theorem a3h{k:Str->Option NameKind}{n:Str}:∀{l:List (Str×ae)} (m:Str->Option ae),n∉l.map (·.1)->aa4 k l m n=m n
 |[],m,_=>rfl
 |(x,v)::r,m,h=>by
  simp only[ee,dt,not_or]at h;dsimp only[aa4];rw[a3h _ h.2];split
  .rfl
  .dsimp only;rw[if_neg h.1]
theorem a3i{k:Str->Option NameKind}{n:Str}{v:ae}(hk:k n≠some .local):∀{l:List (Str×ae)} (m:Str->Option ae),(l.map (·.1)).Nodup->(n,v)∈l->aa4 k l m n=some v
 |[],m,_,h=>by cases h
 |(x,u)::r,m,hn,h=>by
  simp only[ee,wu]at hn;dsimp only[aa4];rcases dt.mp h with e|h
  .cases e;rw[a3h _ hn.1,if_neg hk];exact if_pos rfl
  .exact a3i hk _ hn.2 h
structure agg(sc:dc)(xs:List String):Prop where
 kind:sc.kind=.function
 names:∀p∈sc.names,sc.names.lookup p.1=some p.2
 nofree:∀p∈sc.names,p.2≠.free
 args:∀x∈xs,mq sc x
 nodup:xs.Nodup
noncomputable def cq(xs:List String)(ds:List D):PS:=⟨fun x=>(xs.zip ds).lookup x,fun _=>none⟩
theorem awn{g:ah}:∀{xs:List String} {vs:List ae} {ds:List D} {x:String} {d:D},a9 prog w g vs ds->(xs.zip ds).lookup x=some d->∃v,(aj x,v)∈(xs.map aj).zip vs/\Rep prog w g v d
 |[],_,_,_,_,_,h=>by simp at h
 |_::_,_,[],_,_,_,h=>by simp at h
 |y::xs,[],d::ds,_,_,r,h=>by simp[a9]at r
 |y::xs,v::vs,d::ds,x,d',r,h=>by
  rw[aea,y9]at h;cases hb:x==y with
  |true=>
   rw[hb]at h;cases h;rw[beq_iff_eq.mp hb];exact⟨v,m4,r.1⟩
  |false=>
   rw[hb]at h;obtain⟨u,h1,h2⟩:=awn r.2 h;exact⟨u,by rw[ee,aea];exact er _ h1,h2⟩
def ba8(h:xs.Nodup):(xs.map aj).Nodup:=by
 induction xs with
 |nil=>exact qb
 |cons x xs ih=>
  rw[wu]at h;rw[ee,wu];refine⟨fun hm=>?_,ih h.2⟩
  obtain⟨y,hy,e⟩:=ia.mp hm;exact h.1 (ae4 e▸hy)
def a3e{A:az}{s:af}{o:Obj}{fd:FuncData}{vals:List ae}{binds:List (Str×ae)}
  (hroom:A.depth<recursionLimit) (ho:s.heap.get? a=some o) (hdata:o.data=.func fd) (hlim:s.heap.NoLimit) (hcd:s.heap.CodeRec fd.code fd.qualname)
  (hbody:fd.body=.stmts body) (hbind:bindArgs fd ⟨vals,[]⟩=pure binds) (hclo:fd.closure=[])
  (hkind:∀x∈binds,fd.scope.names.lookup x.1=some .local\/(fd.scope.names.lookup x.1=some .cell/\((cellsFrom (s.heap.objs.size+1) fd.scope.names []).lookup x.1).isSome=true))
  (h:∀s₁,s.toks<=s₁.toks->InCallC s (callEnvC fd s.heap.objs.size a).locals (aa5 (callEnvC fd s.heap.objs.size a).kindOf binds fun _=>none) (callEnvC fd s.heap.objs.size a).cells
    (aa4 (callEnvC fd s.heap.objs.size a).kindOf binds fun _=>none) s₁ ->
   wpAny (model prog w) (A.deeper (callEnvC fd s.heap.objs.size a)) (execs body (callEnvC fd s.heap.objs.size a)) (fun f s'=>R (.ok (.ret (match f with|.ret v=>v|_=>.none))) s') NoE s₁)
  (hco:fd.scope.isCoroutine=false) (hgen:fd.scope.isGenerator=false) (hk:fd.scope.kind=.function) :
  codeAny (model prog w) A (.call (.ref a) ⟨vals,[]⟩) R s:=by
 refine codeAny_call_function hroom ho hdata hco hgen hbody hcd ?_;rw[hbind,hclo];refine bo (qq (av4 hk hkind fun env he s' x ht=>?_))
 subst he;exact⟨hlim.keeps x.toInCall.keep,codeAny_func (wm' (h s' ht x) (fun _ _ q=>q))⟩
def aq8{g:ah}{s:af}{vs:List ae}{L:ai}(X:SOK G g s)(S:agg sc xs)(hL:L=s.heap.objs.size)(hcode:sc.names.lookup (aj "new_callers")=some .local->env.code=G.cd)(henv:env=newEnv sc L mainGlobals (cellsFrom (L+1) sc.names []) env.qual env.func env.code none builtinsNs)
  (hlen:vs.length=xs.length) (r:a9 prog w g vs ds) (hc:InCallC s L (aa5 env.kindOf ((xs.map aj).zip vs) fun _=>none) env.cells (aa4 env.kindOf ((xs.map aj).zip vs) fun _=>none) s₁) (ht:s.toks<=s₁.toks) :
  Ext G g s g s₁/\∃W,(∀a,W a->s.heap.get? a=none)/\Fr G sc env W g s₁ (cq xs ds):=by
 obtain⟨h₁,tk,rfl⟩:=hc.toInCall.same;have e1:Ext G g s g {s with heap:=h₁,toks:=tk}:=Ext.grow X hc.toInCall.keep ht;have hk:∀x,env.kindOf x=sc.names.lookup x:=fun x=>by rw[henv];rfl
 have hlo:env.locals=L:=by rw[henv];rfl
 refine⟨e1,fun a=>a=L\/∃x,env.cells.lookup x=some a,fun a ha=>?_,?_⟩
 .refine aaf ?_;rcases ha with rfl|⟨x,hx⟩
  .rw[hL];exact ay _
  .rw[<-hL];exact sx (hc.above x a (mem_of_lookup hx))
 have fr:∀a,(a=L\/∃x,env.cells.lookup x=some a)->s.heap.get? a=none:=fun a ha=>by
  refine aaf ?_;rcases ha with rfl|⟨x,hx⟩
  .rw[hL];exact ay _
  .rw[<-hL];exact sx (hc.above x a (mem_of_lookup hx))
 have hnd:(((xs.map aj).zip vs).map (·.1)).Nodup:=by rw[anj (by simp[hlen])];exact ba8 S.nodup
 have own:∀x,sc.names.lookup x=some .cell->∃c,env.cells.lookup x=some c:=fun x hx=>by
  obtain⟨c,h⟩:=aal sc.names (L+1) [] x (.inl (mem_of_lookup hx));obtain⟨c',h'⟩:=z6 h;exact⟨c',by rw[(by rw[henv];rfl:env.cells=cellsFrom (L+1) sc.names [])];exact h'⟩
 exact{
  eok:={
   sok:=e1.sok X
   kind:=by rw[henv];exact S.kind
   globals:=by rw[henv];rfl
   builtins:=by rw[henv];rfl
   code:=hcode
   glob:=fun x hx=>by rw[hk];exact hx
   cells:=fun x hx=>by
    rcases hx with hx|hx
    .obtain⟨c,h⟩:=own x hx;exact⟨⟨c,_,h,hc.cell x c h⟩,by rw[hk];exact hx⟩
    .exact absurd rfl (S.nofree _ (mem_of_lookup hx))
   allc:=fun x c h=>⟨_,hc.cell x c h⟩
   apart:=fun x y c hx hy=>name_of_addr hc.apart (mem_of_lookup hx) (mem_of_lookup hy)
   vars:=fun x d e=>by
    obtain⟨v,h1,h2⟩:=awn r e;refine⟨v,?_,h2⟩;have hxm:x∈xs:=by
     have:=(ahl h1).1;obtain⟨y,hy,e⟩:=ia.mp this;exact ae4 e▸hy
    rcases S.args x hxm with hx|hx
    .exact .inl ⟨by rw[hk];exact hx,_,by rw[hlo];exact hc.toInCall.ns,a3g (by rw[hk];exact hx) _ hnd h1⟩
    .obtain⟨c,h⟩:=own _ hx;refine .inr ⟨.inl (by rw[hk];exact hx),c,h,?_⟩
     have:=hc.cell _ c h;rwa[a3i (by rw[hk,hx];exact fun h=>by cases h) _ hnd h1]at this
   own:=fun x d e=>by cases e}
  priv:=fun a ha=>⟨gu X (fr a ha),new_priv X (fr a ha)⟩
  here:=fun a ha=>by
   rcases ha with rfl|⟨x,hx⟩
   .obtain⟨o,_,_,h,_⟩:=hc.toInCall.ns;exact⟨o,h⟩
   .obtain⟨o,h,_⟩:=hc.cell x a hx;exact⟨o,h⟩
  loc:=.inl hlo
  ns:=⟨_,by rw[hlo];exact hc.toInCall.ns⟩
  ownc:=fun x hx=>let⟨c,h⟩:=own x hx;⟨c,h,.inr ⟨x,h⟩⟩
  locs:=fun x hx=>by rw[hk];exact hx
  oapart:=fun _ _ _ _ _ e=>by exact ns rfl e
  ownW:=fun _ _ _ e=>by cases e}
noncomputable def ae1:Out->D
 |.ret d=>d
 |.next _=>.none
noncomputable def fnF(xs:List String)(F:PS->Option Out):List D->Option D:=fun ds=>if ds.length=xs.length then(F (cq xs ds)).map ae1 else none
variable{params:Arguments}
def bdh{pm cd doc:ae}{o:Obj}{F:PS->Option Out}(hP:a≠G.P)(ho:G.hB.get? a=some o)(hdata:o.data=.func (jh name params body sc pm cd doc))
  (hcode:sc.names.lookup (aj "new_callers")=some .local->cd=G.cd) (hcd:∀h,GOK G h->h.CodeRec cd name) (S:agg sc xs) (hbind:∀vs:List ae,vs.length=xs.length->bindArgs (jh name params body sc pm cd doc) ⟨vs,[]⟩=pure ((xs.map aj).zip vs)) (hco:sc.isCoroutine=false) (hgen:sc.isGenerator=false)
  (h:gh G sc n body F):aau G (n+1) (.ref a) (fnF xs F):=fun A g s vs ds d R X r y=>by
 unfold fnF at y;split at y
 .rename_i hlen;refine b9 y fun out hout e0=>?_;clear y;subst e0
  have hvl:vs.length=xs.length:=by rw[r.length];exact hlen
  refine adl ?_;refine a3e (o:=o) (by have:=R.depth;exact O.ae8 this) (X.gok.keep a o hP ho) hdata X.gok.lim (hcd _ X.gok) rfl (hbind vs hvl) rfl (fun p hp=>?_) (fun s₁ ht IC=>?_) hco hgen S.kind
  .have hm:=(ahl hp).1;obtain⟨x,hx,e⟩:=ia.mp hm;rw[<-e];rcases S.args x hx with h|h
   .exact .inl h
   .refine .inr ⟨h,?_⟩;obtain⟨c,hc⟩:=aal sc.names (s.heap.objs.size+1) [] _ (.inl (mem_of_lookup h));obtain⟨c',hc'⟩:=z6 hc;show((cellsFrom (s.heap.objs.size+1) sc.names []).lookup _).isSome=true;rw[hc'];rfl
  .obtain⟨e1,W,hW,F1⟩:=aq8 (env:=callEnvC (jh name params body sc pm cd doc) s.heap.objs.size a) X S rfl hcode rfl hvl r IC ht;have R':dy (A.deeper (callEnvC (jh name params body sc pm cd doc) s.heap.objs.size a)) n:=⟨R.hh,by have:=R.depth;simp only[ahe];exact O.ae7 this,by have:=R.units;simp only[ahe];exact O.azt this⟩
   refine wm (h R' F1 hout) (fun f s' z=>?_)
   induction out with
   |next σ'=>
    obtain⟨rfl,W',g',m,_,_⟩:=z;exact⟨g',e1.then m hW,rfl⟩
   |ret d=>
    obtain⟨v,g',rfl,m,q⟩:=z;exact⟨g',e1.then m hW,q⟩
 .exact ns rfl y
noncomputable def pN:PS->Option (Option Int):=fun _=>some none
noncomputable def pI(f:PS->Option D):PS->Option (Option Int):=fun σ=>(f σ).bind fun d=>(i6 d).map some
def pk:yo G sc n none pN:=.none
def t7(h:Den G sc n e f):yo G sc n (some e) (pI f):=.some h
noncomputable def shI(f:PS->Option D):PS->Option fc:=fun σ=>(f σ).map .sh
noncomputable def owI(f:PS->Option D):PS->Option fc:=fun σ=>(f σ).map .ow
def acu(h:Den G sc n e f):agk G sc n e (shI f):=bfq h
def afu(h:ada G sc n e f):agk G sc n e (owI f):=bfr h
def zd:se G sc n [] tt:=a6e
noncomputable def nxt:PS->Option Out:=fun σ=>some (.next σ)
def cj:gh G sc n [] nxt:=bgk
def yp(G:Gl prog w)(x:Str)(z:Str):Prop:=∃t,G.mg x=some (.str z t)
def aqw{x:Str}(h:yp G x z)(hx:sc.names.lookup x=some .globalImplicit)(hd:(x==("__debug__" : Str))=false):Den G sc n (.Name x pos) (kD (.str z)):=fun _ _ _ _ _ _ _ X y=>by
 cases y;obtain⟨t,h⟩:=h;exact m9 X hx hd (.inl h) (bj.same X.sok ⟨t,rfl⟩)
def a3s{A:az}{g:ah}{s:af}{v:ae}{kd:D}{k:Str}(hi:Den G sc n i fi)(R:dy A n)(F:Fr G sc env W g s σ)(q:Rep prog w g v d)
  (hk:fi σ=some kd) (hk':b7 kd=some k) (hx:σ.own x=some (.dict kvs)) (hz:kvs.length<=sizeLine) (hd:(aj x==("__debug__" : Str))=false) (hn:(aj x==("__classdict__" : Str))=false) :
  wpAny (model prog w) A (assign (.Subscript (.Name (aj x) np) i p) env v) (fun _ s'=>∃g',Mv G W g s g' s'/\Fr G sc env W g' s' (σ.setOwn x (.dict (fx kvs k d)))) NoE s:=by
 rw[assign_Subscript];refine ak (jc (ae0 F hx hd hn fun a ha sh=>?_))
 refine ak (jc (gv (hi R F.eok hk) (fun kv s₂ g₂ e2 qk=>?_)))
 have F2:=F.keep e2;obtain⟨t,rfl⟩:=gr qk hk';refine ak (ox (ak (jc (wm (an3 F2 hx (cu.ext F.eok.sok e2 ha) (q.mono prog w e2.gle) hz) (fun _ s₃ ⟨m,F3⟩=>?_)))))
 exact wpAny_release ⟨g₂,e2.mv.trans m fun a h=>.inl h,F3⟩
noncomputable def aei(x y:String)(fi fj fa fb:PS->Option D):PS->Option Out:=fun σ=>(fa σ).bind fun a=>(fb σ).bind fun b=>
 (fi σ).bind fun ki=>(b7 ki).bind fun i=>((σ.own x).bind mn).bind fun l=>if l.length<=sizeLine then
  (fj (σ.setOwn x (.dict (fx l i a)))).bind fun kj=>(b7 kj).bind fun j=>(((σ.setOwn x (.dict (fx l i a))).own y).bind mn).bind fun m=>if m.length<=sizeLine then
   some (.next ((σ.setOwn x (.dict (fx l i a))).setOwn y (.dict (fx m j b))))else none
 else none
def a6p{o o' i':al}{p':Pos}{vs:List al}:swappedStores [.Tuple [.Subscript o i p,.Subscript o' i' p'] k tp] (.Tuple vs k' vp) env=pure none:=by
 unfold swappedStores;dsimp only;split
 .rfl
 split
 .rfl
 rfl
def ayf{np' p':Pos}{j e1 e2:al}{fj fa fb:PS->Option D}(hi:Den G sc n i fi)(hj:Den G sc n j fj)(ha:Den G sc n e1 fa)(hb:Den G sc n e2 fb)(hs1:gg e1=true)(hs2:gg e2=true)
  (okx:okN x=true:=by exact rfl) (oky:okN y=true:=by exact rfl) :
  k7 G sc n (.Assign [.Tuple [.Subscript (.Name (aj x) np) i p,.Subscript (.Name (aj y) np') j p'] k tp] (.Tuple [e1,e2] k' vp) pos) (aei x y fi fj fa fb):=fun A env W g s σ out R F yy=>by
 refine aq yy fun a h1 yy=>aq yy fun b h2 yy=>aq yy fun ki h3 yy=>aq yy fun i' h4 yy=>aq yy fun l h5 yy=>ifE yy (fun hz yy=>aq yy fun kj h6 yy=>aq yy fun j' h7 yy=>aq yy fun m h8 yy=>ifS yy fun hz' e=>e▸?_) fun _ yy=>ns rfl yy
 refine alw (gv ((jz (.cons hs1 ha (.cons hs2 hb .nil)) (oy ..):Den G sc n (.Tuple [e1,e2] k' vp) (tup [fa,fb])) R F.eok (by simp[tup,cn,b0,h1,h2]:tup [fa,fb] σ=some (.tup [a,b]))) fun v s₁ g1 ex q=>?_) rfl a6p
 obtain@⟨T,vs,m',eT,r⟩:=lq q;refine zx (aw6 r) fun u v ev q1 q2=>?_
 subst ev;have F1:=F.keep ex;refine amu R.hh (ly (F1.eok.sok.view _ _ eT)) rfl rfl fun h' hx=>?_
 have e':Ext G g1 s₁ g1 {s₁ with heap:=h'}:=Ext.grow (tk:=s₁.toks) F1.eok.sok (fun a o e=>hx a o (k8 (il e)) e) (ay _)
 show wpAny _ _ (do holding [v] (assign (.Subscript (.Name (aj x) np) i p) env u);(do holding [] (assign (.Subscript (.Name (aj y) np') j p') env v);pure ())) _ _ _
 refine ak (jc (wm (a3s hi R (F1.keep e') q1 h3 h4 (ai5 h5) hz (okd okx) (okc okx)) fun _ s₃ ⟨g3,m3,F3⟩=>?_))
 refine ak (jc (wm (a3s hj R F3 (q2.mono prog w m3.gle) h6 h7 (ai5 h8) hz' (okd oky) (okc oky)) fun _ s4 ⟨g4,m4,F4⟩=>bo ⟨rfl,W,g4,?_,fun a h=>.inl h,F4⟩))
 exact((ex.trans e').mv.trans m3 fun a h=>.inl h).trans m4 fun a h=>.inl h
noncomputable def bdk(p:dm):List (Str×Arguments×List Stmt×dc):=p.main.body.filterMap fun|.FunctionDef n a b _ _ _ s _ _ _=>some (n,a,b,s)|_=>none
noncomputable def aj3(i:Nat):Str×Arguments×List Stmt×dc:=((bdk PySem.Challenge.pw_wz0001_01)[i]?).getD default
noncomputable def en(i:Nat):List Stmt:=(aj3 i).2.2.1
noncomputable def eu(i:Nat):dc:=(aj3 i).2.2.2
noncomputable def xh(i:Nat):Arguments:=(aj3 i).2.1
noncomputable def jn(i:Nat):Str:=(aj3 i).1
noncomputable def bcr(sc scope:dc)(fs:List String):Bool:=decide (scope.kind=.function) && (decide (∀p∈scope.names,scope.names.lookup p.1=some p.2) && (decide (∀p∈scope.names,p.2=.free->sc.names.lookup p.1=some .cell\/sc.names.lookup p.1=some .free) && (decide (∀x∈fs,scope.names.lookup (aj x)=some .free) && decide (scope.names.lookup (aj "new_callers")≠some .local))))
def sd.of{fs:List String}(h:bcr sc scope fs=true):sd sc scope fs:=by
 have h1:=l8.1 h;have h2:=l8.1 h1.2;have h3:=l8.1 h2.2;have h4:=l8.1 h3.2;exact⟨of_decide_eq_true h1.1,of_decide_eq_true h2.1,of_decide_eq_true h3.1,of_decide_eq_true h4.1,of_decide_eq_true h4.2⟩
def lb(h:n.ble m=true):n<=m:=o8 h
def xk:∀env:Env,env.scope.kind=.function->interactive env=false:=fun env h=>by simp[interactive,h]
noncomputable def akr:PS->Option Out:=
 (ag (b3 "parts" (b6 m7 (aa "s") [(kD (.str "'")),(kD (.int 2))])) (ag (ifF (cmp (j0 fun a b=>decide (a<=b)) (un cx (aa "parts")) (kD (.int 2))) (ag (ej (tup [(kD .none),(kD .none),(var "s")])) nxt) nxt) (ag (ej (var "parts")) nxt)))
def bfa{G:Gl prog w}(B:ey G)(h_TICK:yp G "TICK" "'"):gh G (eu 7) n (en 7) (akr):=
 (bg (j7 (x9 ajg cy (.cons rfl (aqw h_TICK (by decide+kernel) (by decide)) (.cons rfl cg .nil)) (fun _=>rfl) rfl (by decide)) (.inl (by decide+kernel)) (fun _=>rfl)) (bg (j6 (ig bf9 (afx B cy rfl (by decide+kernel)) (Den.b cg)) (bg (jx (jz (.cons rfl xy (.cons rfl xy (.cons rfl av .nil))) (lb rfl))) cj) cj) (bg (jx av) cj)))
noncomputable def akv:PS->Option Out:=
 (ag (b3 "nc" (kD (.int 0))) (ag (i8 (aww (var "callers")) (ax "calls") (ag (r9 "nc" jo (var "calls")) nxt)) (ag (ej (var "nc")) nxt)))
def bfl{G:Gl prog w}(B:ey G):gh G (eu 10) n (en 10) (akv):=
 (bg (j7 cg (.inl (by decide+kernel)) (fun _=>rfl)) (bg (xd (bft av (fun _=>rfl) rfl) (rp (.inl (by decide+kernel))) (bg (an8 ack av (.inl (by decide+kernel))) cj) (fun _ _=>rfl)) (bg (jx av) cj)))
noncomputable def ard:PS->Option Out:=
 (ag (ej (b6 m7 (bin (ru "\n") (bin (ru "\n") (var "text") (kD (.hstr "\r\n"))) (kD (.hstr "\r"))) [(kD (.str "\n"))])) nxt)
def be9{G:Gl prog w}(B:ey G):gh G (eu 12) n (en 12) (ard):=
 (bg (jx (x9 ajg (Den.b (aj9 (aj9 av a2v rfl (fun _=>rfl) rfl) a2v rfl (fun _=>rfl) rfl)) (.cons rfl dg .nil) (fun _=>rfl) rfl (by decide))) cj)
noncomputable def akt:PS->Option Out:=
 (ag (ej (a7 ["log", "kind"] (au (lst [(kD (.str "ab")),(kD (.str "ac")),(kD (.str "ba")),(kD (.str "bc")),(kD (.str "ca")),(kD (.str "cb"))])) (ax "place") tt (a7 ["kind", "place"] (au (var "log")) (ax "row") (cmp eqD (sl (aa "row") pN (pI (kD (.int 2))) pN) (tup [(var "kind"),(var "place")])) (sub (aa "row") (kD (.int 2)))))) nxt)
def bfe{G:Gl prog w}(B:ey G):gh G (eu 16) n (en 16) (akt):=
 (bg (jx (acx (fs:=["log", "kind"]) (q0 (afw (.cons rfl dg (.cons rfl dg (.cons rfl dg (.cons rfl dg (.cons rfl dg (.cons rfl dg .nil)))))) (lb rfl))) (.of (by decide+kernel)) (rp (.inr (by decide+kernel))) (xn (by decide)) zd (acx (fs:=["kind", "place"]) (q0 av) (.of (by decide+kernel)) (rp (.inl (by decide+kernel))) (xn (by decide)) (aek (ig l0 (xw cy pk (t7 cg) pk) (Den.b (jz (.cons rfl av (.cons rfl av .nil)) (lb rfl))))) (el cy cg) (fun _ _=>rfl)) (fun _ _=>rfl))) cj)
noncomputable def aks:PS->Option Out:=
 (ag (b3 "heads" (lst [(kD (.str "")),(kD (.str ".")),(kD (.str "a\r.")),(kD (.str ".\n.")),(kD (.str "\r\n.\r\n")),(kD (.str "..b"))])) (ag (b3 "tails" (lst [(kD (.str "")),(kD (.str ".")),(kD (.str "(\n")),(kD (.str "\r\n.\r\n")),(kD (.str ")'")),(kD (.str "\r")),(kD (.str "'.\n.")),(kD (.str "\"\\("))])) (ag (b3 "tail" (bin bb (bin bb (sub (aa "tails") (bin dp (bin gx (var "figure") (kD (.int 6))) (kD (.int 8)))) (ao akh [(bin dp (bin bb (kD (.int 97)) (bin gx (var "figure") (kD (.int 384)))) (kD (.int 55296)))])) (sub (aa "tails") (bin dp (bin gx (var "figure") (kD (.int 48))) (kD (.int 8)))))) (ag (ej (lst [(sub (aa "heads") (bin dp (var "figure") (kD (.int 6)))),(ao ail [(var "number")]),(var "tail")])) nxt))))
def bfd{G:Gl prog w}(B:ey G):gh G (eu 11) n (en 11) (aks):=
 (bg (j7 (afw (.cons rfl dg (.cons rfl dg (.cons rfl dg (.cons rfl dg (.cons rfl dg (.cons rfl dg .nil)))))) (lb rfl)) (.inl (by decide+kernel)) (fun _=>rfl)) (bg (j7 (afw (.cons rfl dg (.cons rfl dg (.cons rfl dg (.cons rfl dg (.cons rfl dg (.cons rfl dg (.cons rfl dg (.cons rfl dg .nil)))))))) (lb rfl)) (.inl (by decide+kernel)) (fun _=>rfl)) (bg (j7 (i9 nq (i9 nq (el cy (i9 af5 (i9 akl av cg) cg)) (afz B bdg (.cons rfl (i9 af5 (i9 nq cg (i9 akl av cg)) cg) .nil) (by decide+kernel) (by decide) (by decide+kernel))) (el cy (i9 af5 (i9 akl av cg) cg))) (.inl (by decide+kernel)) (fun _=>rfl)) (bg (jx (afw (.cons rfl (el cy (i9 af5 av cg)) (.cons rfl (be2 B bde (.cons rfl av .nil) (by decide+kernel) (by decide) (by decide+kernel)) (.cons rfl av .nil))) (lb rfl))) cj))))
noncomputable def aku(f_rfc:List D->Option D):PS->Option Out:=
 (ag (b3 "end" (b6 afo (bin bb (kD (.str "\r\n")) (var "stream")) [(kD (.str "\r\n.\r\n"))])) (ag (c7 "rows" (a7 [] (au (b6 m7 (sl (bin bb (kD (.str "\r\n")) (var "stream")) (pI (kD (.int 2))) (pI (var "end")) pN) [(kD (.str "\r\n"))])) (ax "row") tt (ife (cmp eqD (sl (aa "row") pN (pI (kD (.int 1))) pN) (kD (.str "."))) (sl (aa "row") (pI (kD (.int 1))) pN pN) (var "row")))) (bw "rows" (ag (ej (tup [(ao f_rfc [(b6 gw (kD (.str "\r\n")) [(var "rows")])]),(sl (aa "stream") (pI (bin bb (var "end") (kD (.int 3)))) pN pN)])) nxt))))
def bfi{G:Gl prog w}(hm:m<=n)(B:ey G)(f_rfc:List D->Option D)(h_rfc:d9 G m "decode_rfc2231" f_rfc):gh G (eu 13) n (en 13) (aku f_rfc):=
 (bg (j7 (x9 ba1 (Den.b (i9 nq dg av)) (.cons rfl dg .nil) (fun _=>rfl) rfl (by decide)) (.inl (by decide+kernel)) (fun _=>rfl)) (bg (an9 (fs:=[]) (q0 (x9 ajg (Den.b (xw (Den.b (i9 nq dg av)) (t7 cg) (t7 av) pk)) (.cons rfl dg .nil) (fun _=>rfl) rfl (by decide))) (.of (by decide+kernel)) (rp (.inl (by decide+kernel))) (xn (by decide)) zd (aqv (ig l0 (xw cy pk (t7 cg) pk) (Den.b dg)) (xw cy (t7 cg) pk pk) av) (fun _ _=>rfl) (by decide+kernel) rfl (by decide+kernel)) (oq "rows" (bg (jx (jz (.cons rfl (vj h_rfc (.cons rfl (x9 aph (Den.b dg) (.cons rfl av .nil) (fun _=>rfl) rfl (by decide)) .nil) (by decide+kernel) (by decide) (by omega)) (.cons rfl (xw cy (t7 (i9 nq av cg)) pk pk) .nil)) (lb rfl))) cj))))
noncomputable def akn:PS->Option Out:=
 (ag (c7 "books" (kD (.dict []))) (ag (i8 (aeh "abc" (var "held")) (cz ["hand", "purse"]) (ag (c7 "gone" (a7 ["hand", "sums"] (au (var "log")) (ax "row") (bx (cmp eqD (sub (aa "row") (kD (.int 0))) (kD (.str "send"))) (bx (cmp eqD (sub (sub (aa "row") (kD (.int 1))) (kD (.int 0))) (aa "hand")) tt)) (sub (aa "sums") (sub (aa "row") (kD (.int 2)))))) (bw "gone" (ag (b3 "come" (a7 ["hand", "sums"] (au (var "log")) (ax "row") (bx (cmp eqD (sub (aa "row") (kD (.int 0))) (kD (.str "take"))) (bx (cmp eqD (sub (sub (aa "row") (kD (.int 1))) (kD (.int 1))) (aa "hand")) tt)) (tup [(sub (sub (aa "row") (kD (.int 1))) (kD (.int 0))),(sub (aa "sums") (sub (aa "row") (kD (.int 2))))]))) (ag (b3 "came" (ao eg [(a7 [] (au (var "come")) (ax "row") tt (sub (aa "row") (kD (.int 1))))])) (ag (c7 "table" (i4 ["come"] (au (var "come")) (cz ["giver", "one"]) tt (var "giver") (ao eg [(a7 ["giver"] (au (var "come")) (ax "row") (cmp eqD (sub (aa "row") (kD (.int 0))) (aa "giver")) (sub (aa "row") (kD (.int 1))))]))) (bw "table" (ag (jj "books" (var "hand") (tup [(un cx (aa "gone")),(un cx (aa "come")),(bin bb (bin subD (var "purse") (ao eg [(var "gone")])) (var "came")),(var "came"),(var "table")])) nxt)))))))) (bw "books" (ag (ej (var "books")) nxt))))
def be4{G:Gl prog w}(B:ey G):gh G (eu 15) n (en 15) (akn):=
 (bg (aet af1 (.inl (by decide+kernel)) (fun _=>rfl)) (bg (xd (aqy B av rfl (by decide+kernel)) (qr (.cons (.inr (by decide+kernel)) (.cons (.inl (by decide+kernel)) .nil))) (bg (an9 (fs:=["hand", "sums"]) (q0 av) (.of (by decide+kernel)) (rp (.inl (by decide+kernel))) (xn (by decide)) (aek (acy (.cons (ig l0 (el cy cg) (Den.b dg)) (.cons (ig l0 (el (Den.b (el cy cg)) cg) cy) .nil)))) (el cy (el cy cg)) (fun _ _=>rfl) (by decide+kernel) rfl (by decide+kernel)) (oq "gone" (bg (ayh (acx (fs:=["hand", "sums"]) (q0 av) (.of (by decide+kernel)) (rp (.inl (by decide+kernel))) (xn (by decide)) (aek (acy (.cons (ig l0 (el cy cg) (Den.b dg)) (.cons (ig l0 (el (Den.b (el cy cg)) cg) cy) .nil)))) (jz (.cons rfl (el (Den.b (el cy cg)) cg) (.cons rfl (el cy (el cy cg)) .nil)) (lb rfl)) (fun _ _=>rfl)) (by decide+kernel)) (bg (j7 (afz B aj0 (.cons rfl (acx (fs:=[]) (q0 av) (.of (by decide+kernel)) (rp (.inl (by decide+kernel))) (xn (by decide)) zd (el cy cg) (fun _ _=>rfl)) .nil) (by decide+kernel) (by decide) (by decide+kernel)) (.inl (by decide+kernel)) (fun _=>rfl)) (bg (aiu (fs:=["come"]) (q0 av) (.of (by decide+kernel)) (qr (.cons (.inr (by decide+kernel)) (.cons (.inl (by decide+kernel)) .nil))) (aj1 (by decide)) zd av (afz B aj0 (.cons rfl (acx (fs:=["giver"]) (q0 av) (.of (by decide+kernel)) (rp (.inl (by decide+kernel))) (xn (by decide)) (aek (ig l0 (el cy cg) cy)) (el cy cg) (fun _ _=>rfl)) .nil) (by decide+kernel) (by decide) (by decide+kernel)) (fun _ _=>rfl) (by decide+kernel) rfl (by decide+kernel)) (oq "table" (bg (xc (jz (.cons rfl (afx B cy rfl (by decide+kernel)) (.cons rfl (afx B cy rfl (by decide+kernel)) (.cons rfl (i9 nq (i9 a3j av (afz B aj0 (.cons rfl av .nil) (by decide+kernel) (by decide) (by decide+kernel))) av) (.cons rfl av (.cons rfl av .nil))))) (lb rfl)) av (fun _=>rfl)) cj))))))) (fun _ _=>rfl)) (oq "books" (bg (jx av) cj))))
noncomputable def akp(f_addCallers:List D->Option D):PS->Option Out:=
 (ag (r8 (cz ["cc", "nc", "tt", "ct", "callers"]) (var "source")) (ag (r8 (cz ["t_cc", "t_nc", "t_tt", "t_ct", "t_callers"]) (var "target")) (ag (ej (tup [(bin bb (var "cc") (var "t_cc")),(bin bb (var "nc") (var "t_nc")),(bin bb (var "tt") (var "t_tt")),(bin bb (var "ct") (var "t_ct")),(ao f_addCallers [(var "t_callers"),(var "callers")])])) nxt)))
def be7{G:Gl prog w}(hm:m<=n)(B:ey G)(f_addCallers:List D->Option D)(h_addCallers:d9 G m "add_callers" f_addCallers):gh G (eu 8) n (en 8) (akp f_addCallers):=
 (bg (ait av (.cons (.inl (by decide+kernel)) (.cons (.inl (by decide+kernel)) (.cons (.inl (by decide+kernel)) (.cons (.inl (by decide+kernel)) (.cons (.inl (by decide+kernel)) .nil))))) (fun _=>rfl) (fun _=>rfl)) (bg (ait av (.cons (.inl (by decide+kernel)) (.cons (.inl (by decide+kernel)) (.cons (.inl (by decide+kernel)) (.cons (.inl (by decide+kernel)) (.cons (.inl (by decide+kernel)) .nil))))) (fun _=>rfl) (fun _=>rfl)) (bg (jx (jz (.cons rfl (i9 nq av av) (.cons rfl (i9 nq av av) (.cons rfl (i9 nq av av) (.cons rfl (i9 nq av av) (.cons rfl (vj h_addCallers (.cons rfl av (.cons rfl av .nil)) (by decide+kernel) (by decide) (by omega)) .nil))))) (lb rfl))) cj)))
noncomputable def akm(f_check:List D->Option D):PS->Option Out:=
 (ag (c7 "accepted_values" (kD (.list []))) (ag (i8 (au (var "email_header_fields")) (ax "v") (ag (ifF (zy (toB (ao f_check [(var "v")]))) (ag (b3 "v" (kD (.str "('', '')"))) nxt) nxt) (ag (jr "accepted_values" (var "v")) nxt))) (bw "accepted_values" (ag (ej (var "accepted_values")) nxt))))
def be1{G:Gl prog w}(hm:m<=n)(B:ey G)(f_check:List D->Option D)(h_check:d9 G m "_check_parenthesis" f_check):gh G (eu 6) n (en 6) (akm f_check):=
 (bg (aet af0 (.inl (by decide+kernel)) (fun _=>rfl)) (bg (xd (q0 av) (rp (.inl (by decide+kernel))) (bg (j6 (a2x (ya (vj h_check (.cons rfl av .nil) (by decide+kernel) (by decide) (by omega)))) (bg (j7 dg (.inl (by decide+kernel)) (fun _=>rfl)) cj) cj) (bg (ab1 av rfl (fun _=>rfl) rfl xk) cj)) (fun _ _=>rfl)) (oq "accepted_values" (bg (jx av) cj))))
noncomputable def akq(f_first:List D->Option D)(f_addCallers:List D->Option D)(f_stats:List D->Option D):PS->Option Out:=
 (ag (c7 "books" (i4 [] (aeh "abc" (var "held")) (cz ["hand", "purse"]) tt (var "hand") (tup [(kD (.int 0)),(kD (.int 0)),(var "purse"),(kD (.int 0)),r6]))) (ag (c7 "wires" (i4 [] (aci (var "start")) (cz ["place", "text"]) tt (var "place") (var "text"))) (ag (f7 ["noted", "aside", "shut", "log"] [(owI (kD (.dict []))),(owI (kD (.dict []))),(owI (kD (.list []))),(owI (kD (.list [])))]) (ag (i8 (au (var "deeds")) (cz ["kind", "place", "mail"]) (ag (f7 ["hand", "noting", "entry"] [(shI (sub (aa "place") (un fq (kD (.int 1))))),(shI (ofB (cmp eqD (var "kind") (kD (.str "note"))))),(shI (tup []))]) (ag (ifF (cmp eqD (var "kind") (kD (.str "send"))) (ag (f7 ["hand", "entry"] [(shI (sub (aa "place") (kD (.int 0)))),(shI (tup [(kD (.int 1)),(kD (.int 0)),(un fq (sub (aa "sums") (var "mail"))),(kD (.int 0)),r6]))]) (ag (m6 "wires" jo (var "place") (sub (aa "sent") (var "mail"))) nxt)) (ag (ifF (bx (cmp eqD (var "kind") (kD (.str "take"))) (bx (cmp neD (sub (aa "wires") (var "place")) (kD (.str ""))) tt)) (ag (r8 (cz ["parts", "rest"]) (ao f_first [(sub (aa "wires") (var "place"))])) (ag (jj "wires" (var "place") (var "rest")) (ag (b3 "noting" (ofB (cmp eqD (var "parts") (tup [(kD .none),(kD .none),(kD (.str ""))])))) (ag (ifF (toB (var "noting")) (ag (jr "shut" (var "place")) nxt) (ag (b3 "mail" (b6 acn (aa "dues") [(var "parts")])) (ag (b3 "entry" (tup [(kD (.int 0)),(kD (.int 1)),(sub (aa "sums") (var "mail")),(sub (aa "sums") (var "mail")),(tw (sub (aa "place") (kD (.int 0))) (sub (aa "sums") (var "mail")))])) (ag (ifF (bx (cmp inD (var "hand") (aa "noted")) (bx (cmp od (var "place") (aa "shut")) tt)) (ag (jj "aside" (var "hand") (ao f_addCallers [(sub (aa "aside") (var "hand")),(tw (sub (aa "place") (kD (.int 0))) (tup [(kD (.int 1)),(var "mail"),(sub (aa "sums") (var "mail")),(un fq (sub (aa "sums") (var "mail")))]))])) nxt) nxt) nxt)))) nxt)))) nxt) nxt)) (ag (ifF (cmp neD (var "entry") (tup [])) (ag (jj "books" (var "hand") (ife (toB (var "onto")) (ao f_stats [(sub (aa "books") (var "hand")),(var "entry")]) (ao f_stats [(var "entry"),(sub (aa "books") (var "hand"))]))) (ag (jr "log" (tup [(var "kind"),(var "place"),(var "mail"),(ofB (cmp od (var "hand") (aa "noted")))])) nxt)) nxt) (ag (ifF (bx (toB (var "noting")) (bx (cmp od (var "hand") (aa "noted")) tt)) (ag (aei "noted" "aside" (var "hand") (var "hand") (sub (aa "books") (var "hand")) r6) (ag (i8 (au (bin (ru "") (kD (.str "abc")) (var "hand"))) (ax "other") (ag (m6 "wires" jo (bin bb (var "hand") (var "other")) (kD (.str ".\r\n"))) nxt)) nxt)) nxt) nxt))))) (bw "books" (bw "wires" (bw "noted" (bw "aside" (bw "log" (ag (ej (tup [(var "books"),(var "wires"),(var "noted"),(var "aside"),(var "log")])) nxt))))))))))
def be8{G:Gl prog w}(hm:m<=n)(B:ey G)(f_first:List D->Option D)(f_addCallers:List D->Option D)(f_stats:List D->Option D)(h_first:d9 G m "_law_first" f_first)(h_addCallers:d9 G m "add_callers" f_addCallers)(h_stats:d9 G m "add_func_stats" f_stats):gh G (eu 14) n (en 14) (akq f_first f_addCallers f_stats):=
 (bg (aiu (fs:=[]) (aqy B av rfl (by decide+kernel)) (.of (by decide+kernel)) (qr (.cons (.inl (by decide+kernel)) (.cons (.inl (by decide+kernel)) .nil))) (aj1 (by decide)) zd av (jz (.cons rfl cg (.cons rfl cg (.cons rfl av (.cons rfl cg (.cons rfl akb .nil))))) (lb rfl)) (fun _ _=>rfl) (by decide+kernel) rfl (by decide+kernel)) (bg (aiu (fs:=[]) (akd av (fun _=>rfl) rfl) (.of (by decide+kernel)) (qr (.cons (.inl (by decide+kernel)) (.cons (.inl (by decide+kernel)) .nil))) (aj1 (by decide)) zd av av (fun _ _=>rfl) (by decide+kernel) rfl (by decide+kernel)) (bg (ais (.cons (.inl (by decide+kernel)) (.cons (.inl (by decide+kernel)) (.cons (.inl (by decide+kernel)) (.cons (.inl (by decide+kernel)) .nil)))) (by decide) (.cons rfl (afu af1) (.cons rfl (afu af1) (.cons rfl (afu af0) (.cons rfl (afu af0) .nil)))) rfl (lb rfl)) (bg (xd (q0 av) (qr (.cons (.inl (by decide+kernel)) (.cons (.inl (by decide+kernel)) (.cons (.inl (by decide+kernel)) .nil)))) (bg (ais (.cons (.inl (by decide+kernel)) (.cons (.inl (by decide+kernel)) (.cons (.inl (by decide+kernel)) .nil))) (by decide) (.cons rfl (acu (el cy (aka cg))) (.cons rfl (acu (afy l0 av (Den.b dg))) (.cons rfl (acu (jz .nil (lb rfl))) .nil))) rfl (lb rfl)) (bg (j6 (ig l0 av (Den.b dg)) (bg (ais (.cons (.inl (by decide+kernel)) (.cons (.inl (by decide+kernel)) .nil)) (by decide) (.cons rfl (acu (el cy cg)) (.cons rfl (acu (jz (.cons rfl cg (.cons rfl cg (.cons rfl (aka (el cy av)) (.cons rfl cg (.cons rfl akb .nil))))) (lb rfl))) .nil)) rfl (lb rfl)) (bg (air ack av (el cy av) (fun _ _ _=>rfl)) cj)) (bg (j6 (acy (.cons (ig l0 av (Den.b dg)) (.cons (ig akg (el cy av) (Den.b dg)) .nil))) (bg (ait (vj h_first (.cons rfl (el cy av) .nil) (by decide+kernel) (by decide) (by omega)) (.cons (.inl (by decide+kernel)) (.cons (.inl (by decide+kernel)) .nil)) (fun _=>rfl) (fun _=>rfl)) (bg (xc av av (fun _=>rfl)) (bg (j7 (afy l0 av (Den.b (jz (.cons rfl xy (.cons rfl xy (.cons rfl dg .nil))) (lb rfl)))) (.inl (by decide+kernel)) (fun _=>rfl)) (bg (j6 (ya av) (bg (ab1 av rfl (fun _=>rfl) rfl xk) cj) (bg (j7 (x9 a0n cy (.cons rfl av .nil) (fun _=>rfl) rfl (by decide)) (.inl (by decide+kernel)) (fun _=>rfl)) (bg (j7 (jz (.cons rfl cg (.cons rfl cg (.cons rfl (el cy av) (.cons rfl (el cy av) (.cons rfl (aqx (el cy cg) (el cy av)) .nil))))) (lb rfl)) (.inl (by decide+kernel)) (fun _=>rfl)) (bg (j6 (acy (.cons (ig aq3 av cy) (.cons (ig akf av cy) .nil))) (bg (xc (vj h_addCallers (.cons rfl (el cy av) (.cons rfl (aqx (el cy cg) (jz (.cons rfl cg (.cons rfl av (.cons rfl (el cy av) (.cons rfl (aka (el cy av)) .nil)))) (lb rfl))) .nil)) (by decide+kernel) (by decide) (by omega)) av (fun _=>rfl)) cj) cj) cj)))) cj)))) cj) cj)) (bg (j6 (ig akg av (Den.b (jz .nil (lb rfl)))) (bg (xc (aqv (ya av) (vj h_stats (.cons rfl (el cy av) (.cons rfl av .nil)) (by decide+kernel) (by decide) (by omega)) (vj h_stats (.cons rfl av (.cons rfl (el cy av) .nil)) (by decide+kernel) (by decide) (by omega))) av (fun _=>rfl)) (bg (ab1 (jz (.cons rfl av (.cons rfl av (.cons rfl av (.cons rfl (afy akf av cy) .nil)))) (lb rfl)) rfl (fun _=>rfl) rfl xk) cj)) cj) (bg (j6 (acy (.cons (ya av) (.cons (ig akf av cy) .nil))) (bg (ayf av av (el cy av) akb rfl rfl) (bg (xd (q0 (aj9 dg av rfl (fun _=>rfl) rfl)) (rp (.inl (by decide+kernel))) (bg (air ack (i9 nq av av) dg (fun _ _ _=>rfl)) cj) (fun _ _=>rfl)) cj)) cj) cj)))) (fun _ _=>rfl)) (oq "books" (oq "wires" (oq "noted" (oq "aside" (oq "log" (bg (jx (jz (.cons rfl av (.cons rfl av (.cons rfl av (.cons rfl av (.cons rfl av .nil))))) (lb rfl))) cj))))))))))
noncomputable def arh(f_check:List D->Option D)(f_eols:List D->Option D)(f_on:List D->Option D)(f_parts:List D->Option D)(f_rowsF:List D->Option D)(f_run:List D->Option D)(f_told:List D->Option D)(f_valid:List D->Option D)(f_periods:List D->Option D)(f_stats:List D->Option D)(f_count:List D->Option D)(f_rfc:List D->Option D)(f_quote:List D->Option D):PS->Option Out:=
 (ag (c7 "cells" (a7 ["script"] (xr (var "bases")) (cz ["k", "base"]) tt (bin bb (var "base") (ao eg [(a7 [] (au (sl (sl (aa "script") pN (pI (kD (.int 60))) pN) (pI (var "k")) pN (pI (kD (.int 12))))) (ax "x") tt (bin dp (var "x") (bin zr (kD (.int 10)) (kD (.int 9)))))])))) (bw "cells" (ag (f7 ["places", "total"] [(shI (lst [(kD (.str "ab")),(kD (.str "ac")),(kD (.str "ba")),(kD (.str "bc")),(kD (.str "ca")),(kD (.str "cb"))])),(shI (ao eg [(var "cells")]))]) (ag (b3 "sums" (bin bb (sl (aa "script") pN (pI (kD (.int 12))) pN) (sl (lst [(kD (.int 7)),(un fq (kD (.int 3))),(kD (.int 20)),(kD (.int 12)),(kD (.int 5)),(un fq (kD (.int 9))),(kD (.int 1)),(kD (.int 30)),(un fq (kD (.int 4))),(kD (.int 6)),(kD (.int 2)),(kD (.int 11))]) (pI (un cx (sl (aa "script") pN (pI (kD (.int 12))) pN))) pN pN))) (ag (b3 "held" (bin bb (sl (aa "script") (pI (kD (.int 12))) (pI (kD (.int 15))) pN) (sl (lst [(kD (.int 100)),(kD (.int 40)),(un fq (kD (.int 5)))]) (pI (un cx (sl (aa "script") (pI (kD (.int 12))) (pI (kD (.int 15))) pN))) pN pN))) (ag (f7 ["deeds", "mails"] [(owI (kD (.list []))),(owI (kD (.list [])))]) (ag (i8 (au (bin bb (var "cells") (lst [(bin bb (bin kr (var "total") (kD (.int 4))) (kD (.int 3)))]))) (ax "cell") (ag (ifF (cmp (j0 fun a b=>decide (a<b)) (bin dp (var "cell") (kD (.int 4))) (kD (.int 2))) (ag (jr "deeds" (tup [(kD (.str "send")),(sub (aa "places") (bin dp (bin gx (var "cell") (kD (.int 4))) (kD (.int 6)))),(un cx (aa "mails"))])) (ag (jr "mails" (ao f_parts [(bin gx (var "cell") (kD (.int 24))),(un cx (aa "mails"))])) nxt)) (ag (ifF (cmp eqD (bin dp (var "cell") (kD (.int 4))) (kD (.int 2))) (ag (jr "deeds" (tup [(kD (.str "take")),(sub (aa "places") (bin dp (bin gx (var "cell") (kD (.int 4))) (kD (.int 6)))),(kD (.int 0))])) nxt) (ag (jr "deeds" (tup [(kD (.str "note")),(sub (kD (.str "abc")) (bin dp (bin gx (var "cell") (kD (.int 4))) (kD (.int 3)))),(kD (.int 0))])) nxt)) nxt)) nxt)) (ag (acq "deeds" (a7 ["places", "total"] (aol (kD (.int 84))) (ax "k") tt (tup [(kD (.str "take")),(sub (aa "places") (bin dp (bin bb (var "k") (bin gx (var "total") (kD (.int 3)))) (kD (.int 6)))),(kD (.int 0))]))) (bw "deeds" (bw "mails" (ag (c7 "texts" (a7 [] (au (var "mails")) (ax "mail") tt (b6 gw (kD (.str "'")) [(var "mail")]))) (bw "texts" (ag (c7 "due" (a7 [] (au (var "texts")) (ax "text") tt (b6 gw (kD (.str "\r\n")) [(a7 [] (au (ao f_rowsF [(var "text")])) (ax "row") tt (ife (cmp eqD (sl (aa "row") pN (pI (kD (.int 1))) pN) (kD (.str "."))) (bin bb (kD (.str ".")) (var "row")) (var "row")))]))) (bw "due" (ag (c7 "bare" (a7 [] (au (var "texts")) (ax "text") tt (b6 gw (kD (.str "\n")) [(a7 [] (au (b6 m7 (aa "text") [(kD (.str "\n"))])) (ax "row") tt (ife (cmp eqD (sl (aa "row") pN (pI (kD (.int 1))) pN) (kD (.str "."))) (bin bb (kD (.str ".")) (var "row")) (var "row")))]))) (bw "bare" (ag (c7 "sent" (a7 [] (au (var "texts")) (ax "text") tt (bin bb (ao f_quote [(var "text")]) (kD (.str "\r\n.\r\n"))))) (bw "sent" (ag (c7 "dues" (a7 [] (au (var "mails")) (ax "mail") tt (a7 [] (au (var "mail")) (ax "part") tt (b6 gw (kD (.str "\r\n")) [(ao f_rowsF [(var "part")])])))) (bw "dues" (ag (c7 "empty" (i4 [] (au (var "places")) (ax "place") tt (var "place") (kD (.str "")))) (bw "empty" (ag (r8 (cz ["books", "wires", "noted", "aside", "log"]) (ao f_run [(var "deeds"),(var "held"),(var "empty"),(var "sums"),(var "sent"),(var "dues"),(kD (.bool true))])) (ag (f7 ["first", "rest"] [(shI (a7 [] (au (var "log")) (ax "row") (toB (sub (aa "row") (kD (.int 3)))) (sl (aa "row") pN (pI (kD (.int 3))) pN))),(shI (a7 [] (au (var "log")) (ax "row") (zy (toB (sub (aa "row") (kD (.int 3))))) (sl (aa "row") pN (pI (kD (.int 3))) pN)))]) (ag (b3 "again" (ao f_run [(var "first"),(var "held"),(var "empty"),(var "sums"),(var "sent"),(var "dues"),(kD (.bool false))])) (ag (b3 "after" (ao f_run [(var "rest"),(lst [(kD (.int 0)),(kD (.int 0)),(kD (.int 0))]),(sub (aa "again") (kD (.int 1))),(var "sums"),(var "sent"),(var "dues"),(kD (.bool true))])) (ag (f7 ["gone", "past"] [(shI (ao f_on [(var "first"),(kD (.str "send"))])),(shI (ao f_on [(var "first"),(kD (.str "take"))]))]) (ag (c7 "unders" (a7 [] (qp (var "gone") (var "past")) (cz ["row", "ahead"]) tt (sl (aa "row") (pI (un cx (aa "ahead"))) pN pN))) (bw "unders" (ag (b3 "under" (a7 ["sums"] (qp (var "places") (var "unders")) (cz ["place", "row"]) (cmp neD (var "row") (lst [])) (tup [(var "place"),(var "row"),(ao eg [(a7 ["sums"] (au (var "row")) (ax "mail") tt (sub (aa "sums") (var "mail")))])]))) (ag (c7 "laid" (i4 ["under"] (au (kD (.str "abc"))) (ax "hand") tt (var "hand") (i4 ["hand"] (au (var "under")) (ax "row") (cmp eqD (sub (sub (aa "row") (kD (.int 0))) (kD (.int 1))) (aa "hand")) (sub (sub (aa "row") (kD (.int 0))) (kD (.int 0))) (tup [(un cx (sub (aa "row") (kD (.int 1)))),(ao eg [(sub (aa "row") (kD (.int 1)))]),(sub (aa "row") (kD (.int 2))),(un fq (sub (aa "row") (kD (.int 2))))])))) (bw "laid" (ag (f7 ["told", "notes"] [(shI (ao f_told [(var "first"),(var "held"),(var "sums")])),(shI (lst [(sub (aa "noted") (kD (.str "a"))),(sub (aa "noted") (kD (.str "b"))),(sub (aa "noted") (kD (.str "c")))]))]) (ag (b3 "whole" (ao f_stats [(ao f_stats [(sub (aa "notes") (kD (.int 0))),(sub (aa "notes") (kD (.int 1)))]),(sub (aa "notes") (kD (.int 2)))])) (ag (b3 "come" (a7 ["sums"] (au (var "first")) (ax "row") (cmp eqD (sub (aa "row") (kD (.int 0))) (kD (.str "take"))) (tup [(sub (sub (aa "row") (kD (.int 1))) (kD (.int 0))),(sub (aa "sums") (sub (aa "row") (kD (.int 2))))]))) (ag (c7 "table" (i4 ["come"] (au (var "come")) (cz ["giver", "one"]) tt (var "giver") (ao eg [(a7 ["giver"] (au (var "come")) (ax "row") (cmp eqD (sub (aa "row") (kD (.int 0))) (aa "giver")) (sub (aa "row") (kD (.int 1))))]))) (bw "table" (ag (f7 ["came", "counts"] [(shI (ao eg [(a7 [] (au (var "come")) (ax "row") tt (sub (aa "row") (kD (.int 1))))])),(shI (a7 [] (au (bin bb (var "notes") (lst [(var "whole")]))) (ax "book") tt (ao f_count [(sub (aa "book") (kD (.int 4)))])))]) (ag (b3 "pieces" (lst [(kD (.str "")),(kD (.str "\\(")),(kD (.str "\")\"")),(kD (.str "\\\\")),(kD (.str "\"\\\")\"")),(kD (.str "\\\""))])) (ag (b3 "signs" (a7 ["pieces", "total"] (au (var "first")) (ax "row") tt (tup [(sub (aa "row") (kD (.int 1))),(bin bb (ife (cmp eqD (sub (aa "row") (kD (.int 0))) (kD (.str "send"))) (kD (.str "(")) (kD (.str ")"))) (sub (aa "pieces") (bin dp (bin bb (sub (aa "row") (kD (.int 2))) (var "total")) (kD (.int 6)))))]))) (ag (c7 "ledgers" (a7 ["signs"] (au (var "places")) (ax "place") tt (b6 gw (kD (.str "")) [(a7 ["place"] (au (var "signs")) (cz ["wire", "sign"]) (cmp eqD (var "wire") (aa "place")) (var "sign"))]))) (bw "ledgers" (ag (f7 ["shown", "kept"] [(shI (sl (aa "ledgers") pN pN pN)),(shI (ao f_valid [(var "ledgers")]))]) (ag (c7 "closed" (a7 [] (qp (var "shown") (var "unders")) (cz ["ledger", "row"]) tt (bin bb (var "ledger") (bin kr (kD (.str ")")) (un cx (aa "row")))))) (bw "closed" (ag (b3 "asked" (bin bb (bin bb (var "closed") (a7 [] (au (var "closed")) (ax "text") tt (bin bb (bin bb (kD (.str ")")) (var "text")) (kD (.str "("))))) (a7 [] (au (var "closed")) (ax "text") tt (bin bb (var "text") (kD (.str "\"(")))))) (ag (ej (ofB (bx (cmp eqD (ao f_quote [(kD (.str ""))]) (kD (.str ""))) (bx (cmp eqD (var "sent") (a7 [] (au (var "due")) (ax "text") tt (bin bb (var "text") (kD (.str "\r\n.\r\n"))))) (bx (cmp eqD (a7 [] (au (var "texts")) (ax "text") tt (b6 vk (ao f_periods [(b6 oi (ao f_eols [(var "text")]) [])]) [])) (aa "due")) (bx (cmp eqD (a7 [] (au (var "texts")) (ax "text") tt (b6 vk (ao f_periods [(b6 oi (aa "text") [])]) [])) (aa "bare")) (bx (cmp eqD (a7 [] (au (var "mails")) (ax "mail") tt (ao f_rfc [(b6 gw (kD (.str "'")) [(sl (aa "mail") pN (pI (kD (.int 2))) pN)])])) (a7 [] (au (var "mails")) (ax "mail") tt (tup [(kD .none),(kD .none),(b6 gw (kD (.str "'")) [(sl (aa "mail") pN (pI (kD (.int 2))) pN)])]))) (bx (cmp eqD (ao f_on [(var "log"),(kD (.str "send"))]) (ao f_on [(var "log"),(kD (.str "take"))])) (bx (cmp eqD (var "aside") (aa "laid")) (bx (cmp eqD (var "books") (ao f_told [(var "log"),(var "held"),(var "sums")])) (bx (cmp eqD (var "noted") (aa "told")) (bx (cmp eqD (var "whole") (tup [(bin subD (un cx (aa "first")) (un cx (aa "come"))),(un cx (aa "come")),(bin subD (ao eg [(var "held")]) (ao eg [(a7 [] (au (var "under")) (ax "row") tt (sub (aa "row") (kD (.int 2))))])),(var "came"),(var "table")])) (bx (cmp eqD (a7 [] (au (var "counts")) (ax "n") (toB (ofB (tst afi (var "n")))) (var "n")) (bin bb (a7 ["told"] (au (kD (.str "abc"))) (ax "hand") tt (sub (sub (aa "told") (var "hand")) (kD (.int 3)))) (lst [(var "came")]))) (bx (cmp eqD (sub (aa "again") (kD (.int 0))) (aa "noted")) (bx (cmp eqD (i4 ["noted", "after"] (au (kD (.str "abc"))) (ax "hand") tt (var "hand") (ao f_stats [(sub (aa "noted") (var "hand")),(sub (sub (aa "after") (kD (.int 0))) (var "hand"))])) (aa "books")) (bx (cmp eqD (var "kept") (a7 [] (qp (var "shown") (var "unders")) (cz ["ledger", "row"]) tt (ife (cmp eqD (var "row") (lst [])) (var "ledger") (kD (.str "('', '')"))))) (bx (cmp eqD (var "ledgers") (aa "shown")) (cmp eqD (a7 [] (xr (var "asked")) (cz ["k", "text"]) tt (ofB (cmp (af3 fun a b=>a==b) (ao f_check [(var "text")]) (ofB (cmp (j0 fun a b=>decide (a<b)) (var "k") (kD (.int 6))))))) (bin kr (lst [(kD (.bool true))]) (kD (.int 18))))))))))))))))))))) nxt)))))))))))))))))))))))))))))))))))))))))))))))
noncomputable def ari(f_check:List D->Option D)(f_eols:List D->Option D)(f_on:List D->Option D)(f_parts:List D->Option D)(f_rowsF:List D->Option D)(f_run:List D->Option D)(f_told:List D->Option D)(f_valid:List D->Option D)(f_periods:List D->Option D)(f_stats:List D->Option D)(f_count:List D->Option D)(f_rfc:List D->Option D)(f_quote:List D->Option D):PS->Option Out:=
 (ag (b3 "bases" (lst [(kD (.int 457)),(kD (.int 1796)),(kD (.int 17)),(kD (.int 18)),(kD (.int 3)),(kD (.int 7705)),(kD (.int 2)),(kD (.int 2)),(kD (.int 22)),(kD (.int 2)),(kD (.int 2560)),(kD (.int 4600))])) (arh f_check f_eols f_on f_parts f_rowsF f_run f_told f_valid f_periods f_stats f_count f_rfc f_quote))
def bff{G:Gl prog w}(hm:m<=n)(B:ey G)(f_check:List D->Option D)(f_eols:List D->Option D)(f_on:List D->Option D)(f_parts:List D->Option D)(f_rowsF:List D->Option D)(f_run:List D->Option D)(f_told:List D->Option D)(f_valid:List D->Option D)(f_periods:List D->Option D)(f_stats:List D->Option D)(f_count:List D->Option D)(f_rfc:List D->Option D)(f_quote:List D->Option D)(h_check:d9 G m "_check_parenthesis" f_check)(h_eols:d9 G m "_fix_eols" f_eols)(h_on:d9 G m "_law_on" f_on)(h_parts:d9 G m "_law_parts" f_parts)(h_rowsF:d9 G m "_law_rows" f_rowsF)(h_run:d9 G m "_law_run" f_run)(h_told:d9 G m "_law_told" f_told)(h_valid:d9 G m "_pre_parse_validation" f_valid)(h_periods:d9 G m "_quote_periods" f_periods)(h_stats:d9 G m "add_func_stats" f_stats)(h_count:d9 G m "count_calls" f_count)(h_rfc:d9 G m "decode_rfc2231" f_rfc)(h_quote:d9 G m "quotedata" f_quote):gh G (eu 17) n (en 17).tail (arh f_check f_eols f_on f_parts f_rowsF f_run f_told f_valid f_periods f_stats f_count f_rfc f_quote):=by
 repeat' first|with_reducible (first|refine bg ?_ ?_|refine oq _ ?_|exact cj|refine av ?_|refine cy ?_|exact cg|exact dg|refine el ?_ ?_|refine Den.b ?_|refine i9 ?_ ?_ ?_|refine jz ?_ ?_|refine q0 ?_|refine rp ?_|refine qr ?_|refine acx ?_ ?_ ?_ ?_ ?_ ?_ ?_|exact zd|refine xn ?_|refine aj1 ?_|exact pk|refine t7 ?_|refine afy ?_ ?_ ?_|refine ig ?_ ?_ ?_|refine afx (by assumption) ?_ ?_ ?_|refine vj (by assumption) ?_ ?_ ?_ ?_|refine xw ?_ ?_ ?_ ?_|refine afz (by assumption) aj0 ?_ ?_ ?_ ?_|refine afw ?_ ?_|refine x9 ?_ ?_ ?_ ?_ ?_ ?_|refine an9 ?_ ?_ ?_ ?_ ?_ ?_ ?_ ?_ ?_ ?_|refine aiu ?_ ?_ ?_ ?_ ?_ ?_ ?_ ?_ ?_ ?_ ?_|refine ayh ?_ (by with_unfolding_all decide+kernel)|refine j7 ?_ ?_ ?_|refine ais ?_ ?_ ?_ ?_ ?_|refine afu ?_|refine acu ?_|refine aka ?_|refine aqv ?_ ?_ ?_|refine bfo ?_|refine acy ?_|refine a2x ?_|refine aek ?_|refine bfv (by assumption) ?_ ?_ ?_|refine akd ?_ ?_ ?_|refine bfu (by assumption) ?_ ?_ ?_|refine bfs (by assumption) ?_ ?_ ?_ ?_ ?_|refine aqy (by assumption) ?_ ?_ ?_|refine bfh (by assumption) ?_ ?_ ?_ ?_|refine aj9 ?_ ?_ ?_ ?_ ?_|refine aqx ?_ ?_|refine bfk ?_ ?_ ?_ ?_ ?_ ?_ ?_ ?_|exact xy|exact akc|exact akb|exact af0|exact af1|refine xd ?_ ?_ ?_ ?_|refine j6 ?_ ?_ ?_|refine jx ?_|refine xc ?_ ?_ ?_|refine air ?_ ?_ ?_ ?_|refine ayf ?_ ?_ ?_ ?_ ?_ ?_|refine aet ?_ ?_ ?_|refine ait ?_ ?_ ?_ ?_|exact nq|exact akl|exact af5|exact bgw|exact bgu|exact a3j|exact l0|exact bgb|exact aq0|exact akf|exact akg|exact aq3|exact aph|exact ajg|exact a0n|exact ba2|exact ba3|exact ack|exact xk|exact .nil|refine .cons ?_ ?_ ?_|refine .cons ?_ ?_|refine .one ?_)|exact rfl|refine ya ?_|refine ab1 ?_ rfl (fun _=>rfl) rfl xk|refine a75 ?_ rfl (fun _=>rfl) rfl xk|exact fun _=>rfl|exact fun _ _=>rfl|exact fun _ _ _=>rfl|exact lb rfl|exact .inl (by decide+kernel)|exact .inr (by decide+kernel)|exact .of (by decide+kernel)|decide+kernel|omega|refine bg ?_ ?_|exact cg|exact dg
noncomputable abbrev adf(h:bf)(l1:ai):bf:=h.push {cls:=.type "tuple_iterator",data:=.fields #[.ref l1,.int 0 0]}
noncomputable abbrev agt(h:bf)(l1 l2:ai):bf:=(adf h l1).push {cls:=.type "tuple_iterator",data:=.fields #[.ref l2,.int 0 0]}
noncomputable abbrev ags(h:bf)(l1 l2:ai):bf:=(agt h l1 l2).push {cls:=.type "tuple",data:=.seq #[.ref h.objs.size,.ref (adf h l1).objs.size]}
noncomputable abbrev agr(h:bf)(l1 l2:ai):bf:=(ags h l1 l2).push {cls:=.type "tuple",data:=.seq #[.none,.none]}
noncomputable abbrev yt(h:bf)(l1 l2:ai):bf:=(agr h l1 l2).push {cls:=.type "zip",data:=.fields #[.none,.bool false,.bool false,.ref (agt h l1 l2).objs.size,.ref (ags h l1 l2).objs.size]}
def tupPush{items:Array ae}(x:h.IsTuple a items)(o:Obj):(h.push o).IsTuple a items:=let⟨ob,e,r⟩:=x;⟨ob,b4 _ e,r⟩
set_option maxHeartbeats 2000000 in
def ba5(l1 l2:ai)(xs ys:Array ae) :
  Meets (Builtin.«zip.__new__» ⟨[.type "zip",.ref l1,.ref l2],[]⟩) (fun _ R s=>s.heap.IsTuple l1 xs/\s.heap.IsTuple l2 ys /\
   R (.ok (.ret (.ref (agr s.heap l1 l2).objs.size))) {s with heap:=yt s.heap l1 l2}):=
 .of_wp fun prog w A R s h=>by
  obtain⟨hp,g,d,tk,os⟩:=s;obtain⟨hl1,hl2,h⟩:=h;have hsub:=sub_zip
  wp_walk using amt (hl1:asd (alq ⟨hp,g,d,tk,os⟩) l1 xs),amt (tupPush hl2 _:asd (alq ⟨adf hp l1,g,d,tk,os⟩) l2 ys)
  exact⟨_,rfl,h⟩
section
variable {A:az} {E:ae->af->Prop} {s:af}
variable{Q:ae->af->Prop}{i:Nat}
def bak{it l:ai}{items:Array ae}{x:ae}(hit:s.heap.IsTupleIter it l i)
  (hl:s.heap.IsTuple l items) (hx:items[i]?=some x)
  (hQ:∀h',h'.IsTupleIter it l (i+1)->pe it s.heap h'->Q x {s with heap:=h'}) :
  wpAny (model prog w) A (sr (.ref it)) Q E s:=by
 obtain⟨o,ho,hc,hd⟩:=id hit;obtain⟨ol,hol,_,nl,hdl⟩:=hl;unfold sr;refine ak (sq (name:=aj "__next__") hit.typeIs ah9
  (m0 ah9 hit.typeIs awf ?_ (awh _)))
 show wpAny _ _ (field (.ref it) 0 >>= _) _ _ s;refine ak (kh ho hd (x:=.ref l) rfl ?_);show wpAny _ _ (if(aa1 l==rh)=true then _ else _) _ _ s
 rw[if_neg (show¬((aa1 l==rh)=true)from wy)];show wpAny _ _ (field (.ref it) 1 >>= _) _ _ s;refine ak (kh ho hd (x:=.int i 0) rfl ?_);show wpAny _ _ (seqItems? (.ref l) >>= _) _ _ s;refine ak (nw hol hdl ?_);simp only[abl,hx];refine ak (al7 ho hd (ay _) (bo ⟨x,rfl,bo (hQ _ ?_ (aee ..))⟩));exact⟨_,ah5 _ ho (Obj.isFreed_of_fields (at7 hd _)),(Obj.cls_mapFields ..).trans hc,by
  rw[at7 hd];rfl⟩
def bam{it l:ai}{items:Array ae}(hh:A.handled=none)
  (hit:s.heap.IsTupleIter it l i) (hl:s.heap.IsTuple l items) (hx:items[i]?=none)
  (hE:∀h' e,um it s.heap h'->(∃o,h'.get? e=some o/\o.cls=.type "StopIteration")->E (.ref e) {s with heap:=h'}) :
  wpAny (model prog w) A (sr (.ref it)) Q E s:=by
 obtain⟨o,ho,hc,hd⟩:=id hit;obtain⟨ol,hol,_,nl,hdl⟩:=hl;unfold sr;refine ak (sq (name:=aj "__next__") hit.typeIs ah9
  (m0 ah9 hit.typeIs awf ?_ (awh _)))
 show wpAny _ _ (field (.ref it) 0 >>= _) _ _ s;refine ak (kh ho hd (x:=.ref l) rfl ?_);show wpAny _ _ (if(aa1 l==rh)=true then _ else _) _ _ s
 rw[if_neg (show¬((aa1 l==rh)=true)from wy)];show wpAny _ _ (field (.ref it) 1 >>= _) _ _ s;refine ak (kh ho hd (x:=.int i 0) rfl ?_);show wpAny _ _ (seqItems? (.ref l) >>= _) _ _ s;refine ak (nw hol hdl ?_);simp only[abl,hx];refine ak (wh (ak (al7 ho hd (gf _) ?_)));show wpAny _ _ (newExc (.type "StopIteration") [] >>= _) _ _ _;refine ak ?_;simp only[newExc,newTuple];refine ak (rd ?_ (by size_fits))
 refine ak (m:=firstArgMember _ _) (ql (a:=rh) (by first|rfl|(simp only[firstArgMember];rfl)) ?_)
 refine rd ?_ (by size_fits)
 simp only[raiseNew];refine ak (al3 ?_)
 first|rw[show A.in1.handled=none from hh]|rw[hh]
 refine bP (alp ?_);exact hE _ _ (((aee ..).extBut.push _).push _) ⟨_,dw _ rfl,rfl⟩
def bgf{l1 l2:ai}{xs ys:Array ae}(hl1:s.heap.IsTuple l1 xs)(hl2:s.heap.IsTuple l2 ys)
  (h:∀h',IsZip h' (s.heap.objs.size+4) (s.heap.objs.size+2) (s.heap.objs.size+3) .none->IsPair h' (s.heap.objs.size+2) (.ref s.heap.objs.size) (.ref (s.heap.objs.size+1)) ->
   IsPair h' (s.heap.objs.size+3) .none .none->h'.IsTupleIter s.heap.objs.size l1 0->h'.IsTupleIter (s.heap.objs.size+1) l2 0->h'.objs.size=s.heap.objs.size+5 ->
   (∀c o,s.heap.get? c=some o->h'.get? c=some o)->Q (.ref (s.heap.objs.size+4)) {s with heap:=h'}) :
  wpAny (model prog w) A (call (.type "zip") [.ref l1,.ref l2]) Q E s:=by
 refine callType_new PySem.F.called_zip (by decide) (PySem.F.typeCall_zip_2 _ _) (PySem.F.newCall_zip_2 _ _) (fun obj=>PySem.F.args_object_init_3 obj _ _) PySem.F.entry_zip_new
  (ba5 l1 l2 xs ys) ⟨hl1,hl2,?_⟩
 have z1:(adf s.heap l1).objs.size=s.heap.objs.size+1:=mz ..;have z2:(agt s.heap l1 l2).objs.size=s.heap.objs.size+2:=by rw[mz,z1]
 have z3:(ags s.heap l1 l2).objs.size=s.heap.objs.size+3:=by rw[mz,z2]
 have z4:(agr s.heap l1 l2).objs.size=s.heap.objs.size+4:=by rw[mz,z3]
 have g5:(yt s.heap l1 l2).get? (agr s.heap l1 l2).objs.size=some _:=dw _ rfl;have g4:(yt s.heap l1 l2).get? (ags s.heap l1 l2).objs.size=some _:=b4 _ (dw _ rfl);have g3:(yt s.heap l1 l2).get? (agt s.heap l1 l2).objs.size=some _:=b4 _ (b4 _ (dw _ rfl));have g2:(yt s.heap l1 l2).get? (adf s.heap l1).objs.size=some _:=b4 _ (b4 _ (b4 _ (dw _ rfl)));have g1:(yt s.heap l1 l2).get? s.heap.objs.size=some _:=b4 _ (b4 _ (b4 _ (b4 _ (dw _ rfl))));show _/\_;rw[z2,z3,z4]at g5;rw[z1,z2]at g3;rw[z3]at g4;rw[z1]at g2;rw[z4];exact⟨⟨_,g5,rfl⟩,h _ g5 g3 g4 ⟨_,g1,rfl,rfl⟩ ⟨_,g2,rfl,rfl⟩ (by rw[mz,z4]:(yt s.heap l1 l2).objs.size=s.heap.objs.size+5) fun c o x=>
  b4 _ (b4 _ (b4 _ (b4 _ (b4 _ x))))⟩
end
theorem k6.tuple{A:az}{I l:ai}{vs:List ae}{m:Nat}{ds:List D}(hh:A.handled=none) :
  k6 G A I ds (fun i g h=>h.IsTupleIter I l i/\g.f l=some (c8 "tuple" vs m)/\a9 prog w g vs ds) where
 hold:=fun i g g' h h' ⟨a,b,c⟩ hg hk=>⟨a.at hk,hg.at' _ _ b,c.mono prog w hg⟩
 live:=fun i g h ⟨⟨o,e,_⟩,_⟩=>⟨o,e⟩
 item:=fun i hi g s Q E hv _ ⟨hit,hl,r⟩ hQ=>by
  obtain⟨v,he,q⟩:=r.get (gq hi);exact bak hit (ly (hv _ _ hl)) (by simpa using he) fun h' hit' hs=>hQ v h' s.toks (ay _) q ⟨hit',hl,r⟩ hs
 done:=fun g s Q E hv _ ⟨hit,hl,r⟩ hE=>bam hh hit (ly (hv _ _ hl)) (by simp[r.length]) hE
structure ZS(g:ah)(z TI TO i1 i2 l1 l2:ai)(T:ae)(i:Nat)(h:bf):Prop where
 v:∀a o,g.f a=some o->h.get? a=some o
 z:IsZip h z TI TO T
 I:IsPair h TI (.ref i1) (.ref i2)
 O:∃a b,IsPair h TO a b
 x:h.IsTupleIter i1 l1 i
 y:h.IsTupleIter i2 l2 i
def a5k(G:Gl prog w){A:az}{g:ah}{z TI TO i1 i2 l1 l2:ai}{vs us:List ae}{d1 d2:List D}(D:agp z TI TO i1 i2)(hg:∀a,a=z\/a=TI\/a=TO\/a=i1\/a=i2->g.f a=none)
  (e1:g.f l1=some (c8 "tuple" vs m)) (r1:a9 prog w g vs d1) (e2:g.f l2=some (c8 "tuple" us m')) (r2:a9 prog w g us d2) (hlen:d1.length=d2.length) (hh:A.handled=none) (fp:List ai) (hfp:∀a o,g.f a=some o->a∈fp)
  (hfp':∀a,a=z\/a=TI\/a=TO\/a=i1\/a=i2->a∈fp) :
  WalksU prog w A z fp [z,TO,i1,i2] d1.length (fun i vals=>∃x y,vals=#[x,y]/\∃(h1:i<d1.length) (h2:i<d2.length),Rep prog w g x d1[i]/\Rep prog w g y d2[i])
   (fun i h=>ZS g z TI TO i1 i2 l1 l2 .none i h)
   (fun i T h=>ZS g z TI TO i1 i2 l1 l2 (rawInt T) (i+1) h/\T≠z/\T≠TO/\T≠i1/\T≠i2) where
 sub:=fun c hc=>hfp' c (by simp at hc;rcases hc with rfl|rfl|rfl|rfl<;>simp)
 frame:=fun i h h' k hk=>⟨fun a o e=>hk a (hfp a o e) o (k.v a o e),hk z (hfp' _ (.inl rfl)) _ k.z,hk TI (hfp' _ (.inr (.inl rfl))) _ k.I,oEE k.O fun a b hTO=>⟨a,b,hk TO (hfp' _ (.inr (.inr (.inl rfl)))) _ hTO⟩,
  k.x.at fun o e=>hk i1 (hfp' _ (.inr (.inr (.inr (.inl rfl))))) o e,k.y.at fun o e=>hk i2 (hfp' _ (.inr (.inr (.inr (.inr rfl))))) o e⟩
 item:=fun i s Q E hi k hQ=>by
  have hT:s.TypeIs (.ref z) "zip" := ⟨_,k.z,rfl⟩;refine oEE k.O fun a b hTO=>?_
  unfold pyNext;refine ak (aa8 (sq (name:=aj "__next__") hT ah4
   (m0 ah4 hT avd
    (a1k (G:=G) D (k6.tuple (A:=A.in1) hh) (k6.tuple (A:=A.in1) hh) k.v (hg z (.inl rfl)) (hg TO (.inr (.inr (.inl rfl)))) (hg i1 (.inr (.inr (.inr (.inl rfl))))) (hg i2 (.inr (.inr (.inr (.inr rfl))))) k.z k.I hTO ⟨k.x,e1,r1⟩ ⟨k.y,e2,r2⟩ hi (O.ai9 hlen hi) fun x y h' tk ht q1 q2 hz' hTO' h1' h2' hT' hk=>bo ?_) (avk _))))
  have lt:∀{c o},s.heap.get? c=some o->s.heap.objs.size≠c:=fun e=>su (il e)
  have ne:∀{c a o},g.f a=none->g.f c=some o->c≠a:=fun h e q=>by subst q;rw[h]at e;exact nomatch e
  refine hQ s.heap.objs.size #[x,y] h' tk ⟨x,y,rfl,hi,O.ai9 hlen hi,q1,q2⟩ ⟨_,hT',rfl,_,rfl⟩
   ⟨⟨fun a o e=>hk a o (ne (hg z (.inl rfl)) e) (ne (hg TO (.inr (.inr (.inl rfl)))) e) (ne (hg i1 (.inr (.inr (.inr (.inl rfl))))) e) (ne (hg i2 (.inr (.inr (.inr (.inr rfl))))) e) (k.v a o e),hz',hk _ _ D.TIz D.TITO D.TIi1 D.TIi2 k.I,⟨_,_,hTO'⟩,h1'.1,h2'.1⟩,
    lt k.z,lt hTO,k.x.elim fun _ q=>lt q.1,k.y.elim fun _ q=>lt q.1⟩
   fun c o hc e=>hk c o (fun x=>hc (by simp[x])) (fun x=>hc (by simp[x])) (fun x=>hc (by simp[x])) (fun x=>hc (by simp[x])) e
 go:=fun elts _ pos i T s Q E k hQ=>by
  replace k:=k.1;have ne:∀{c a o},g.f a=none->g.f c=some o->c≠a:=fun h e q=>by subst q;rw[h]at e;exact nomatch e
  refine av0 k.z fun h' hz' hs'=>hQ h' ⟨fun a o e=>hs'.extBut _ _ (ne (hg z (.inl rfl)) e) (k.v a o e),hz',hs'.extBut _ _ D.TIz k.I,oEE k.O fun a b hTO=>⟨a,b,hs'.extBut _ _ D.TOz hTO⟩,k.x.extBut hs'.extBut D.i1z,k.y.extBut hs'.extBut D.i2z⟩
   fun c o hc e=>hs'.extBut _ _ (fun x=>hc (by simp[x])) e
 apart:=fun i T h k hT=>by
  replace k:=k.2;simp at hT;rcases hT with e|e|e|e
  .exact k.1 e
  .exact k.2.1 e
  .exact k.2.2.1 e
  .exact k.2.2.2 e
 done:=fun s Q E k hQ=>by
  have hT:s.TypeIs (.ref z) "zip" := ⟨_,k.z,rfl⟩;refine oEE k.O fun a b hTO=>?_
  unfold pyNext;refine ak (aa8 (sq (name:=aj "__next__") hT ah4
   (m0 ah4 hT avd (a1l (G:=G) D (k6.tuple (A:=A.in1) hh) k.v (hg z (.inl rfl)) (hg i1 (.inr (.inr (.inr (.inl rfl))))) k.z k.I hTO ⟨k.x,e1,r1⟩ fun h' e hk he=>?_) (avk _))))
  obtain⟨o,ho,hc⟩:=he;refine ak (ad2 (T := "StopIteration") (b:=true) ⟨o,ho,hc⟩ ahi ?_);exact bo (hQ h' s.toks fun c o hc e=>hk c o (fun x=>hc (by simp[x])) (fun x=>hc (by simp[x])) (fun x=>hc (by simp[x])) (fun x=>hc (by simp[x])) e)
 self:=fun i s Q E st hQ=>amk st.z hQ
structure ym{prog:dm}{w:dv}(G:Gl prog w):Prop where
 tabIs:∀o,G.tab o↔∃ps:Array ae,TriplesOk ps.toList/\o=some {cls:=.none,data:=.fields ps}
 code:∃c,G.cd=.ref c/\G.hB.IsCode c G.P #[]/\G.hB.TableAt c G.P #[]
 bm:∃bm ob,G.mg "__builtins__" = some (.ref bm)/\bm≠builtinsNs/\G.hB.get? bm=some ob/\ob.cls=.type "module" /\ ob.dict=some builtinsNs/\ob.data=.plain
noncomputable def anp(a b:D):Option D:=(vn a).bind fun l=>(vn b).bind fun m=>(tl l).bind fun xs=>(tl m).bind fun ys=>if xs.length=ys.length/\xs.length<=1000 then some (.tup ((yx (· + ·) xs ys).map .int))else none
def bf6(H:ym G)(x:GOK G h):∃c ps,G.cd=.ref c/\h.IsCode c G.P ps/\h.TableAt c G.P ps:=by
 obtain⟨c,hc,hi,ht⟩:=H.code;obtain⟨ps,htr,hP⟩:=(H.tabIs _).mp x.tab;have d:=CodeHd.of hi ht;obtain⟨⟨o,vs,ho,hcl,_⟩,hp⟩:=ht;have ne:c≠G.P:=fun q=>by rw[q,hp]at ho;cases ho;cases hcl
 unfold CodeHd at d;rw[<-(x.keep c o ne ho).trans ho.symm]at d;exact⟨c,ps,hc,CodeHd.code d hP htr,CodeHd.tab d hP⟩
def Ext.growP(H:ym G){g:ah}{s:af}{tk:Nat}{ps:Array ae}(x:SOK G g s)(hx:um G.P s.heap h')(hP:h'.get? G.P=some {cls:=.none,data:=.fields ps})(htr:TriplesOk ps.toList)(ht:s.toks<=tk):Ext G g s g {s with heap:=h',toks:=tk} where
 gle:=.refl _
 new:=fun _ _ e=>.inl e
 heap:=fun a o ha e=>hx a o ha e
 view:=fun a o e=>hx a o (by rintro rfl;rw[x.gP]at e;exact nomatch e) (x.view a o e)
 gP:=x.gP
 gok:=⟨fun a o ha e=>hx a o ha (x.gok.keep a o ha e),by rw[hP];exact(H.tabIs _).mpr ⟨ps,htr,rfl⟩,_,ps,hP,rfl,rfl⟩
 toks:=ht
 lim:=aw x.lim ht
 os:=rfl
 bare:=x.bare
 gsize:=ay _
 gold:=fun _ _=>rfl
def bdd(H:ym G){A:az}{g:ah}{s:af}{qn:Str}(x:SOK G g s)(he:env.code=G.cd) :
  wpAny (model prog w) A (genexprCode env pos qn scope) (fun _ s'=>Ext G g s g s') NoE s:=by
 obtain⟨c,ps,hc,hi,ht⟩:=bf6 H x.gok;cases hf:codeAmong pos ps.toList with
 |some c'=>exact wpAny_genexprCode_hit (he.trans hc) hi hf (Ext.refl x)
 |none=>
  refine qq (wpAny_genexprCodeX (he.trans hc) hi ht hf fun c' h' tk hx _ _ hi' _ ht' _ htk=>?_)
  refine Ext.growP H x hx ht'.2 ?_ htk;obtain⟨_,_,_,_,_,_,_,_,_,op,_,_,_,_,_,_,_,hop,hpd,htr,_⟩:=hi';exact htr
def a8p{g:ah}{vs:List ae}(hl:vs.length=ds.length)(h:∀(j:Nat) v d,vs[j]?=some v->ds[j]?=some d->Rep prog w g v d):a9 prog w g vs ds:=by
 induction vs generalizing ds with
 |nil=>induction ds with
  |nil=>trivial
  |cons=>exact nomatch hl
 |cons v vs ih=>induction ds with
  |nil=>exact nomatch hl
  |cons d ds=>exact⟨h 0 v d rfl rfl,ih (aly hl) fun j=>h (j+1)⟩
def a1b{xs:List Int}(h:tl l=some xs):l.length=xs.length/\∀(i:Nat) (h1:i<l.length) (h2:i<xs.length),l[i]=.int xs[i]:=by
 induction l generalizing xs with
 |nil=>cases h;exact⟨rfl,fun i h1=>absurd h1 (oz i)⟩
 |cons d l ih=>
  refine aq h fun i hi h=>b9 h fun ys hy e=>e▸oA (ih hy) fun e1 e2=>⟨congrArg (·+1) e1,fun j h1 h2=>?_⟩
  induction j with
  |zero=>exact i5 hi
  |succ j=>exact e2 j (uh h1) (uh h2)
def ay8(n:Nat):passing (fun _=>true) n 0=ed n:=by simp[passing]
noncomputable def zc(f₁ f₂:PS->Option D):PS->Option D:=bin anp f₁ f₂
structure bh8(scope:dc):Prop where
 kind:scope.kind=.function
 co:scope.isCoroutine=false
 cell:∀y∈scope.names,y.2≠.cell
 free:∀y∈scope.names,y.2≠.free
 n0:scope.names.lookup (aj ".0")=some NameKind.local
 ni:scope.names.lookup (aj "i")=some NameKind.local
 nj:scope.names.lookup (aj "j")=some NameKind.local
variable{m:Str->Option ae}
def bem{A:az}{cenv:Env}{s:af}{pi pj bp:Pos}{a b:Int}{t u:Tok}{E:ae->af->Prop}(hk:cenv.scope.kind=.function)(hi:cenv.kindOf (aj "i")=some .local)(hj:cenv.kindOf (aj "j")=some .local)
  (hn:s.heap.Ns cenv.locals m) (h1:m (aj "i")=some (.int a t)) (h2:m (aj "j")=some (.int b u)) :
  wpAny (model prog w) A (eval (.BinOp (.Name (aj "i") pi) .Add (.Name (aj "j") pj) bp) cenv) (fun y s₃=>(∃t',y=.int (a+b) t')/\Keeps s s₃) E s:=by
 refine wpAny_BinOp (ag4 (ah3 hk hi hn h1 (ag4 (ah3 hk hj hn h2 ?_) (by decide))) (by decide))
 exact P.add_int ⟨⟨_,rfl⟩,s.heap,s.toks+1,rfl,fun _ _ e=>e⟩
def bc9{gs:GenState}{a b:Array GenState}(h:GenOnlyQ a.size (a.push gs) b):a.size<=b.size/\∀i,i<a.size->b[i]?=a[i]?:=by
 have e:∀i,i<a.size->(a.push gs)[i]?=a[i]?:=fun i hi=>by rw[avc hi,ui hi]
 rcases h with h|⟨⟨h,k⟩,_⟩
 .rw[h,amc];exact⟨fm _,e⟩
 .rw[h,amc];exact⟨fm _,fun i hi=>(k i (k8 hi)).trans (e i hi)⟩
def bd0{g g₂:ah}{s s4 s₆:af}{N:Nat}{acc:Array ae}(X:SOK G g s)(E:Ext G g s g₂ s4)(X4:SOK G g₂ s4)(frs:∀a,N<=a->s.heap.get? a=none)(hgn:∀a,N<=a->g₂.f a=none)
  (old:∀a o,a<N->s4.heap.get? a=some o->s₆.heap.get? a=some o) (htk:s.toks<=s₆.toks) (hos:s₆.os=s4.os) (hbare:AllBare s₆.gens) (hgens:s4.gens.size<=s₆.gens.size/\∀i,i<s4.gens.size->s₆.gens[i]?=s4.gens[i]?) :
  Ext G g s ⟨fun a=>if a=s₆.heap.objs.size then some {cls:=.type "tuple",data:=.seq acc}else g₂.f a,g.lim⟩ {s₆ with heap:=s₆.heap.push {cls:=.type "tuple",data:=.seq acc}}:=by
 have ltN:∀{a},(∀b,N<=b->a≠b)->a<N:=fun{a} h=>(uu a N).elim id fun h1=>absurd rfl (h a h1)
 have push6:∀a o,s₆.heap.get? a=some o->(s₆.heap.push {cls:=.type "tuple",data:=.seq acc}).get? a=some o:=fun a o e=>b4 _ e
 have g2N:∀a o,g₂.f a=some o->a<N:=fun a o e=>ltN fun b hb h=>ns (hgn b hb) (h▸e)
 have heap6:∀a o,a≠G.P->s.heap.get? a=some o->s₆.heap.get? a=some o:=fun a o hP e=>old a o (ltN fun b hb h=>ns (frs b hb) (h▸e)) (E.heap a o hP e)
 obtain⟨oP,vP,eP,dP,cP⟩:=X4.gok.hasP;have eP6:=old _ _ (ltN fun b hb e=>(new_priv X (frs b hb)).2 e.symm:G.P<N) eP
 have hTP:G.P≠s₆.heap.objs.size:=k8 (il eP6);exact{
  gle:=⟨fun a o e=>(if_neg ((fun a o e=>k8 (il (old a o (g2N a o e) (X4.view a o e))):∀a o,g₂.f a=some o->a≠s₆.heap.objs.size) a o (E.gle.at' a o e))).trans (E.gle.at' a o e),ay _⟩
  new:=fun a o e=>by
   dsimp only at e;split at e
   .rename_i h;refine .inr ?_;refine noS fun o' q=>?_
    if hP:a=G.P then exact absurd (hP.symm.trans h) hTP
    else exact absurd (h▸il (heap6 a o' hP q)) (adt _)
   .exact E.new a o e
  heap:=fun a o hP e=>push6 a o (heap6 a o hP e)
  view:=fun a o e=>by
   dsimp only at e;split at e
   .rename_i h;subst h;cases e;exact dw _ rfl
   .exact push6 a o (old a o (g2N a o e) (X4.view a o e))
  gP:=(if_neg hTP).trans X4.gP
  gok:={
   keep:=fun a o hP e=>push6 a o (old a o (ltN fun b hb h=>ns (new_priv X (frs b hb)).1 (h▸e)) (X4.gok.keep a o hP e))
   tab:=by rw[push6 _ _ eP6,<-eP];exact X4.gok.tab
   hasP:=⟨oP,vP,push6 _ _ eP6,dP,cP⟩}
  toks:=htk
  lim:=aw X.lim htk
  os:=hos.trans E.os
  bare:=hbare
  gsize:=aw E.gsize hgens.1
  gold:=fun i hi=>(hgens.2 i (i7 hi E.gsize)).trans (E.gold i hi)}
def a6u{g:ah}{xs ys:List Int}{acc:Array ae}{L:Nat}(hlen:xs.length=ys.length)(hL:xs.length=L)(hac:acc.size=L)
  (hit:∀(j:Nat) (v:ae),acc[j]?=some v->∃i,(passing (fun _=>true) L 0)[j]?=some i/\∃t,v=ag1 (xs.getD i 0+ys.getD i 0) t):a9 prog w g acc.toList ((yx (· + ·) xs ys).map .int):=by
 subst hL;refine a8p (by rw[b8,List.length_zipWith,<-hlen,adq];exact hac) fun j v dd hv hd=>?_
 obtain⟨i,hi,t,rfl⟩:=hit j v (by simpa using hv)
 rw[ay8]at hi;obtain⟨hj,hi⟩:=anb.mp hi;simp at hi hj;subst hi;have j2:j<ys.length:=hlen▸hj;rw[abk,List.getElem?_zipWith,gq hj,gq j2]at hd;cases hd;exact⟨t,by rw[yv,yv,gq hj,gq j2];rfl⟩
inductive TS:D->D->D->Prop
 |mk {l m xs ys:_} (h1:tl l=some xs) (h2:tl m=some ys) (h3:xs.length=ys.length) (h4:xs.length<=1000):TS (.tup l) (.tup m) (.tup ((yx (· + ·) xs ys).map .int))
def a57{a b:D}(h:anp a b=some d):TS a b d:=
 aq h fun l hl h=>aq h fun m hm h=>aq h fun xs h1 h=>aq h fun ys h2 h=>ifS h fun hc e=>e▸ye hl▸ye hm▸⟨h1,h2,hc.1,hc.2⟩
def be3{e1 e2:al}{pi pj bp pa pb pt zp zq gp:Pos}{kt:Nat}(B:ey G)(H:ym G)(h₁:Den G sc n e1 f₁)(h₂:Den G sc n e2 f₂)(hs1:gg e1=true)(hs2:gg e2=true)(S:bh8 scope)
  (hcode:sc.names.lookup (aj "new_callers")=some .local) (hx:sc.names.lookup ("tuple" : Str)=some .globalImplicit) (hz:sc.names.lookup ("zip" : Str)=some .globalImplicit) :
  Den G sc n (.Call (.Name "tuple" np) [.GeneratorExp (.BinOp (.Name (aj "i") pi) .Add (.Name (aj "j") pj) bp) [⟨.Tuple [.Name (aj "i") pa,.Name (aj "j") pb] kt pt,.Call (.Name "zip" zp) [e1,e2] [] zq,[],0⟩] scope gp] [] pos) (zc f₁ f₂):=fun A env g s σ d R X y=>by
 refine aq y ?_;clear y;intro d1 hd1 y;refine aq y ?_;clear y;intro d2 hd2 y;obtain@⟨l,m,xs,ys,hxs,hys,hlen,hmax⟩:=a57 y;refine oA (a1b hxs) fun ll hl=>oA (a1b hys) fun lm hm=>?_
 refine uy (m9 X hx (by decide) (.inr (B ("tuple",.type "tuple") (by decide))) ?_)
 rw[ab7 rfl];refine abp rfl (qf (ju (qq ?_)));refine wpAny_GeneratorExp_make (M:=model prog w) S.co (closureFor_none S.free:closureFor scope env=pure []) S.cell S.n0 S.kind (by have:=R.depth;exact O.ao2 this) ?_ (fun _=>rfl)
 refine uy (m9 X hz (by decide) (.inr (B ("zip",.type "zip") (by decide))) ?_)
 rw[uz hs1 hs2];refine abp rfl (qf (ju (gv (h₁ R X hd1) (fun v s₁ g1 e1' q1=>ju (gv (h₂ R (X.mono e1') hd2) (fun v' s₂ g₂ e2' q2=>q9 ?_))))))
 have q1:=q1.mono prog w e2'.gle;obtain⟨a1,vs,mm,rfl,ea,ra⟩:=q1;obtain⟨a2,us,mm',rfl,eb,rb⟩:=q2;have E2:=e1'.trans e2';have X2:=X.mono E2;refine bgf (ly (X2.sok.view _ _ ea)) (ly (X2.sok.view _ _ eb)) fun h3 hzip hTI hTO hi1 hi2 hsz3 hk3=>?_
 have E₃:Ext G g₂ s₂ g₂ {s₂ with heap:=h3}:=by
  have:=Ext.grow (h':=h3) (tk:=s₂.toks) X2.sok hk3 (ay _);exact this
 have X3:=X2.mono E₃;refine amk hzip ⟨X3.sok.gok.lim,?_⟩;refine wm (bdd H X3.sok (X.code hcode)) (fun code s4 E₄=>?_)
 have X4:=X3.mono E₄;refine a92 H.bm fun bm ob hbm hbne hbo hbc hbd hbdat=>?_
 have hbP:bm≠G.P:=by rintro rfl;obtain⟨o,vs,e,dd,_⟩:=G.oP;rw[hbo]at e;cases e;rw[hbdat]at dd;exact nomatch dd
 refine wpAny_builtinsFor (bm:=bm) (o:=ob) (m:=G.mg) (by rw[X.globals];exact X4.sok.gok.ns) hbm hbne (X4.sok.gok.keep bm ob hbP hbo) hbc hbd hbdat ?_
 intro h' hn' hs';generalize hN:s₂.heap.objs.size=N at hzip hTI hTO hi1 hi2 hsz3 hn' |-;have fr2:∀a,N<=a->s₂.heap.get? a=none:=fun a ha=>aaf (by rw[hN];exact ha)
 have frs:∀a,N<=a->s.heap.get? a=none:=fun a ha=>E2.back (fr2 a ha)
 have hgz:∀a,a=N+4\/a=N+2\/a=N+3\/a=N\/a=N+1->N<=a:=fun a ha=>by rcases ha with h|h|h|h|h<;>rw[h]<;>simp
 have hgn:∀a,N<=a->g₂.f a=none:=fun a ha=>gu X2.sok (fr2 a ha)
 have up4:∀a o,N<=a->h3.get? a=some o->s4.heap.get? a=some o:=fun a o ha e=>E₄.heap a o ((fun a ha=>(new_priv X.sok (frs a ha)).2:∀a,N<=a->a≠G.P) a ha) e
 have hNle:N+5<=s4.heap.objs.size:=by
  have:=il (up4 _ _ (by simp) hzip);exact this
 have W0:∀A':az,A'.handled=none->WalksU prog w A' (N+4) (ed s4.heap.objs.size) [N+4,N+3,N,N+1] l.length _ _ _:=fun A' hA=>
  a5k G (aro N) (fun a ha=>hgn a (hgz a ha)) ea ra eb rb (O.ck [_,_,_,_] [.eq .x2 .x3,.eq .x0 .x2,.eq .x1 .x3] (.eq .x0 .x1) 101101810100119 rfl hlen ll lm:l.length=m.length) hA (ed s4.heap.objs.size) (fun a o e=>y0.mpr (il (X4.sok.view a o e)))
   (fun a ha=>y0.mpr (i7 (by rcases ha with h|h|h|h|h<;>rw[h]<;>simp) hNle))
 have hsz':h'.objs.size=s4.heap.objs.size+1:=by rw[hs'.1,mz]
 have keep':∀b o,s4.heap.get? b=some o->h'.get? b=some o:=fun b o e=>hs'.extBut b o (k8 (il e)) (b4 _ e)
 generalize hgo:({cls:=.type "generator",data:=.fields #[.int s4.gens.size 0,.str "<genexpr>" (s4.toks+1),.str (env.qual ++ "<genexpr>") (s4.toks+1+1)]}:Obj)=go;have hgf:go.isFreed=false:=by rw[<-hgo];rfl
 have keep5:∀b o,s4.heap.get? b=some o->(h'.push go).get? b=some o:=fun b o e=>b4 _ (keep' b o e)
 generalize hgs:GenState.fresh _=gs;intro htk;generalize hs5:({s4 with gens:=s4.gens.push gs,toks:=s4.toks+1+1+1,heap:=h'.push go}:af)=s5 at htk |-;have hclt:cStatics<s4.heap.objs.size:=let⟨_,hn,_⟩:=X4.sok.gok.lim;hn.lt;have hcN:cStatics<N:=by
  have:∃mc,s₂.heap.Ns cStatics mc:=let⟨mc,a,_⟩:=X2.sok.gok.lim;⟨mc,a⟩;obtain⟨mc,hc⟩:=this;have:=hc.lt;rw[hN]at this;exact this
 have haf:h'.objs.size∉ed s4.heap.objs.size:=fun hm=>by have:=y0.mp hm;exact absurd (ur (abf _) (hsz'▸this)) (adt _)
 have hzN:∀a∈[N+4,N+3,N,N+1],N<=a:=
  o5.2 ⟨kn ..,o5.2 ⟨kn ..,o5.2 ⟨ay _,o5.2 ⟨kn ..,fun _ h=>nomatch h⟩⟩⟩⟩
 have hbm:∀b∈ed s4.heap.objs.size,b<s4.heap.objs.size:=fun b hb=>y0.mp hb
 have hcm:=y0.mpr hclt;generalize ed s4.heap.objs.size=fp at W0 haf hbm hcm;generalize [N+4,N+3,N,N+1]=cw at W0 hzN
 let F:Nat->ae->Prop:=fun i v=>∃t,v=.int (xs.getD i 0+ys.getD i 0) t
 have WS:=WalksS.genexpQ (prog:=prog) (w:=w) (A:=A.in4) R.hh h'.objs.size s4.gens.size s4.heap.objs.size fp cw (fun _=>true) l.length F (by rw[hsz'];exact amj _:h'.objs.size≠s4.heap.objs.size) haf (W0 A R.hh).sub (by have:=R.depth;show A.depth<_;exact O.ao2 this) hcm (k8 hclt) (fun hm=>absurd hcN (gi.mpr (hzN _ hm)))
 have hkin:∀x,(genEnv scope [] s4.heap.objs.size code builtinsNs env).kindOf x=scope.names.lookup x:=fun _=>rfl
 have GA:GenAt prog w A.in4 h'.objs.size s4.gens.size s4.heap.objs.size fp cw (fun _=>true) l.length F 0 s5:=by
  rw[<-hs5];refine GenAt.freshT (A:=A.in4) (elt:=.BinOp (.Name (aj "i") pi) .Add (.Name (aj "j") pj) bp) (iter:=.Call (.Name "zip" zp) [e1,e2] [] zq) (pa:=pa) (pb:=pb) (pt:=pt) (kt:=kt) (ifs:=[]) (scope:=scope) (pos:=gp) (cenv:=genEnv scope [] s4.heap.objs.size code builtinsNs env) (m:=fun y=>if y = ".0"then some (.ref (N+4))else none) R.hh W0 (fun i vals ⟨x,y,e,_⟩=>⟨x,y,e⟩) (show aj "i" ≠ aj "j" by decide) (fun _=>true) F
   (by rw[hkin];exact S.ni) (by rw[hkin];exact S.nj) (by simp[genEnv,S.kind]) S.co (fun hm=>adt _ (hbm _ hm)) ?_ ?_ ?_ ?_ (hn'.push _) (X4.sok.gok.lim.keeps keep5)
  .refine⟨fun A' E' i va vb s2' m2 hA hP hn2 h1 h2 hk=>wpAny_tests_nil ⟨rfl,s2'.heap,s2'.toks,rfl,fun _ _ e=>e⟩,fun A' E' i va vb s2' m2 hA hP _ hn2 h1 h2 hk=>?_⟩
   obtain⟨x,y,he,hi1',hi2',r1,r2⟩:=hP;obtain⟨rfl,rfl⟩:va=x/\vb=y:=by simpa using he
   have i1:i<xs.length:=O.ck [_,_,_,_,_] [.eq .x1 .x2,.eq .x3 .x1,.eq .x4 .x2,.lt .x0 .x3] (.lt .x0 .x1) 100011 rfl hlen ll lm hi1';have i2:i<ys.length:=O.ck [_,_,_,_,_] [.eq .x2 .x1,.eq .x3 .x2,.eq .x4 .x1,.lt .x0 .x3] (.lt .x0 .x1) 10100011 rfl hlen ll lm hi1';rw[hl i hi1' i1]at r1;rw[hm i hi2' i2]at r2;obtain⟨t,rfl⟩:=r1;obtain⟨u,rfl⟩:=r2;refine wm (bem (cenv:=genEnv scope [] s4.heap.objs.size code builtinsNs env) S.kind (by rw[hkin];exact S.ni) (by rw[hkin];exact S.nj) hn2 h1 h2) (fun y s₃ ⟨⟨t',e⟩,hK⟩=>⟨⟨t',?_⟩,hK⟩)
   rw[e,yv,yv,gq i1,gq i2];rfl
  .rw[<-hgo];exact⟨_,_,_,dw _ rfl,rfl,rfl,rfl⟩
  .rw[<-hgs];exact avs ..
  .refine(W0 A R.hh).frame _ _ _ ⟨X4.sok.view,up4 _ _ (by simp) hzip,up4 _ _ (by simp) hTI,⟨_,_,up4 _ _ (by simp) hTO⟩,hi1.at fun o e=>up4 _ o (ay _) e,hi2.at fun o e=>up4 _ o (by simp) e⟩ fun b _ o e=>keep5 b o e
 refine q9 ?_;have hpl:(passing (fun _=>true) l.length 0).length=l.length:=by rw[ay8];simp
 refine qq (call_tuple_gen (A:=A) (WalksS.in4_3 WS) (fun i s st=>let⟨o,_,_,e,hc,_⟩:=st.1;⟨o,e,hc⟩) GA (fun b hb=>?_) (m4 ..) (fun s₆ acc hmv hacc htk6=>?_) (by rw[hpl];have:=sizeLine_eq;exact O.ck [_,_,_,_,_,_] [.eq .x2 .x3,.le .x2 (.c 1000),.eq .x0 .x2,.eq .x4 .x3,.eq .x5 .x0,.eq .x1 (.c 16777216)] (.le .x0 .x1) 1100000011 rfl hlen hmax ll lm hpl this))
 .rw[(by rw[<-hs5];exact mz ..:s5.heap.objs.size=h'.objs.size+1)]
  rcases dt.mp hb with h|hb
  .rw[h];exact abf _
  rcases dt.mp hb with h|hb
  .rw[h,hsz'];exact ahv (abf _)
  .rw[hsz'];exact ahv (ahv (hbm _ hb))
 .have h5:∀b o,s4.heap.get? b=some o->s5.heap.get? b=some o:=by rw[<-hs5];exact keep5
  have old:∀a o,a<N->s4.heap.get? a=some o->s₆.heap.get? a=some o:=fun a o ha e=>hmv.heap a o (fun hm=>by
   rcases dt.mp hm with h|hm
   .rw[h]at e;rw[dq]at e;exact nomatch e
   .exact absurd ha (gi.mpr (hzN _ hm))) (h5 a o e)
  have hgq:GenOnlyQ s4.gens.size (s4.gens.push gs) s₆.gens:=(by rw[<-hs5]:s5.gens=s4.gens.push gs)▸hmv.gens
  refine⟨⟨fun a=>if a=s₆.heap.objs.size then some {cls:=.type "tuple",data:=.seq acc}else g₂.f a,g.lim⟩,bd0 X.sok (E2.trans (E₃.trans E₄)) X4.sok frs hgn old (aw htk htk6) (hmv.os.trans (by rw[<-hs5])) (hgq.bare (AllBare.push X4.sok.bare (by rw[<-hgs];rfl:gs.bare=true))) (bc9 hgq),?_⟩
  simp only[Rep];obtain⟨hac,hit⟩:=hacc;exact⟨_,acc.toList,0,rfl,by rw[if_pos rfl];simp[c8],a6u hlen ((ll.symm).trans rfl) (hac.trans hpl) hit⟩
noncomputable def akx:PS->Option Out:=
 (ag (c7 "new_callers" (kD (.dict []))) (ag (i8 (aci (var "target")) (cz ["func", "caller"]) (ag (jj "new_callers" (var "func") (var "caller")) nxt)) (ag (i8 (aci (var "source")) (cz ["func", "caller"]) (ag (ifF (cmp inD (var "func") (aa "new_callers")) (ag (ifF (toB (ofB (tst aab (var "caller")))) (ag (jj "new_callers" (var "func") (zc (var "caller") (sub (aa "new_callers") (var "func")))) nxt) (ag (m6 "new_callers" jo (var "func") (var "caller")) nxt)) nxt) (ag (jj "new_callers" (var "func") (var "caller")) nxt)) nxt)) (bw "new_callers" (ag (ej (var "new_callers")) nxt)))))
def bfp{G:Gl prog w}(B:ey G)(H:ym G):gh G (eu 9) n (en 9) (akx):=
 (bg (aet af1 (.inl (by decide+kernel)) (fun _=>rfl)) (bg (xd (akd av (fun _=>rfl) rfl) (qr (.cons (.inl (by decide+kernel)) (.cons (.inl (by decide+kernel)) .nil))) (bg (xc av av (fun _=>rfl)) cj) (fun _ _=>rfl)) (bg (xd (akd av (fun _=>rfl) rfl) (qr (.cons (.inl (by decide+kernel)) (.cons (.inl (by decide+kernel)) .nil))) (bg (j6 (ig aq3 av cy) (bg (j6 (ya (bfg B av rfl (by decide+kernel) (by decide+kernel))) (bg (xc (be3 B H av (el cy av) rfl rfl ⟨rfl,rfl,(by decide+kernel),(by decide+kernel),(by decide+kernel),(by decide+kernel),(by decide+kernel)⟩ (by decide+kernel) (by decide+kernel) (by decide+kernel)) av (fun _=>rfl)) cj) (bg (air ack av av (fun _ _ _=>rfl)) cj)) cj) (bg (xc av av (fun _=>rfl)) cj)) cj) (fun _ _=>rfl)) (oq "new_callers" (bg (jx av) cj)))))
noncomputable def tk1(s:af):af:={s with toks:=s.toks+1}
def InCallC.up{s:af}{L:ai}{cm:Str->Option ae}{cs:List (Str×ai)}(x:InCallC s L m cs cm s₁):InCallC (tk1 s) L m cs cm (tk1 s₁):=by
 obtain⟨⟨⟨h,t,rfl⟩,a,b,c⟩,d,e,f⟩:=x;exact⟨⟨⟨h,t+1,rfl⟩,a,b,c⟩,d,e,f⟩
variable{i:Int}
def a74{lp ap:Pos}{fs:List (PS->Option D)}(h:j1 G sc n es fs)(hz:fs.length<=999)(hx:mq sc x)
  {A:az}   {g:ah} {s:af}  {out:Out} (hs:swapsWith (.List (.Constant (.int i) k cp::es) lp) (some (.Name (aj x) p)) ap.line env=pure false)
  (R:dy A n) (F:Fr G sc env W g (tk1 s) σ) (y:b3 x (lst (kD (.int i)::fs)) σ=some out) :
  wpAny (model prog w) A (exec (.Assign [.Name (aj x) p] (.List (.Constant (.int i) k cp::es) lp) ap) env) (ud G sc env W g (tk1 s) out) NoE s:=by
 refine b9 y fun d hd e=>e▸?_
 refine b9 hd fun ds hds e=>e▸?_
 refine aq hds ?_;clear hds;intro d0 h0 hds;cases h0;refine b9 hds fun r hr e=>e▸?_
 refine abi ?_ hs;refine List_ ?_;rw[tc rfl];refine ju (amx (k:=k) (pos:=cp) ?_);refine gL (aim h R F.eok hr) (fun vs s₂ g₂ e2 q2=>?_)
 have X2:=e2.sok F.eok.sok;have hl:(ag1 i s.toks::vs).length<=sizeLine:=by
  exact dh▸q2.length▸(aqn hr)▸(aw (abb hz) (by decide))
 refine al5 (Q:=fun v s₃=>wpAny (model prog w) A (storeName env (aj x) v) (fun _=>ud G sc env W g (tk1 s) (.next (σ.set x (.list (.int i::r)))) .next) NoE s₃) ?_ hl
 obtain⟨g3,e3,q3⟩:bj G g₂ s₂ (.list (.int i::r)) (.ref s₂.heap.objs.size) {s₂ with heap:=s₂.heap.push (c8 "list" (ag1 i s.toks::vs) 0),toks:=s₂.toks}:=by
  refine bj.newObj X2 (dq _) (dw _ rfl) (fun b o e=>b4 _ e) ?_
  refine⟨_,ag1 i s.toks::vs,0,rfl,by rw[bu.self],?_⟩
  exact⟨⟨_,rfl⟩,q2.mono prog w (bu.le (gu X2 (dq _)))⟩
 have e:=e2.trans e3;exact s8 (F.keep e) hx fun s' S=>⟨rfl,W,g3,e.mv.trans S.mv (fun a h=>.inl h),fun a h=>.inl h,S.set (F.keep e) q3⟩
def bdf{pm cd doc:ae}{o:Obj}{lp ap:Pos}{fs:List (PS->Option D)}
  (hP:a≠G.P) (ho:G.hB.get? a=some o) (hdata:o.data=.func (jh name params (.Assign [.Name (aj x) p] (.List (.Constant (.int i) k cp::es) lp) ap::rest) sc pm cd doc))
  (hcode:sc.names.lookup (aj "new_callers")=some .local->cd=G.cd) (hcd:∀h,GOK G h->h.CodeRec cd name) (S:agg sc xs) (hbind:∀vs:List ae,vs.length=xs.length->bindArgs (jh name params (.Assign [.Name (aj x) p] (.List (.Constant (.int i) k cp::es) lp) ap::rest) sc pm cd doc) ⟨vs,[]⟩=pure ((xs.map aj).zip vs)) (hco:sc.isCoroutine=false) (hgen:sc.isGenerator=false)
  (h:j1 G sc n es fs) (hz:fs.length<=999) (hx:mq sc x) (hs:∀env,swapsWith (.List (.Constant (.int i) k cp::es) lp) (some (.Name (aj x) p)) ap.line env=pure false) (hr:gh G sc n rest H)
  {A:az} {g:ah} {s:af} {vs:List ae}   (R:dy A (n+1)) (X:SOK G g (tk1 s)) (r:a9 prog w g vs ds) (y:fnF xs (ag (b3 x (lst (kD (.int i)::fs))) H) ds=some d) :
  wpAny (model prog w) A (call (.ref a) vs) (bj G g (tk1 s) d) NoE s:=by
 delta fnF at y;split at y
 .rename_i hlen;refine b9 y fun out hout e=>e▸?_
  have hvl:vs.length=xs.length:=by exact r.length▸hlen
  refine adl ?_;refine a3e (o:=o) (by have:=R.depth;exact O.ae8 this) (X.gok.keep a o hP ho) hdata X.gok.lim (hcd _ X.gok) rfl (hbind vs hvl) rfl (fun p hp=>?_) (fun s₁ ht IC=>?_) hco hgen S.kind
  .have hm:=(ahl hp).1;obtain⟨x,hx,e⟩:=ia.mp hm;refine e.symm▸?_;rcases S.args x hx with h|h
   .exact .inl h
   .refine .inr ⟨h,?_⟩;obtain⟨c,hc⟩:=aal sc.names (s.heap.objs.size+1) [] _ (.inl (mem_of_lookup h));obtain⟨c',hc'⟩:=z6 hc;show((cellsFrom (s.heap.objs.size+1) sc.names []).lookup _).isSome=true;rw[hc'];rfl
  .obtain⟨e1,W,hW,F1⟩:=aq8 (env:=callEnvC (jh name params (.Assign [.Name (aj x) p] (.List (.Constant (.int i) k cp::es) lp) ap::rest) sc pm cd doc) s.heap.objs.size a) (s:=tk1 s) (s₁:=tk1 s₁) X S rfl hcode rfl hvl r (Mine.InCallC.up IC) (abb ht);have R':dy (A.deeper (callEnvC (jh name params (.Assign [.Name (aj x) p] (.List (.Constant (.int i) k cp::es) lp) ap::rest) sc pm cd doc) s.heap.objs.size a)) n:=⟨R.hh,by have:=R.depth;simp only[ahe];exact O.ae7 this,by have:=R.units;simp only[ahe];exact O.azt this⟩
   refine aq hout ?_;clear hout;intro o1 ho1 hout;refine atm (wm (a74 h hz hx (hs _) R' F1 ho1) (fun f s' q=>?_))
   obtain⟨d1,hd1,rfl⟩:=ave.mp ho1;obtain⟨rfl,W',g',m,hW',Fr'⟩:=q;refine wm (hr R' Fr' hout) (fun f s'' z=>?_)
   have z:=z.from m hW' fun a h=>m.back h
   induction out with
   |next σ'=>
    obtain⟨rfl,W',g',m,_,_⟩:=z;exact⟨g',e1.then m hW,rfl⟩
   |ret d=>
    obtain⟨v,g',rfl,m,q⟩:=z;exact⟨g',e1.then m hW,q⟩
 .exact nomatch y
end Mine
namespace Mine.P
section
open PySem.F
def a3r:PlainAttrs "re.Pattern":=
 ⟨⟨"object.__getattribute__",by rw[aa9,abt];kernel_rfl,by decide+kernel⟩,by rw[aa9,abt];kernel_rfl⟩
def ab0:Slot "re.Pattern" "sub" "re.Pattern.sub":=
 .of (owner := "re.Pattern") (n := "sub") (by rw[aa9,abt];kernel_rfl) (by decide+kernel) (by decide+kernel) (by decide+kernel)
  (by first|exact .inl (by decide+kernel)|exact .inr (by decide+kernel)) (by rw[isSubtype_type];kernel_rfl)
def aw2:typeOf (.builtin "re.Pattern.sub")=pure (.type "method_descriptor"):=by show builtinType _=_;rw[builtinType_eq_fast];kernel_rfl
def a2j:entryFor table "re.Pattern.sub" = some Builtin.«re.Pattern.sub»:=amh (by kernel_rfl)
def bef:entryFor table "re.Pattern.sub.loop" = some Builtin.«re.Pattern.sub.loop»:=amh (by kernel_rfl)
def a3y(a b c:ae):argsOk "re.Pattern.sub" ⟨[a,b,c],[]⟩:=by
 kernel_rfl
end
section
open PySem.Sre PySem.Sre.M
noncomputable def q5:Array Nat:=#[14,4,0,1,1,6,1,16,46,1]
noncomputable def oj:Array Nat:=#[14,9,4,1,2,16,10,16,13,0,7,7,16,13,16,10,15,18,5,16,10,15,13,11,16,13,5,5,0,16,10,1,15,2,0,1]
def To(k:Nat)(m:ib)(P:ib->Prop):Prop:=(m.runFor k).outcome.isSome=true/\P (m.runFor k)
variable{m:ib}
def aiv(h:m.outcome.isSome=true):∀n,m.runFor n=m
 |0=>rfl
 |n+1=>by show(if m.outcome.isSome=true then m else _)=m;rw[if_pos h]
def aoc(a b:Nat):∀m:ib,m.runFor (a+b)=(m.runFor a).runFor b:=by
 induction a with
 |zero=>intro m;rw[sv];rfl
 |succ a ih=>
  intro m;rw[Nat.succ_add];show(if m.outcome.isSome=true then m else runFor (a+b) m.step)=(if m.outcome.isSome=true then m else runFor a m.step).runFor b
  split
  .rename_i h;rw[aiv h]
  .exact ih _
variable{k:Nat}
def To.mono{k':Nat}{P:ib->Prop}(h:To k m P)(hk:k<=k'):To k' m P:=by
 obtain⟨d,rfl⟩:=Nat.exists_eq_add_of_le hk;delta To;rw[aoc,aiv h.1];exact h
def f6{P:ib->Prop}(h0:m.outcome=none)(h:To k m.step P):To (k+1) m P:=by
 unfold To at h |-;have:m.runFor (k+1)=m.step.runFor k:=by
  show(if m.outcome.isSome=true then m else _)=_
  rw[h0];rfl
 exact this▸h
def aej{P:ib->Prop}(h:m.outcome.isSome=true)(p:P m):To k m P:=by
 delta To;rw[aiv h];exact⟨h,p⟩
variable (t:Array Nat) (lim:Nat)
noncomputable def A1(s:Nat)(pc pos handed:Nat)(first:Bool)(fr:List m5)(wt:Nat)(ans:Option Bool)(seen:ef)(oc:Option Sre.Outcome):ib:=
 {code:=q5,text:=t,lim,start:=s,lastStart:=lim,pc,pos,handed,outermost:=first,marks:=#[],frames:=fr,weight:=wt,answer:=ans,seen,outcome:=oc}
noncomputable def f1(s:Nat)(first:Bool):m5:={wait:=.nextStart,pc:=5,pos:=s,outermost:=first}
noncomputable def bol(s:Nat):Bool:=s==0 ||t.getD (s - 1) 0==10
variable{first:Bool}
def a35{s:Nat}{seen:ef}:∃seen',(A1 t lim s 5 s s first [f1 s first] 1 none seen none).step=if bol t s=true then A1 t lim s 7 s s first [f1 s first] 1 none seen' none else A1 t lim s 5 s s first [f1 s first] 1 (some false) seen' none:=⟨_,rfl⟩
def a34{s:Nat}{seen:ef}:∃seen',(A1 t lim s 7 s s first [f1 s first] 1 none seen none).step=if s<lim/\t.getD s 0=46 then A1 t lim s 9 (s+1) s first [f1 s first] 1 none seen' none else A1 t lim s 7 s s first [f1 s first] 1 (some false) seen' none:=by
 refine⟨seen.add 16,?_⟩;show M.exec (A1 t lim s 7 s s first [f1 s first] 1 none seen none)=_;by_cases h:s<lim
 .have h':¬s>=lim:=by exact wd.2 (by assumption)
  show(if s>=lim then A1 t lim s 7 s s first [f1 s first] 1 (some false) (seen.add 16) none else
   match(aa0 (t.getD s 0==46,seen.add 16):Except String (Bool×ef))with
   |.error why=>M.stick (A1 t lim s 7 s s first [f1 s first] 1 none (seen.add 16) none) why
   |.ok (false,sn)=>A1 t lim s 7 s s first [f1 s first] 1 (some false) sn none
   |.ok (true,sn)=>A1 t lim s 9 (s+1) s first [f1 s first] 1 none sn none)=_
  rw[if_neg h'];by_cases h2:t.getD s 0=46
  .rw[if_pos ⟨h,h2⟩,h2];rfl
  .rw[if_neg (fun q=>h2 q.2)]
   have:(t.getD s 0==46)=false:=if_neg (by assumption)
   rw[this]
 .have h':s>=lim:=by exact gi.1 (by assumption)
  rw[if_neg (fun q=>h q.1)]
  show(if s>=lim then A1 t lim s 7 s s first [f1 s first] 1 (some false) (seen.add 16) none else _)=_
  rw[if_pos h']
def bh2{s:Nat}{seen:ef}:∃seen',(A1 t lim s 9 (s+1) s first [f1 s first] 1 none seen none).step=A1 t lim s 9 (s+1) (s+1) first [f1 s first] 1 (some true) seen' none:=by
 refine⟨seen.add 1,?_⟩;show(if(first && (false ||(false && _)))=true then _ else A1 t lim s 9 (s+1) (s+1) first [f1 s first] 1 (some true) (seen.add 1) none)=_
 rw[if_neg (by cases first<;>simp)]
variable{pos:Nat}
def bh1{s pc handed:Nat}{seen:ef}:(A1 t lim s pc pos handed first [f1 s first] 1 (some true) seen none).step=A1 t lim s 5 s handed first [] 0 (some true) seen none:=rfl
def bh4{s pc handed:Nat}{seen:ef}:(A1 t lim s pc pos handed first [] 0 (some true) seen none).step=A1 t lim s pc pos handed first [] 0 (some true) seen (some .matched):=rfl
def a33{s pc handed:Nat}{seen:ef}:(A1 t lim s pc pos handed first [f1 s first] 1 (some false) seen none).step =
  if s<lim then A1 t lim (s+1) 5 (s+1) (s+1) false [f1 (s+1) false] 1 none seen none else A1 t lim s 5 s handed first [] 0 (some false) seen none:=by
 show(if s<lim then _ else _)=_
 split<;>rfl
def bh3{s pc handed:Nat}{seen:ef}:(A1 t lim s pc pos handed first [] 0 (some false) seen none).step=A1 t lim s pc pos handed first [] 0 (some false) seen (some .failed):=rfl
noncomputable def nx(p:Nat->Bool):(d s:Nat)->Option Nat
 |0,_=>none
 |d+1,s=>if p s then some s else nx p d (s+1)
def ae9(p:Nat->Bool)(d s:Nat):nx p (d+1) s=if p s then some s else nx p d (s+1):=rfl
noncomputable def dot(s:Nat):Bool:=bol t s && t.getD s 0==46
def Found(p:Nat->Bool)(len:Nat->Nat)(lim s:Nat)(m:ib):Prop:=
 match nx p (lim - s) s with
 |some k=>m.outcome=some .matched/\m.start=k/\m.handed=k+len k
 |none=>m.outcome=some .failed
def run1:∀(d s:Nat),lim - s=d->s<=lim->∀(first:Bool) (seen:ef),To (6 * d+6) (A1 t lim s 5 s s first [f1 s first] 1 none seen none) (Found (dot t) (fun _=>1) lim s):=by
 intro d;induction d with
 |zero=>
  intro s hd hs first seen;have hsl:¬s<lim:=O.ck [_,_] [.eq (.s .x1 .x0) (.c 0)] (.n (.lt .x0 .x1)) 100181019 rfl hd;have fin:∀(k pc pos:Nat) (seen:ef),To (k+2) (A1 t lim s pc pos s first [f1 s first] 1 (some false) seen none) (Found (dot t) (fun _=>1) lim s):=fun k pc pos seen=>by
   refine f6 rfl ?_;rw[a33,if_neg hsl];refine f6 rfl ?_;rw[bh3];refine aej rfl ?_;delta Found;rw[hd];rfl
  refine To.mono (f6 (k:=5) rfl ?_) (ay _);obtain⟨s1,e1⟩:=a35 t lim (s:=s) (first:=first) (seen:=seen);refine e1▸?_;split
  .refine f6 (k:=4) rfl ?_;obtain⟨s2,e2⟩:=a34 t lim (s:=s) (first:=first) (seen:=s1);rw[e2,if_neg (fun q=>hsl q.1)]
   exact fin 2 _ _ _
  .exact fin 3 _ _ _
 |succ d ih=>
  intro s hd hs first seen;have hsl:s<lim:=O.ck [_,_,_] [.eq (.s .x1 .x0) (.a .x2 (.c 1)),.le .x0 .x1] (.lt .x0 .x1) 10081019 rfl hd hs;have again:∀(pc pos:Nat) (seen:ef),dot t s=false->To (6 * d+7) (A1 t lim s pc pos s first [f1 s first] 1 (some false) seen none) (Found (dot t) (fun _=>1) lim s):=fun pc pos seen hq=>by
   refine f6 rfl ?_;rw[a33,if_pos hsl];have:=ih (s+1) (O.azr hd hsl) (O.o109 hsl) false seen;have e:Found (dot t) (fun _=>1) lim s=Found (dot t) (fun _=>1) lim (s+1):=by
    funext m
    delta Found;rw[hd,show lim - (s+1)=d from O.azr hd hsl,ae9,hq];rfl
   exact e▸this
  refine To.mono (f6 (k:=6 * d+9) rfl ?_) (O.ck [_] [] (.le (.a (.a (.m 6 .x0) (.c 9)) (.c 1)) (.a (.m 6 (.a .x0 (.c 1))) (.c 6))) 1 rfl);obtain⟨s1,e1⟩:=a35 t lim (s:=s) (first:=first) (seen:=seen);refine e1▸?_;refine if hb:bol t s=true then ?_ else ?_
  .refine(if_pos hb)▸?_;refine To.mono (f6 (k:=6 * d+7) rfl ?_) (O.ck [_] [] (.le (.a (.a (.m 6 .x0) (.c 7)) (.c 1)) (.a (.m 6 .x0) (.c 9))) 1 rfl);obtain⟨s2,e2⟩:=a34 t lim (s:=s) (first:=first) (seen:=s1);refine e2▸?_;refine if h46:t.getD s 0=46 then ?_ else ?_
   .rw[if_pos ⟨hsl,h46⟩];obtain⟨s3,e3⟩:=bh2 t lim (s:=s) (first:=first) (seen:=s2);refine To.mono (f6 (k:=2) rfl ?_) (O.ck [_] [] (.le (.a (.c 2) (.c 1)) (.a (.m 6 .x0) (.c 7))) 1 rfl);refine e3▸?_;refine f6 (k:=1) rfl ?_;rw[bh1];refine f6 (k:=0) rfl ?_;rw[bh4];refine aej rfl ?_;delta Found;rw[hd,ae9,show dot t s=true from by delta dot;rw[hb,h46];rfl]
    exact⟨rfl,rfl,rfl⟩
   .rw[if_neg (fun q=>h46 q.2)]
    exact again _ _ _ (by delta dot;rw[hb];exact if_neg (by assumption))
  .refine(if_neg hb)▸?_;exact To.mono (again _ _ _ (by delta dot;simp[hb])) (O.ck [_] [] (.le (.a (.m 6 .x0) (.c 7)) (.a (.m 6 .x0) (.c 9))) 1 rfl)
def a71(s:Nat)(hs:s<=t.size):To (6 * t.size+12) (ads q5 t 0 s t.size false) (Found (dot t) (fun _=>1) t.size s):=by
 obtain⟨X,h1,h2,h3,e⟩:=(⟨_,rfl,rfl,rfl,rfl⟩:∃X:ib,X.outcome=none/\X.answer=some false/\X.frames=[]/\ads q5 t 0 s t.size false=(if(decide (s > t.size) ||decide (t.size - s<1))=true then X else A1 t t.size s 5 s s true [f1 s true] 1 none (({}:ef).add 14) none))
 refine e▸?_;by_cases h:s<t.size
 .rw[if_neg (by simp;exact O.ck [_,_] [.lt .x0 .x1] (.an (.le .x0 .x1) (.n (.eq (.s .x1 .x0) (.c 0)))) 11008101098119 rfl h)]
  exact To.mono (run1 t t.size _ s rfl hs true _) (O.ck [_,_] [.lt .x1 .x0] (.le (.a (.m 6 (.s .x0 .x1)) (.c 6)) (.a (.m 6 .x0) (.c 12))) 1819 rfl h)
 .rw[if_pos (by simp;exact O.ck [_,_] [.le .x1 .x0,.n (.lt .x1 .x0)] (.o (.lt .x0 .x1) (.eq (.s .x0 .x1) (.c 0))) 18198118100199 rfl hs h)]
  refine To.mono (f6 (k:=0) h1 ?_) (O.ck [_,_] [.le .x1 .x0,.n (.lt .x1 .x0)] (.le (.a (.c 0) (.c 1)) (.a (.m 6 .x0) (.c 12))) 1 rfl hs h);have e2:X.step={X with outcome:=some .failed}:=by
   obtain⟨c,tx,l,st,ls,wt,ma,pc,ps,hn,om,mk,lm,li,lo,inn,fr,wg,an,sn,oc⟩:=X;dsimp only at h1 h2 h3;subst h1 h2 h3;rfl
  refine e2▸?_;refine aej rfl ?_;delta Found;rw[show t.size - s=0 from by exact so (gi.1 (by assumption))]
  rfl
noncomputable def B(s pc pos handed:Nat)(out:Bool)(fr:List m5)(wt:Nat)(ans:Option Bool)(seen:ef)(oc:Option Sre.Outcome):ib:=
 {code:=oj,text:=t,lim,start:=s,lastStart:=lim,pc,pos,handed,outermost:=out,marks:=#[],frames:=fr,weight:=wt,answer:=ans,seen,outcome:=oc}
noncomputable def f3(s:Nat)(first:Bool):m5:={wait:=.nextStart,pc:=10,pos:=s,outermost:=first}
noncomputable def fb(k s:Nat)(first:Bool):m5:={wait:=.nextBranch,pc:=k,pos:=s,outermost:=first,kept:={lastmark := -1,lastindex := -1,whole:=false,marks:=#[]}}
noncomputable def fl(s:Nat)(first:Bool):m5:={wait:=.lookNot,pc:=26,pos:=s,outermost:=first,kept:={lastmark := -1,lastindex := -1,whole:=false,marks:=#[]}}
def bhf{s:Nat}{seen:ef}:∃seen',(B t lim s 10 s s first [f3 s first] 1 none seen none).step=B t lim s 12 s s first [fb 11 s first,f3 s first] 2 none seen' none:=⟨seen.add 7,rfl⟩
def a3q{s pc handed:Nat}{out:Bool}{seen:ef}:(B t lim s pc pos handed out [fb 11 s first,f3 s first] 2 (some false) seen none).step=B t lim s 19 s s first [fb 18 s first,f3 s first] 2 none seen none:=rfl
def bhg{s pc handed:Nat}{out:Bool}{seen:ef}:(B t lim s pc pos handed out [fb 18 s first,f3 s first] 2 (some false) seen none).step=B t lim s 24 s s first [fb 23 s first,f3 s first] 2 none seen none:=rfl
variable{fr:List m5}{wt:Nat}
def bhd{s handed:Nat}{out:Bool}{seen:ef}:(B t lim s 16 pos handed out fr wt none seen none).step=B t lim s 35 pos handed out fr wt none (seen.add 15) none:=rfl
def bhc{s handed:Nat}{out:Bool}{seen:ef}:(B t lim s 21 pos handed out fr wt none seen none).step=B t lim s 35 pos handed out fr wt none (seen.add 15) none:=rfl
def bhb{s handed:Nat}{out:Bool}{seen:ef}:(B t lim s 32 pos handed out fr wt none seen none).step=B t lim s 35 pos handed out fr wt none (seen.add 15) none:=rfl
def bg6{s handed:Nat}{seen:ef}:(B t lim s 26 pos handed first [fb 23 s first,f3 s first] 2 none seen none).step=B t lim s 29 pos pos false [fl pos first,fb 23 s first,f3 s first] 3 none (seen.add 5) none:=rfl
def bg5{s pc pos' handed:Nat}{out:Bool}{seen:ef}:(B t lim s pc pos handed out [fl pos' first,fb 23 s first,f3 s first] 3 (some false) seen none).step=B t lim s 32 pos' handed first [fb 23 s first,f3 s first] 2 none seen none:=rfl
def bg4{s handed:Nat}{seen:ef}:(B t lim s 35 pos handed first fr wt none seen none).step=B t lim s 35 pos pos first fr wt (some true) (seen.add 1) none:=by
 show(if(first && (false ||(false && _)))=true then _ else B t lim s 35 pos pos first fr wt (some true) (seen.add 1) none)=_
 rw[if_neg (by cases first<;>simp)]
def bg3{s pc handed:Nat}{out:Bool}{seen:ef}:(B t lim s pc pos handed out [fb k s first,f3 s first] 2 (some true) seen none).step=B t lim s k s handed first [f3 s first] 1 (some true) seen none:=rfl
def bg2{s pc handed:Nat}{out:Bool}{seen:ef}:(B t lim s pc pos handed out [f3 s first] 1 (some true) seen none).step=B t lim s 10 s handed first [] 0 (some true) seen none:=rfl
def bhe{s pc handed:Nat}{out:Bool}{seen:ef}:(B t lim s pc pos handed out [] 0 (some true) seen none).step=B t lim s pc pos handed out [] 0 (some true) seen (some .matched):=rfl
def bha{s handed:Nat}{out:Bool}{seen:ef}:(B t lim s 12 pos handed out fr wt none seen none).step =
  if pos<lim/\t.getD pos 0=13 then B t lim s 14 (pos+1) handed out fr wt none (seen.add 16) none else B t lim s 12 pos handed out fr wt (some false) (seen.add 16) none:=by
 by_cases h:pos<lim
 .have h':¬pos>=lim:=by exact wd.2 (by assumption)
  show(if pos>=lim then B t lim s 12 pos handed out fr wt (some false) (seen.add 16) none else
   match(aa0 (t.getD pos 0==13,seen.add 16):Except String (Bool×ef))with
   |.error why=>M.stick (B t lim s 12 pos handed out fr wt none (seen.add 16) none) why
   |.ok (false,sn)=>B t lim s 12 pos handed out fr wt (some false) sn none
   |.ok (true,sn)=>B t lim s 14 (pos+1) handed out fr wt none sn none)=_
  rw[if_neg h'];by_cases h2:t.getD pos 0=13
  .rw[if_pos ⟨h,h2⟩,h2];rfl
  .rw[if_neg (fun q=>h2 q.2)]
   have:(t.getD pos 0==13)=false:=if_neg (by assumption)
   rw[this]
 .have h':pos>=lim:=by exact gi.1 (by assumption)
  rw[if_neg (fun q=>h q.1)]
  show(if pos>=lim then B t lim s 12 pos handed out fr wt (some false) (seen.add 16) none else _)=_
  rw[if_pos h']
def bg9{s handed:Nat}{out:Bool}{seen:ef}:(B t lim s 14 pos handed out fr wt none seen none).step =
  if pos<lim/\t.getD pos 0=10 then B t lim s 16 (pos+1) handed out fr wt none (seen.add 16) none else B t lim s 14 pos handed out fr wt (some false) (seen.add 16) none:=by
 by_cases h:pos<lim
 .have h':¬pos>=lim:=by exact wd.2 (by assumption)
  show(if pos>=lim then B t lim s 14 pos handed out fr wt (some false) (seen.add 16) none else
   match(aa0 (t.getD pos 0==10,seen.add 16):Except String (Bool×ef))with
   |.error why=>M.stick (B t lim s 14 pos handed out fr wt none (seen.add 16) none) why
   |.ok (false,sn)=>B t lim s 14 pos handed out fr wt (some false) sn none
   |.ok (true,sn)=>B t lim s 16 (pos+1) handed out fr wt none sn none)=_
  rw[if_neg h'];by_cases h2:t.getD pos 0=10
  .rw[if_pos ⟨h,h2⟩,h2];rfl
  .rw[if_neg (fun q=>h2 q.2)]
   have:(t.getD pos 0==10)=false:=if_neg (by assumption)
   rw[this]
 .have h':pos>=lim:=by exact gi.1 (by assumption)
  rw[if_neg (fun q=>h q.1)]
  show(if pos>=lim then B t lim s 14 pos handed out fr wt (some false) (seen.add 16) none else _)=_
  rw[if_pos h']
def a3p{s handed:Nat}{out:Bool}{seen:ef}:(B t lim s 19 pos handed out fr wt none seen none).step =
  if pos<lim/\t.getD pos 0=10 then B t lim s 21 (pos+1) handed out fr wt none (seen.add 16) none else B t lim s 19 pos handed out fr wt (some false) (seen.add 16) none:=by
 by_cases h:pos<lim
 .have h':¬pos>=lim:=by exact wd.2 (by assumption)
  show(if pos>=lim then B t lim s 19 pos handed out fr wt (some false) (seen.add 16) none else
   match(aa0 (t.getD pos 0==10,seen.add 16):Except String (Bool×ef))with
   |.error why=>M.stick (B t lim s 19 pos handed out fr wt none (seen.add 16) none) why
   |.ok (false,sn)=>B t lim s 19 pos handed out fr wt (some false) sn none
   |.ok (true,sn)=>B t lim s 21 (pos+1) handed out fr wt none sn none)=_
  rw[if_neg h'];by_cases h2:t.getD pos 0=10
  .rw[if_pos ⟨h,h2⟩,h2];rfl
  .rw[if_neg (fun q=>h2 q.2)]
   have:(t.getD pos 0==10)=false:=if_neg (by assumption)
   rw[this]
 .have h':pos>=lim:=by exact gi.1 (by assumption)
  rw[if_neg (fun q=>h q.1)]
  show(if pos>=lim then B t lim s 19 pos handed out fr wt (some false) (seen.add 16) none else _)=_
  rw[if_pos h']
def bg8{s handed:Nat}{out:Bool}{seen:ef}:(B t lim s 24 pos handed out fr wt none seen none).step =
  if pos<lim/\t.getD pos 0=13 then B t lim s 26 (pos+1) handed out fr wt none (seen.add 16) none else B t lim s 24 pos handed out fr wt (some false) (seen.add 16) none:=by
 by_cases h:pos<lim
 .have h':¬pos>=lim:=by exact wd.2 (by assumption)
  show(if pos>=lim then B t lim s 24 pos handed out fr wt (some false) (seen.add 16) none else
   match(aa0 (t.getD pos 0==13,seen.add 16):Except String (Bool×ef))with
   |.error why=>M.stick (B t lim s 24 pos handed out fr wt none (seen.add 16) none) why
   |.ok (false,sn)=>B t lim s 24 pos handed out fr wt (some false) sn none
   |.ok (true,sn)=>B t lim s 26 (pos+1) handed out fr wt none sn none)=_
  rw[if_neg h'];by_cases h2:t.getD pos 0=13
  .rw[if_pos ⟨h,h2⟩,h2];rfl
  .rw[if_neg (fun q=>h2 q.2)]
   have:(t.getD pos 0==13)=false:=if_neg (by assumption)
   rw[this]
 .have h':pos>=lim:=by exact gi.1 (by assumption)
  rw[if_neg (fun q=>h q.1)]
  show(if pos>=lim then B t lim s 24 pos handed out fr wt (some false) (seen.add 16) none else _)=_
  rw[if_pos h']
def bg7{s handed:Nat}{out:Bool}{seen:ef}:(B t lim s 29 pos handed out fr wt none seen none).step =
  if pos<lim/\t.getD pos 0=10 then B t lim s 31 (pos+1) handed out fr wt none (seen.add 16) none else B t lim s 29 pos handed out fr wt (some false) (seen.add 16) none:=by
 by_cases h:pos<lim
 .have h':¬pos>=lim:=by exact wd.2 (by assumption)
  show(if pos>=lim then B t lim s 29 pos handed out fr wt (some false) (seen.add 16) none else
   match(aa0 (t.getD pos 0==10,seen.add 16):Except String (Bool×ef))with
   |.error why=>M.stick (B t lim s 29 pos handed out fr wt none (seen.add 16) none) why
   |.ok (false,sn)=>B t lim s 29 pos handed out fr wt (some false) sn none
   |.ok (true,sn)=>B t lim s 31 (pos+1) handed out fr wt none sn none)=_
  rw[if_neg h'];by_cases h2:t.getD pos 0=10
  .rw[if_pos ⟨h,h2⟩,h2];rfl
  .rw[if_neg (fun q=>h2 q.2)]
   have:(t.getD pos 0==10)=false:=if_neg (by assumption)
   rw[this]
 .have h':pos>=lim:=by exact gi.1 (by assumption)
  rw[if_neg (fun q=>h q.1)]
  show(if pos>=lim then B t lim s 29 pos handed out fr wt (some false) (seen.add 16) none else _)=_
  rw[if_pos h']
noncomputable def brk(s:Nat):Bool:=t.getD s 0==10 ||t.getD s 0==13
noncomputable def k5(s:Nat):Nat:=if t.getD s 0=13/\s+1<lim/\t.getD (s+1) 0=10 then 2 else 1
def At(s len:Nat)(m:ib):Prop:=m.outcome=some .matched/\m.start=s/\m.handed=s+len
def aqg{s e handed:Nat}{seen:ef}:To 4 (B t lim s 35 e handed first [fb k s first,f3 s first] 2 none seen none) (fun m=>m.outcome=some .matched/\m.start=s/\m.handed=e):=by
 refine f6 rfl ?_;rw[bg4];refine f6 rfl ?_;rw[bg3];refine f6 rfl ?_;rw[bg2];refine f6 rfl ?_;rw[bhe];exact aej rfl ⟨rfl,rfl,rfl⟩
def a8d(s:Nat)(hs:s<lim)(first:Bool)(seen:ef)(hb:brk t s=true):To 20 (B t lim s 10 s s first [f3 s first] 1 none seen none) (At s (k5 t lim s)):=by
 obtain⟨s1,e1⟩:=bhf t lim (s:=s) (first:=first) (seen:=seen);refine f6 rfl ?_;rw[e1];refine f6 rfl ?_;rw[bha];by_cases h13:t.getD s 0=13
 .rw[if_pos ⟨hs,h13⟩];refine f6 rfl ?_;rw[bg9];by_cases hn:s+1<lim/\t.getD (s+1) 0=10
  .rw[if_pos hn];refine f6 rfl ?_;rw[bhd];rw[(by unfold k5;rw[if_pos ⟨h13,hn⟩]:k5 t lim s=2)]
   exact To.mono (aqg t lim) (oy ..)
  .rw[if_neg hn];rw[(by unfold k5;rw[if_neg fun q=>hn q.2]:k5 t lim s=1)]
   refine f6 rfl ?_;rw[a3q];refine f6 rfl ?_;rw[a3p,if_neg (fun q=>by rw[h13]at q;exact absurd q.2 (by decide))]
   refine f6 rfl ?_;rw[bhg];refine f6 rfl ?_;rw[bg8,if_pos ⟨hs,h13⟩];refine f6 rfl ?_;rw[bg6];refine f6 rfl ?_;rw[bg7,if_neg hn];refine f6 rfl ?_;rw[bg5];refine f6 rfl ?_;rw[bhb];exact To.mono (aqg t lim) (oy ..)
 .have h10:t.getD s 0=10:=by
   unfold brk at hb;simp only[ahm,beq_iff_eq]at hb;exact hb.resolve_right h13
  rw[(by unfold k5;rw[if_neg fun q=>h13 q.1]:k5 t lim s=1),if_neg (fun q=>h13 q.2)]
  refine f6 rfl ?_;rw[a3q];refine f6 rfl ?_;rw[a3p,if_pos ⟨hs,h10⟩];refine f6 rfl ?_;rw[bhc];exact To.mono (aqg t lim) (oy ..)
def bco(c:Nat)(seen:ef):∃seen',Sre.inSet oj c 36 5 true seen=.ok (c==10 ||c==13,seen'):=by
 refine if h:c=10 then ?_ else ?_
 .subst h;exact⟨_,rfl⟩
 .have e1:(c==10)=false:=if_neg (by assumption)
  have key:Sre.inSet oj c 36 5 true seen=if(c==10)=true then .ok (true,seen.add 16)else if(c==13)=true then .ok (true,(seen.add 16).add 16)else .ok (false,((seen.add 16).add 16).add 0):=rfl
  refine key.symm▸e1.symm▸?_;refine if h':c=13 then ?_ else ?_
  .subst h';exact⟨_,rfl⟩
  .have e2:(c==13)=false:=if_neg (by assumption)
   exact e2.symm▸⟨_,rfl⟩
def bhu(m:ib)(hc:m.code=oj)(ht:m.text=t)(hl:m.lim=lim):∀(fuel s:Nat),s<=lim->fuel=lim+1 - s->∀seen,∃seen',m.admitted fuel s seen=.ok (nx (brk t) (lim - s) s,seen'):=by
 intro fuel;induction fuel with
 |zero=>intro s hs hf seen;exact O.ck [_,_] [.le .x0 .x1,.eq (.c 0) (.s (.a .x1 (.c 1)) .x0)] (.h _) 1100810019 rfl hs hf
 |succ fuel ih=>
  intro s hs hf seen;dsimp only[M.admitted];by_cases h:s<lim
  .rw[if_neg (by rw[hl];exact wd.2 (by assumption))]
   refine oE (bco (t.getD s 0) seen) fun s1 e1=>?_
   refine hc.symm▸ht.symm▸?_;rw[show oj.size=36 from rfl,e1];obtain⟨d,hd⟩:∃d,lim - s=d+1:=⟨lim - s - 1,O.azq h⟩;rw[hd,ae9];refine if hb:brk t s=true then ?_ else ?_
   .have:(t.getD s 0==10 ||t.getD s 0==13)=true:=hb;exact this.symm▸hb.symm▸⟨s1,rfl⟩
   .have hb':brk t s=false:=ad7.2 (by assumption)
    have:(t.getD s 0==10 ||t.getD s 0==13)=false:=hb';refine this.symm▸hb'.symm▸?_;refine oE (ih (s+1) (O.o109 h) (O.ck [_,_,_] [.eq (.a .x0 (.c 1)) (.s (.a .x1 (.c 1)) .x2),.lt .x2 .x1] (.eq .x0 (.s (.a .x1 (.c 1)) (.a .x2 (.c 1)))) 1810000981000081000099818110981001810001999 rfl hf h) s1) fun s2 e2=>?_
    rw[show lim - (s+1)=d from O.ck [_,_,_] [.lt .x1 .x0,.eq (.s .x0 .x1) (.a .x2 (.c 1))] (.eq (.s .x0 (.a .x1 (.c 1))) .x2) 10081981008100998100010819810181001999 rfl h hd]at e2;exact⟨s2,e2⟩
  .rw[if_pos (by rw[hl];exact O.ck [_,_] [.le .x0 .x1,.n (.lt .x0 .x1)] (.le .x1 .x0) 11 rfl hs h),show lim - s=0 from by exact so (gi.1 (by assumption))]
   exact⟨_,rfl⟩
end
section
open PySem.Sre PySem.Sre.M
theorem afa{p:Nat->Bool}:∀{d s k:Nat},nx p d s=some k->p k=true/\s<=k/\k<s+d
 |0,_,_,h=>by cases h
 |d+1,s,k,h=>by
  rw[ae9]at h;split at h
  .rename_i hp;cases h;exact⟨hp,ay _,O.ck [_,_] [] (.lt .x0 (.a .x0 (.a .x1 (.c 1)))) 1 rfl⟩
  .refine oAA (afa h) fun a b c=>?_;exact⟨a,O.o85 b,O.ck [_,_,_] [.lt .x0 (.a (.a .x1 (.c 1)) .x2)] (.lt .x0 (.a .x1 (.a .x2 (.c 1)))) 11 rfl c⟩
def a1y{X:ib}{P:ib->Prop}(h1:X.outcome=none)(h2:X.answer=some false)(h3:X.frames=[])(h:∀m:ib,m.outcome=some .failed->P m):To 1 X P:=by
 refine f6 (k:=0) h1 ?_;have e2:X.step={X with outcome:=some .failed}:=by
  obtain⟨c,tx,l,st,ls,wt,ma,pc,ps,hn,om,mk,lm,li,lo,inn,fr,wg,an,sn,oc⟩:=X;dsimp only at h1 h2 h3;subst h1 h2 h3;rfl
 rw[e2];exact aej rfl (h _ rfl)
def a70(t:Array Nat)(s:Nat)(hs:s<=t.size):To 24 (ads oj t 0 s t.size false) (Found (brk t) (k5 t t.size) t.size s):=by
 have key:∃X m:ib,X.outcome=none/\X.answer=some false/\X.frames=[]/\m.code=oj/\m.text=t/\m.lim=t.size/\(∀sn,({m with seen:=sn}.say false).outcome=none/\({m with seen:=sn}.say false).frames=[]) /\
   (∀k sn,({m with mustAdvance:=false,seen:=sn}.attemptAt k true)=B t t.size k 10 k k true [f3 k true] 1 none sn none) /\
   ads oj t 0 s t.size false=(if(decide (s > t.size) ||decide (t.size - s<1))=true then X else match m.admitted (m.lim+1 - s) s m.seen with
    |.ok (some s,sn)=>{m with mustAdvance:=false,seen:=sn}.attemptAt s true
    |.ok (none,sn)=>{m with seen:=sn}.say false
    |.error why=>m.stick why):=⟨_,_,rfl,rfl,rfl,rfl,rfl,rfl,fun _=>⟨rfl,rfl⟩,fun _ _=>rfl,rfl⟩
 refine a91 key fun X m h1 h2 h3 hc ht hl hsay hatt e=>?_;clear key
 refine e▸?_;by_cases h:s<t.size
 .rw[if_neg (by simp;exact O.ck [_,_,_] [.eq .x2 .x1,.lt .x0 .x1] (.an (.le .x0 .x1) (.n (.eq (.s .x1 .x0) (.c 0)))) 11008101098119 rfl hl h)]
  refine oE (bhu t t.size m hc ht hl (m.lim+1 - s) s hs (by rw[hl]) m.seen) fun s1 e1=>?_
  refine e1▸?_;cases hn:nx (brk t) (t.size - s) s with
  |none=>
   refine To.mono (a1y (hsay s1).1 rfl (hsay s1).2 fun m' hm=>?_) (gf _)
   delta Found;exact hn▸hm
  |some k=>
   refine oAA (afa hn) fun a b c=>?_
   dsimp only;rw[hatt];have:=a8d t t.size k (O.ck [_,_,_,_] [.eq .x2 .x1,.lt .x3 .x1,.lt .x0 (.a .x3 (.s .x1 .x3))] (.lt .x0 .x1) 11008119 rfl hl h c) true s1 a;refine To.mono (k:=20) ⟨this.1,?_⟩ (o8 rfl);delta Found;exact hn▸this.2
 .rw[if_pos (by simp;exact O.ck [_,_,_] [.le .x1 .x0,.eq .x2 .x0,.n (.lt .x1 .x0)] (.o (.lt .x0 .x1) (.eq (.s .x0 .x1) (.c 0))) 1819810000018100199 rfl hs hl h)]
  refine To.mono (a1y h1 h2 h3 fun m' hm=>?_) (gf _)
  delta Found;rw[show t.size - s=0 from by exact so (gi.1 (by assumption))]
  exact hm
end
section
open PySem.Builtin.Re
variable {M:Model} {A:az} {E:ae->af->Prop} {s:af}
theorem a2o{Q:ib->af->Prop}:∀(k turns:Nat) (m:ib),k<turns->(m.runFor (4 * (k+1))).outcome.isSome=true->Q (m.runFor (4 * (k+1))) s->wpAny M A (reDrive turns m) Q E s
 |k,0,m,hk,_,_=>absurd hk (oz _)
 |k,t+1,m,hk,hd,hq=>by
  show wpAny M A (if(m.runFor 4).outcome.isSome=true then pure (m.runFor 4)else do rule "sre.turn";reDrive t (m.runFor 4)) Q E s
  by_cases h:(m.runFor 4).outcome.isSome=true
  .rw[if_pos h];have e:m.runFor (4 * (k+1))=m.runFor 4:=by
    rw[show 4 * (k+1)=4+4 * k from O.ck [_] [] (.eq (.m 4 (.a .x0 (.c 1))) (.a (.c 4) (.m 4 .x0))) 1819 rfl,aoc,aiv h]
   rw[e]at hq;exact bo hq
  .rw[if_neg h];induction k with
   |zero=>exact absurd hd h
   |succ k=>
    rw[(by rw[<-aoc];congr 1;exact O.ck [_] [] (.eq (.m 4 (.a (.a .x0 (.c 1)) (.c 1))) (.a (.c 4) (.m 4 (.a .x0 (.c 1))))) 1819 rfl:m.runFor (4 * (k+1+1))=(m.runFor 4).runFor (4 * (k+1)))]at hd hq
    exact ak (wh (a2o k t (m.runFor 4) (O.ck [_,_] [.lt (.a .x0 (.c 1)) (.a .x1 (.c 1))] (.lt .x0 .x1) 11 rfl hk) hd hq))
theorem aoe{c:Nat->Bool}{f:Nat->String}{Q:PUnit->af->Prop}(q:Q ⟨⟩ s):∀(l:List Nat),wpAny M A (forIn l alk fun i (_:PUnit)=>if c i=true then do rule (f i);pure (ny alk)else pure (ny alk)) Q E s
 |[]=>bo q
 |i::l=>by
  rw[uw];by_cases h:c i=true
  .rw[if_pos h];exact ak (ak (wh (bo (aoe q l))))
  .rw[if_neg h];exact ak (bo (aoe q l))
def a8c{k:Nat}{m:ib}{P:ib->Prop}{Q:Option ib->af->Prop}(h:To k m P)(hk:k<=2 ^ 60)(q:∀m':ib,P m'->(m'.outcome=some .matched/\Q (some m') s)\/(m'.outcome=some .failed/\Q none s)):wpAny M A (reRunToEnd m) Q E s:=by
 have h':To (4 * (k+1)) m P:=h.mono (O.ck [_] [.le .x0 (.c 1152921504606846976)] (.le .x0 (.m 4 (.a .x0 (.c 1)))) 1 rfl hk);refine ak (a2o k _ m (O.ck [_] [.le .x0 (.c 1152921504606846976)] (.lt .x0 (.c 18446744073709551616)) 11 rfl hk) h'.1 ?_);refine ak (aoe ?_ _);rcases q _ h'.2 with⟨e,hq⟩|⟨e,hq⟩
 .rw[e];exact bo hq
 .rw[e];exact bo hq
end
section
open PySem.Builtin.Re
variable{α:Type}
noncomputable def md(p:Nat->Bool)(len:Nat->Nat)(rep:α)(cut:Nat->Nat->α)(n f s:Nat):List α:=
 f.rec (motive:=fun _=>Nat->List α) (fun _=>[]) (fun _ r s=>(nx p (n - s) s).elim (if s<n then [cut s n]else []) fun k=>(if s<k then [cut s k]else [])++rep::r (k+len k)) s
variable{p:Nat->Bool}
def aey{len:Nat->Nat}{rep:α}{cut:Nat->Nat->α}{n f s k:Nat}(h:nx p (n - s) s=some k):md p len rep cut n (f+1) s=(if s<k then [cut s k]else [])++rep::md p len rep cut n f (k+len k):=
 congrArg (fun o:Option Nat=>o.elim (if s<n then [cut s n]else []) fun k=>(if s<k then [cut s k]else [])++rep::md p len rep cut n f (k+len k)) h
def ab5{len:Nat->Nat}{rep:α}{cut:Nat->Nat->α}{n f s:Nat}(h:nx p (n - s) s=none):md p len rep cut n (f+1) s=if s<n then [cut s n]else []:=
 congrArg (fun o:Option Nat=>o.elim (if s<n then [cut s n]else []) fun k=>(if s<k then [cut s k]else [])++rep::md p len rep cut n f (k+len k)) h
noncomputable def pcs(p:Nat->Bool)(len:Nat->Nat)(rep:Str)(t:Array Nat):(fuel s:Nat)->List Str:=md p len rep (fun b e=>⟨t.extract b e⟩) t.size
def aor:plainId "re.Pattern.sub.loop" = true:=by decide+kernel
structure aap(code:Array Nat)(p:Array Nat->Nat->Bool)(len:Array Nat->Nat->Nat):Prop where
 search:∀t s,s<=t.size->∃k,k<=24+6 * t.size/\To k (ads code t 0 s t.size false) (Found (p t) (len t) t.size s)
 pos:∀t k,0<len t k
 fit:∀t s k,nx (p t) (t.size - s) s=some k->k+len t k<=t.size
variable {prog:dm} {w:dv} {G:Gl prog w}
variable {A:az} {E:ae->af->Prop} {s:af}
noncomputable def lu(n:Str)(code:Array Nat)(kind:Nat):Flt.PatRec:=⟨n,code.toList,0,kind⟩
variable{a:ai}{nm x:Str}
def aws{code:Array Nat}{t:Tok}{Q:ReTarget->af->Prop}(hp:nv s.heap a (lu nm code 0))(q:Q {pattern:=.ref a,string:=.str x t,code:=code,text:=x.cps,kind:=0,groups:=0,pos:=0,lim:=x.cps.size} s) :
  wpAny (model prog w) A (reWholeTarget (.ref a) (.str x t)) Q E s:=by
 refine ao0 hp fun fs T ws n h1 h2 h3 h4 h5 h6=>?_;clear hp
 refine ak (wpAny_fieldsOf h1 rfl ?_);refine ak ?_;refine bP (bo ?_);refine h4▸?_;refine bP ?_;refine h2▸?_;refine ak ?_;refine ak (nw h5 rfl (bo (bo ?_)));refine h3▸?_;have:((ws.map reRawOf).map (·.toNat))=code:=by
  apply ad4.mp;exact h6
 exact this▸q
variable{m:Nat}
def a9q{D:ai}{g:ah}{vs:List ae}{v:ae}{Q:Unit->af->Prop}(X:SOK G g s)(hD:g.f D=none/\G.hB.get? D=none/\D≠G.P)(e:s.heap.get? D=some (c8 "list" vs m))(hz:vs.length<=sizeLine)
  (q:∀h' m',h'.get? D=some (c8 "list" (vs++[v]) m')->pe D s.heap h'->Mv G (fun a=>a=D) g s g {s with heap:=h'}->Q () {s with heap:=h'}):wpAny (model prog w) A (updateSeq D (·.push v)) Q E s:=by
 refine wpAny_updateSeq e rfl ?_ (hz:=by assumption)
 have hs:pe D s.heap (s.heap.update D (adm fun x=>x.push v)):=aee ..
 have he:adm (fun x=>x.push v) (c8 "list" vs m)=c8 "list" (vs++[v]) (m+1):=by
  have:=Obj.mapSeq_push_plain vs.toArray m v;delta c8;rw[this];simp
 refine q _ (m+1) ?_ hs (Mv.buts (tk:=s.toks) X (fun a h=>h▸hD) (fun c o hc e=>hs.extBut c o hc e) (ay _))
 rw[ah5 _ e (by rw[he];rfl),he]
variable{kind:Nat}
def a9j{code:Array Nat}{D:ai}{vs:List ae}{h h':bf}(hp:nv h a (lu nm code kind))(e:h.get? D=some (c8 "list" vs m))(hs:pe D h h'):nv h' a (lu nm code kind):=by
 refine ao0 hp fun fs T ws n h1 h2 h3 h4 h5 h6=>?_;clear hp
 refine⟨fs,T,ws,n,hs.extBut a _ ?_ h1,h2,h3,h4,hs.extBut T _ ?_ h5,h6⟩
 .rintro rfl;replace e:=h1.symm▸e;injection e with e;injection e with hc;injection hc with hc;exact absurd hc (by decide)
 .rintro rfl;replace e:=h5.symm▸e;injection e with e;injection e with hc;injection hc with hc;exact absurd hc (by decide)
def baz{g:ah}{Q:ae->af->Prop}(X:SOK G g s)(hx:x.length<=sizeLine)(q:∀t',Ext G g s g {s with toks:=s.toks+1}->Q (.str x t') {s with toks:=s.toks+1}):wpAny (model prog w) A (mkStr x) Q E s:=
 wpAny_mkStr (q _ (Ext.grow (h':=s.heap) X (fun _ _ e=>e) (fm _))) hx
structure arv(G:Gl prog w)(nm:Str)(code:Array Nat)(kind:Nat)(a:ai)(vx vr:ae)(T:Array Nat){α:Type}(rep:α)(cut:Nat->Nat->α)(Are:List ae->List α->Prop)(ok:List α->Prop)(J:List α->D):Prop where
 whole:∀{A s Q E},nv s.heap a (lu nm code kind)->Q ({pattern:=.ref a,string:=vx,code:=code,text:=T,kind:=kind,groups:=0,pos:=0,lim:=T.size}:ReTarget) s->wpAny (model prog w) A (reWholeTarget (.ref a) vx) Q E s
 lit:∀{A s Q E},Q () s->wpAny (model prog w) A (reLiteralCannotBeTurned vr) Q E s
 some_:(vr != rh)=true
 rep_:∀{vs ys},Are vs ys->Are (vs++[vr]) (ys++[rep])
 len_:∀{vs ys},Are vs ys->vs.length=ys.length
 sl:∀{A s Q E b e},(∀v,(∀{vs ys},Are vs ys->Are (vs++[v]) (ys++[cut b e]))->Q v {s with toks:=s.toks+1})->wpAny (model prog w) A (reSlice T kind b e) Q E s
 fin:∀{A g s D vs m ys E} {Q:_->af->Prop},SOK G g s->s.heap.get? D=some (c8 "list" vs m)->Are vs ys->ok ys->(∀v g' s',Ext G g s g' s'->Rep prog w g' v (J ys)->Q (.done (.ret v)) s')->wpAny (model prog w) A (do
  let joiner <-reSlice T kind 0 0
  let text <-if((<-seqItems? (.ref D)).getD #[]).isEmpty then pure joiner else call (.builtin (if kind==0 then"str.join"else"bytes.join")) [joiner,.ref D]
  ret text) Q E s
def a0t{code:Array Nat}{p:Array Nat->Nat->Bool}{len:Array Nat->Nat->Nat}{D:ai}{vx vr:ae}{T:Array Nat}{rep:α}{cut:Nat->Nat->α}{Are:List ae->List α->Prop}{ok:List α->Prop}{J:List α->Mine.D}{R:Result->af->Prop}(PO:aap code p len)(K:arv G nm code kind a vx vr T rep cut Are ok J)(hx:T.size<=sizeLine) :
  ∀(f sp:Nat),sp<=T.size->T.size+1<=sp+f->∀(s:af) (g:ah) (vs:List ae) (m:Nat) (n:Int) (acc:List α),SOK G g s->(g.f D=none/\G.hB.get? D=none/\D≠G.P)->s.heap.get? D=some (c8 "list" vs m)->Are vs acc ->
   nv s.heap a (lu nm code kind)->ok (acc++md (p T) (len T) rep cut T.size f sp)->(acc++md (p T) (len T) rep cut T.size f sp).length<=sizeLine ->
   (∀v g' s',Mv G (fun a=>a=D) g s g' s'->Rep prog w g' v (J (acc++md (p T) (len T) rep cut T.size f sp))->R (.ok (.ret v)) s') ->
   codeAny (model prog w) A (.builtin "re.Pattern.sub.loop" ⟨[.ref a,vx,vr,rawInt 0,rawInt 0,rawInt n,rawInt sp,rawInt sp,.bool false,.ref D,.bool false],[]⟩) R s:=by
 intro f;induction f with
 |zero=>intro sp h1 h2;exact O.ck [_,_] [.le .x0 .x1,.le (.a .x1 (.c 1)) (.a .x0 (.c 0))] (.h _) 11 rfl h1 h2
 |succ f ih=>
  intro sp h1 h2 s g vs m n acc X hD e r hp hj hl hR;refine codeAny_builtin bef ?_;show wpAny _ _ (reWholeTarget (.ref a) vx >>= _) _ _ s;refine ak (K.whole hp (ak (K.lit ?_)));refine oEA (PO.search T sp h1) fun k hk hto=>?_
  show wpAny _ _ (reNextFound _ sp false >>= _) _ _ s;refine ak (a8c (k:=k) hto (O.ck [_,_,_] [.le .x1 .x2,.le .x0 (.a (.c 24) (.m 6 .x1)),.eq .x2 (.c 16777216)] (.le .x0 (.c 1152921504606846976)) 61601 rfl hx hk sizeLine_eq) fun m' hm'=>?_)
  unfold Found at hm';have push:∀{A E Q s₁ vs1 m1 v},Mv G (fun a=>a=D) g s g s₁->s₁.heap.get? D=some (c8 "list" vs1 m1)->nv s₁.heap a (lu nm code kind)->vs1.length<=sizeLine ->
    (∀s₂ m2,Mv G (fun a=>a=D) g s g s₂->s₂.heap.get? D=some (c8 "list" (vs1++[v]) m2)->nv s₂.heap a (lu nm code kind)->Q () s₂)->wpAny (model prog w) A (updateSeq D (·.push v)) Q E s₁:=fun mv e1 hp1 hz q=>
   a9q (mv.sok X) hD e1 hz fun h' m2 e2 hs mv2=>q _ m2 (mv.trans mv2 fun a h=>.inl h) e2 (a9j hp1 e1 hs)
  have up:Mv G (fun a=>a=D) g s g {s with toks:=s.toks+1}:=(Ext.grow (h':=s.heap) X (fun _ _ e=>e) (fm _)).mv
  cases hn:nx (p T) (T.size - sp) sp with
  |some k0=>
   replace hm':=hn.symm▸hm';refine oAA hm' fun ho hst hha=>.inl ⟨ho,?_⟩
   rw[aey hn]at hj hl hR;have next:∀(s₁:af) (vs1:List ae) (m1:Nat) (acc1:List α),Mv G (fun a=>a=D) g s g s₁->s₁.heap.get? D=some (c8 "list" vs1 m1)->Are vs1 acc1->nv s₁.heap a (lu nm code kind) ->
     acc1++rep::md (p T) (len T) rep cut T.size f (k0+len T k0)=acc++((if sp<k0 then [cut sp k0]else [])++rep::md (p T) (len T) rep cut T.size f (k0+len T k0)) ->
     wpAny (model prog w) (A.under (.builtin "re.Pattern.sub.loop" ⟨[.ref a,vx,vr,rawInt 0,rawInt 0,rawInt n,rawInt sp,rawInt sp,.bool false,.ref D,.bool false],[]⟩)) (do
      if vr != rh then updateSeq D (·.push vr)
      again (.builtin "re.Pattern.sub.loop" ⟨[.ref a,vx,vr,rawInt 0,rawInt 0,rawInt (n+1),rawInt m'.handed,rawInt m'.handed,.bool (m'.handed==k0),.ref D,.bool false],[]⟩))
      (fun fin s'=>match fin with|.done f=>R (.ok f) s'|.again c'=>c'.quiet=true/\codeAny (model prog w) A c' R s') (fun e s'=>R (.error e) s') s₁:=by
    intro s₁ vs1 m1 acc1 mv e1 r1 hp1 hacc;rw[if_pos K.some_];have hl1:(acc1++rep::md (p T) (len T) rep cut T.size f (k0+len T k0)).length<=sizeLine:=hacc▸hl;rw[de,dh]at hl1;refine ak (push mv e1 hp1 (K.len_ r1▸aw (kn _ _) hl1) fun s₂ m2 mv2 e2 hp2=>bo ⟨adr aor _,?_⟩)
    have hne:(m'.handed==k0)=false:=by
     rw[hha];have:=PO.pos T k0;simp;exact O.ck [_] [.lt (.c 0) .x0] (.n (.eq .x0 (.c 0))) 110 rfl this
    refine hne.symm▸hha.symm▸?_;have hcat:(acc1++[rep])++md (p T) (len T) rep cut T.size f (k0+len T k0)=acc++((if sp<k0 then [cut sp k0]else [])++rep::md (p T) (len T) rep cut T.size f (k0+len T k0)):=(gj ..).trans hacc
    exact ih (k0+len T k0) (PO.fit T sp k0 hn) (O.ck [_,_,_,_,_,_] [.le (.a .x0 (.c 1)) (.a .x4 (.a .x3 (.c 1))),.eq .x5 (.a .x1 .x2),.le .x4 .x1,.lt (.c 0) .x2] (.le (.a .x0 (.c 1)) (.a (.a .x1 .x2) .x3)) 100111 rfl h2 hha (afa hn).2.1 (PO.pos T k0)) _ g (vs1++[vr]) m2 (n+1) (acc1++[rep]) (mv2.sok X) hD e2 (K.rep_ r1) hp2 (hcat▸hj) (hcat▸hl) fun v g' s' mv' q=>
     hR v g' s' (mv2.trans mv' fun a h=>.inl h) (hcat▸q)
   show wpAny _ _ (do
    if sp<m'.start then updateSeq D (·.push (<-reSlice T kind sp m'.start))
    if vr != rh then updateSeq D (·.push vr)
    again _) _ _ _
   refine hst▸?_;by_cases hlt:sp<k0
   .rw[if_pos hlt];refine ak (K.sl fun v hv=>ak (push up e hp ?_ fun s₂ m2 mv2 e2 hp2=>next s₂ _ m2 _ mv2 e2 (hv r) hp2 (by rw[if_pos hlt,gj])))
    rw[de]at hl;exact K.len_ r▸aw (kn _ _) hl
   .rw[if_neg hlt];exact next s vs m acc (Mv.refl X) e r hp (by rw[if_neg hlt,ix])
  |none=>
   replace hm':=hn.symm▸hm';refine .inr ⟨hm',?_⟩;rw[ab5 hn]at hj hl hR;show wpAny _ _ (do
    if sp<T.size then updateSeq D (·.push (<-reSlice T kind sp T.size))
    let joiner <-reSlice T kind 0 0
    let text <-if((<-seqItems? (.ref D)).getD #[]).isEmpty then pure joiner else call (.builtin (if kind==0 then"str.join"else"bytes.join")) [joiner,.ref D]
    ret text) _ _ _
   by_cases hlt:sp<T.size
   .rw[if_pos hlt]at hj hl hR |-;refine ak (K.sl fun v hv=>ak (push up e hp ?_ fun s₂ m2 mv2 e2 hp2=>K.fin (mv2.sok X) e2 (hv r) hj fun v g' s' e' q=>hR v g' s' (mv2.trans e'.mv fun a h=>.inl h) q))
    rw[de]at hl;exact K.len_ r▸aw (kn _ _) hl
   .rw[if_neg hlt]at hj hl hR |-;rw[fo]at hj hl hR;exact K.fin X e r hj fun v g' s' e' q=>hR v g' s' e'.mv q
def art(prog:dm)(w:dv)(vs:List ae)(ys:List Str):Prop:=∀g:ah,a9 prog w g vs (ys.map .str)
def ba9(ys:List Str):(ys.map D.str).mapM b7=some ys:=by
 induction ys with
 |nil=>rfl
 |cons y ys ih=>rw[ee,wq,ih];rfl
def axg{vs:List ae}{ys:List Str}{t:Tok}(h:art prog w vs ys):art prog w (vs++[.str x t]) (ys++[x]):=fun g=>ei▸(h g).append ⟨⟨_,rfl⟩,trivial⟩
def a6y{code:Array Nat}{rep:Str}{t tr:Tok}(hx:x.cps.size<=sizeLine) :
  arv G nm code 0 a (.str x t) (.str rep tr) x.cps rep (fun b e=>⟨x.cps.extract b e⟩) (art prog w) (fun l=>JoinOk (⟨#[]⟩:Str) l=true) (fun l=>.str (yw ⟨#[]⟩ l)) where
 whole:=aws
 lit:=fun q=>bP (bo q)
 some_:=rfl
 rep_:=axg
 len_:=fun h=>(h ⟨fun _=>none,0⟩).length.trans (b8 ..)
 sl:=fun k=>wpAny_mkStr (k _ axg) (by show(x.cps.extract _ _).size<=sizeLine;rw[at6];exact O.azp hx)
 fin:=fun{A g s D vs m ys E Q} X e r hj k=>by
  refine ak (baz X (by show(x.cps.extract 0 0).size<=sizeLine;simp) fun t' eM=>?_)
  rw[(by simp:(⟨x.cps.extract 0 0⟩:Str)=⟨#[]⟩)]
  refine ak (nw (s:={s with toks:=s.toks+1}) e rfl ?_);cases vs with
  |nil=>
   refine ak (bo (bo (k _ g _ eM ?_)));rw[(by cases ys with|nil=>rfl|cons y ys=>exact rj (r g):ys=[])]
   exact⟨t',rfl⟩
  |cons v vs=>exact bgx (a07 (eM.sok X) e (r g) (ba9 ys) hj) fun v' s₃ g3 e3 q=>bo (k v' g3 s₃ (eM.trans e3) q)
end
variable {prog:dm} {w:dv} {G:Gl prog w}
section
open PySem.Builtin.Re
variable {A:az} {s:af}
def a0k(a b:ae):reNamed "re.Pattern.sub" "sub" ["repl", "string", "count"] 2 [a,b] []=pure [some a,some b,none]:=by kernel_rfl
def bbp:typeLookup (.type "str") "__call__" = pure none:=by rw[aa9,abt];kernel_rfl
def bbq:typeLookup (.type "bytes") "__call__" = pure none:=by rw[aa9,abt];kernel_rfl
variable{nm:Str}{p:Array Nat->Nat->Bool}
def bgh{code:Array Nat}{len:Array Nat->Nat->Nat}{a:ai}{x rep:Str}{t tr:Tok}{g:ah}(PO:aap code p len)(hx:x.cps.size<=sizeLine)(X:SOK G g s)(hp:nv s.heap a (lu nm code 0))(hrep:rep.cps.contains 92=false)
  (hj:JoinOk (⟨#[]⟩:Str) (pcs (p x.cps) (len x.cps) rep x.cps (x.cps.size+1) 0)=true) (hl:(pcs (p x.cps) (len x.cps) rep x.cps (x.cps.size+1) 0).length<=sizeLine) :
  wpAny (model prog w) A (call (.builtin "re.Pattern.sub") [.ref a,.str rep tr,.str x t]) (bj G g s (.str (yw ⟨#[]⟩ (pcs (p x.cps) (len x.cps) rep x.cps (x.cps.size+1) 0)))) NoE s:=by
 refine adl (avj (adr ab0.plain _) a2j (ab0.check _ _ _ _ _ _ _ _ (by obtain⟨fs,T,ws,n,h1,_⟩:=hp;exact⟨_,h1,rfl⟩:s.TypeIs (.ref a) "re.Pattern") (a3y _ _ _) ?_))
 show wpAny _ _ (reNamed "re.Pattern.sub" "sub" ["repl", "string", "count"] 2 [.str rep tr,.str x t] [] >>= _) _ _ s;rw[a0k];refine bP ?_;refine bP ?_;refine ak (ame (n4 _ _ _) bbp ?_);refine bP ?_;refine bP ?_;refine hrep.symm▸?_;refine bP ?_;refine ak (jc (aws hp ?_));show wpAny _ _ (newList [] >>= _) _ _ s;refine ak (rd ?_ (by size_fits))
 refine bo ⟨adr aor _,?_⟩;have e:=Ext.grow (h':=s.heap.push {cls:=.type "list",data:=.seq ([]:List ae).toArray}) (tk:=s.toks) X (fun b o e=>b4 _ e) (ay _)
 have hfr:=dq s.heap;refine a0t (nm:=nm) PO (a6y hx) hx (x.cps.size+1) 0 (g9 _) (O.azo) _ g [] 0 0 [] (e.sok X) ⟨gu X hfr,new_priv X hfr⟩ (dw _ rfl) (fun _=>trivial) ?_ hj hl fun v g' s' m q=>?_
 .exact hp.keeps fun b o e=>b4 _ e
 .exact⟨g',e.then m fun a h=>h▸hfr,q⟩
def l6(G:Gl prog w)(x:Str)(code:Array Nat)(kind:Nat):Prop:=∃a,G.mg x=some (.ref a)/\nv G.hB a (lu x code kind)
theorem l6.at{x:Str}{code:Array Nat}{kind:Nat}{a:ai}{h:bf}(hp:nv G.hB a (lu x code kind))(k:GOK G h):nv h a (lu x code kind):=by
 obtain⟨fs,T,ws,n,h1,h2,h3,h4,h5,h6⟩:=hp;obtain⟨oP,vP,eP,dP,cP⟩:=G.oP;refine⟨fs,T,ws,n,k.keep a _ ?_ h1,h2,h3,h4,k.keep T _ ?_ h5,h6⟩
 .rintro rfl;rw[h1]at eP;cases eP;cases cP
 .rintro rfl;rw[h5]at eP;cases eP;cases dP
noncomputable def subD(p:Array Nat->Nat->Bool)(len:Array Nat->Nat->Nat):D->D->Option D
 |a,b=>(b7 a).bind fun rep=>(b7 b).bind fun x=>if rep.cps.contains 92=false/\x.cps.size<=sizeLine/\JoinOk (⟨#[]⟩:Str) (pcs (p x.cps) (len x.cps) rep x.cps (x.cps.size+1) 0)=true/\(pcs (p x.cps) (len x.cps) rep x.cps (x.cps.size+1) 0).length<=sizeLine then
   some (.str (yw ⟨#[]⟩ (pcs (p x.cps) (len x.cps) rep x.cps (x.cps.size+1) 0)))else none
def aqu{sc:dc}{n:Nat}{code:Array Nat}{len:Array Nat->Nat->Nat}{e1 e2:al}{f₁ f₂:PS->Option D}{np apos pos:Pos}(PO:aap code p len)(hp:l6 G nm code 0)(h₁:Den G sc n e1 f₁)(h2:Den G sc n e2 f₂)(hs1:gg e1=true)(hs2:gg e2=true)
  (hx:sc.names.lookup nm=some .globalImplicit) (hd:(nm==("__debug__" : Str))=false) (hbase:∀env,attributeBase (.Name nm np) "sub" env (eval (.Name nm np) env)=eval (.Name nm np) env) (hline:(apos.endLine==pos.line)=true) :
  Den G sc n (.Call (.Attribute (.Name nm np) "sub" apos) [e1,e2] [] pos) (bin (subD p len) f₁ f₂):=fun A env g s σ d R X y=>by
 refine aq y ?_;clear y;intro d1 hd1 y;refine aq y ?_;clear y;intro d2 hd2 y;unfold subD at y;refine aq y ?_;clear y;intro rep hr y;refine aq y fun x hxs y=>?_
 split at y
 .rename_i hc;cases y;obtain⟨a,hmg,hpa⟩:=hp;refine yu (hbase _) (by rw[uz hs1 hs2];rfl) hline (m9 X hx hd (.inl hmg) ?_)
  have hp0:=l6.at hpa X.sok.gok;obtain⟨fs,T,ws,m,h1,_⟩:=id hp0;refine⟨"re.Pattern", "re.Pattern.sub",a3r,ab0,aw2,⟨_,h1,rfl⟩,(fun b hb=>by cases hb;exact⟨_,h1,rfl⟩),?_⟩
  rw[uz hs1 hs2];refine ug rfl (qf (ju (e9 (h₁ R X hd1) (fun v1 s₁ ⟨g1,e1,q1⟩=>ju (gv (h2 R (X.mono e1) hd2) (fun v2 s₂ g₂ e2 q2=>q9 ?_))) fun _ _ f=>f)))
  have X2:=(X.mono e1).mono e2;obtain⟨t,rfl⟩:=gr q1 hr;obtain⟨t',rfl⟩:=gr q2 hxs;exact wm (bgh PO hc.2.1 X2.sok (l6.at hpa X2.sok.gok) hc.1 hc.2.2.1 hc.2.2.2) (fun _ _ z=>(z.after e2).after e1)
 .exact nomatch y
def ay7:aap q5 dot (fun _ _=>1) where
 search:=fun t s hs=>⟨_,O.ck [_] [] (.le (.a (.m 6 .x0) (.c 12)) (.a (.c 24) (.m 6 .x0))) 1 rfl,a71 t s hs⟩
 pos:=fun _ _=>alo
 fit:=fun t s k h=>by obtain⟨_,h1,h2⟩:=afa h;exact O.ck [_,_,_] [.le .x2 .x0,.lt .x0 (.a .x2 (.s .x1 .x2))] (.le (.a .x0 (.c 1)) .x1) 10108119 rfl h1 h2
def ay6:aap oj brk (fun t k=>k5 t t.size k) where
 search:=fun t s hs=>⟨24,O.ck [_] [] (.le (.c 24) (.a (.c 24) (.m 6 .x0))) 1 rfl,a70 t s hs⟩
 pos:=fun t k=>by dsimp only[k5];split<;>decide
 fit:=fun t s k h=>by
  obtain⟨_,h1,h2⟩:=afa h;delta k5;split
  .rename_i hc;have:=hc.2.1;exact O.ck [_,_,_,_] [.an (.eq .x2 (.c 13)) (.an (.lt (.a .x0 (.c 1)) .x1) (.eq .x3 (.c 10)))] (.le (.a .x0 (.c 2)) .x1) 1001 rfl hc
  .exact O.ck [_,_,_,_,_] [.le .x2 .x0,.lt .x0 (.a .x2 (.s .x1 .x2)),.n (.an (.eq .x3 (.c 13)) (.an (.lt (.a .x0 (.c 1)) .x1) (.eq .x4 (.c 10))))] (.le (.a .x0 (.c 1)) .x1) 1010081010098101009810100810100998101810198101981018101999 rfl h1 h2 ‹_›
end
section
open PySem.Builtin.Re
def a7n:Slot "bytes" "join" "bytes.join":=
 .of (owner := "bytes") (n := "join") (by rw[aa9,abt];kernel_rfl) (by decide+kernel) (by decide+kernel) (by decide+kernel)
  (by first|exact .inl (by decide+kernel)|exact .inr (by decide+kernel)) (by rw[isSubtype_type];kernel_rfl)
def beg:entryFor table "bytes.join" = some Builtin.«bytes.join»:=amh (by kernel_rfl)
def bhm(a b:ae):argsOk "bytes.join" ⟨[a,b],[]⟩:=by kernel_rfl
def bgj{id:String}{b:Array UInt8}{t:Tok}{full:Bool}:auy id (.bytes b t) full=pure (some b):=by
 unfold auy;refine(as4 atc)▸as3▸KBy.own_release▸?_
 kernel_rfl
def a6f{id:String}{b:Array UInt8}{t:Tok}:avz id (.bytes b t) 0=pure (some (b,none)):=by
 unfold avz;refine(as4 atc)▸as3▸bgj▸?_
 kernel_rfl
def a6j{id:String}{b:Array UInt8}{t:Tok}:awd id (.bytes b t) 0=pure (some (b,none)):=by
 unfold awd;refine a6f.symm▸?_;rfl
noncomputable def ot(l:List (Array UInt8)):Array UInt8:=l.foldl (·++·) #[]
def bca:∀(l:List (Array UInt8)),a4u #[] l=ot l:=by
 intro l;have key:∀(l:List (Array UInt8)) (k:Nat) (a:Array UInt8),(l.zipIdx k).foldl (fun out (p,i)=>(if i > 0 then out++#[]else out)++p) a=l.foldl (·++·) a:=by
  intro l;induction l with
  |nil=>intro k a;rfl
  |cons x l ih=>
   intro k a;rw[atn,q8,q8,ih];show alm _ ((if k > 0 then a++#[]else a)++x) l=_
   by_cases hk:k > 0
   .rw[if_pos hk,Array.append_empty]
   .rw[if_neg hk]
 exact key l 0 #[]
variable {A:az} {s:af}
theorem a08{M:Model}{E:ae->af->Prop}{Q:Unit->af->Prop}{keep:List ae}(q:Q () s):∀(taken:List (ae×Option ae)),(∀p∈taken,p.2=none)->wpAny M A (a40 taken keep) Q E s
 |[],_=>bo q
 |(x,wv)::rest,h=>by
  have hw:wv=none:=h (x,wv) m4;subst hw;exact ak (ag5 (a08 q rest fun p hp=>h p (er _ hp)))
def mw:List ae->List (Array UInt8)->Prop
 |[],[]=>True
 |v::vs,b::bs=>(∃t,v=.bytes b t)/\mw vs bs
 |_,_=>False
theorem mw.length:∀{vs:List ae} {bs:List (Array UInt8)},mw vs bs->vs.length=bs.length
 |[],[],_=>rfl
 |v::vs,b::bs,h=>by simp[mw.length h.2]
 |[],_::_,h=>h.elim
 |_::_,[],h=>h.elim
theorem mw.get:∀{vs:List ae} {bs:List (Array UInt8)},mw vs bs->∀(i:Nat) (h:i<bs.length),∃t,vs[i]?=some (.bytes bs[i] t)
 |v::vs,b::bs,h,0,_=>by obtain⟨t,e⟩:=h.1;exact⟨t,by rw[e];rfl⟩
 |v::vs,b::bs,h,i+1,hi=>by obtain⟨t,e⟩:=mw.get h.2 i (by simpa using hi);exact⟨t,by assumption⟩
 |[],[],_,i,hi=>absurd hi (oz _)
 |[],_::_,h,_,_=>h.elim
 |_::_,[],h,_,_=>h.elim
theorem mw.snoc:∀{vs:List ae} {bs:List (Array UInt8)} {b:Array UInt8} {t:Tok},mw vs bs->mw (vs++[.bytes b t]) (bs++[b])
 |[],[],_,t,_=>⟨⟨t,rfl⟩,trivial⟩
 |v::vs,c::bs,_,_,h=>⟨h.1,mw.snoc h.2⟩
 |[],_::_,_,_,h=>h.elim
 |_::_,[],_,_,h=>h.elim
def bae{M:Model}{α:Type}{vs:List ae}(h1:¬∃v,vs=[v]){f:ae->Sem α}{g:Sem α}{Q:α->af->Prop}{E:ae->af->Prop}(h:wpAny M A g Q E s):wpAny M A (match vs.toArray with | #[x]=>f x|_=>g) Q E s:=by
 rcases vs with _|⟨v,_|⟨u,vs⟩⟩
 .exact h
 .exact absurd ⟨v,rfl⟩ h1
 .exact h
def bcc{D:ai}{t:Tok}{vs:List ae}{m:Nat}{bs:List (Array UInt8)}{E:ae->af->Prop}{Q:ae->af->Prop}(e:s.heap.get? D=some (c8 "list" vs m))(hb:mw vs bs)(hz:(ot bs).size<=sizeLine)(hsum:bs.foldl (· + ·.size) 0<=sizeLine)
  (q:∀t' tk,s.toks<=tk->Q (.bytes (ot bs) t') {s with toks:=tk}):wpAny (model prog w) A (call (.builtin "bytes.join") [.bytes #[] t,.ref D]) Q E s:=by
 refine m0 a7n (ag7 _ _ _) beg ?_ (bhm _ _);show wpAny _ _ (pure (Value.bytes #[] t,aa1 D) >>= _) _ _ s;refine bP ?_;show wpAny _ _ (a4z (.ref D) >>= _) _ _ s;refine ak ?_;refine ak (alx (⟨_,e,rfl⟩:s.TypeIs (.ref D) "list") ?_);show wpAny _ _ (pure (aa1 D)) _ _ s;refine bo ?_;refine ak (nw e rfl ?_);by_cases h1:∃v,vs=[v]
 .obtain⟨x,rfl⟩:=h1;obtain⟨b,rfl⟩:∃b,bs=[b]:=by
   induction bs with
   |nil=>exact hb.elim
   |cons b bs=>induction bs with
    |nil=>exact⟨b,rfl⟩
    |cons=>exact hb.2.elim
  obtain⟨t',rfl⟩:=hb.1;show wpAny _ _ (typeOf (.bytes b t') >>= _) _ _ s;refine ak (alx (ag7 _ _ _) ?_);show wpAny _ _ (do rule "bytes.join.one-item";ret (.bytes b t')) _ _ s
  refine ak (wh (bo ⟨_,rfl,?_⟩));have:ot [b]=b:=by simp[ot]
  have q':=q t' s.toks (ay _);rw[this]at q';exact q'
 dsimp only;rw[if_pos (show(ah7==ah7)=true from by decide)]
 refine bae h1 ?_;rw[agx];refine ak (aml _ (fun rest st s'=>s'=s/\∃k,k<=bs.length/\rest=uo k (bs.length - k)/\st.1.toList=bs.take k/\(∀p∈st.2,p.2=none/\p.1.onHeap=false)) _ ?_ ?_ _ _ ⟨rfl,0,g9 _,by simp[hb.length],rfl,by decide⟩)
 .rintro i rest st s' ⟨rfl,k,hk,hr,hst,htk⟩;have hkb:k<bs.length:=by
   rcases uu k bs.length with h|h
   .exact h
   .rw[show bs.length - k=0 from O.ck [_,_] [.le .x1 .x0,.le .x0 .x1] (.eq (.s .x0 .x1) (.c 0)) 1819811810199 rfl hk h]at hr;exact nomatch hr
  obtain⟨d,hd⟩:∃d,bs.length - k=d+1:=⟨bs.length - k - 1,O.azq hkb⟩;rw[hd,abe]at hr;obtain⟨hik,hrr⟩:=al2 hr;subst hik;refine ak (nw e rfl ?_);dsimp only;have hany:(ah7==awc ||st.2.any fun x=>x.1.onHeap)=false:=by
   rw[(by decide:(ah7==awc)=false),asu,at3]
   intro p hp;rw[(htk p hp).2];exact wy
  rw[hany,if_neg (by decide)]
  obtain⟨t',ht'⟩:=hb.get i hkb;have hx:vs.toArray.getD i .none=.bytes bs[i] t':=by
   rw[av8];simp[ht']
  rw[hx];refine ak (jc (ql a6j ?_));refine ak (nw e rfl ?_);dsimp only;rw[if_neg (by simp)]
  refine bo ⟨rfl,i+1,hkb,?_,?_,?_⟩
  .rw[hrr];congr 1;exact O.ck [_,_,_] [.lt .x2 .x1,.eq (.s .x1 .x2) (.a .x0 (.c 1))] (.eq .x0 (.s .x1 (.a .x2 (.c 1)))) 18100981008100998181000109810018101999 rfl hkb hd
  .rw[atz,hst,awe hkb]
  .intro p hp;rcases ji.mp hp with h|h
   .exact htk p h
   .simp at h;rw[h];exact⟨rfl,rfl⟩
 .rintro st s' ⟨rfl,k,hk,hr,hst,htk⟩;have hkb:k=bs.length:=by
   have:=congrArg pd hr;simp at this;exact O.ck [_,_] [.le .x0 .x1,.eq (.c 0) (.s .x1 .x0)] (.eq .x0 .x1) 10018100019811810199 rfl hk this
  rw[hkb,ad1]at hst;show wpAny _ _ (pure (#[]:Array UInt8) >>= _) _ _ _;refine bP ?_;have hfold:st.1.foldl (fun x y=>x+y.size) ((#[]:Array UInt8).size * (st.1.size - 1))=bs.foldl (· + ·.size) 0:=by
   rw[<-aua,hst];simp
  rw[hfold,show a4x (bs.foldl (· + ·.size) 0)=false from by exact decide_eq_false (O.ck [_,_,_] [.le .x0 .x1,.eq .x2 .x0] (.n (.lt .x1 .x0)) 1001 rfl hsum hfold),if_neg (by decide)]
  rw[hst,bca];refine ak (m:=mkBytes (ot bs)) (ahg ?_ hz);refine ak (jc (wpAny_point ?_));refine ak (a08 ?_ _ fun p hp=>(htk p hp).1)
  exact bo ⟨_,rfl,q _ _ (fm _)⟩
end
section
open PySem.Builtin.Re
noncomputable def tx(b:Array UInt8):Array Nat:=b.map (·.toNat)
noncomputable def cut(b:Array UInt8)(s e:Nat):Array UInt8:=((tx b).extract s e).map (·.toUInt8)
noncomputable def tf(p:Nat->Bool)(len:Nat->Nat)(rep:Array UInt8)(x:Array UInt8):(fuel s:Nat)->List (Array UInt8):=md p len rep (cut x) (tx x).size
def ar3(l:List (Array UInt8)):Prop:=(ot l).size<=sizeLine/\l.foldl (· + ·.size) 0<=sizeLine
variable {A:az} {E:ae->af->Prop} {s:af}
variable{x:Array UInt8}
def ba0{g:ah}{Q:ae->af->Prop}(X:SOK G g s)(hx:x.size<=sizeLine)(q:∀t',Ext G g s g {s with toks:=s.toks+1}->Q (.bytes x t') {s with toks:=s.toks+1}):wpAny (model prog w) A (mkBytes x) Q E s:=
 ahg (q _ (Ext.grow (h':=s.heap) X (fun _ _ e=>e) (fm _))) hx
def bbu{b:Array UInt8}{t:Tok}{Q:Unit->af->Prop}(q:Q () s):wpAny (model prog w) A (reLiteralCannotBeTurned (.bytes b t)) Q E s:=by
 refine ak ?_;refine ak (ql rfl (bo ?_));refine ak (ql aty ?_);exact bo q
variable{a:ai}{nm:Str}
def awu{code:Array Nat}{t:Tok}{Q:ReTarget->af->Prop}(hp:nv s.heap a (lu nm code 1))(q:Q {pattern:=.ref a,string:=.bytes x t,code:=code,text:=tx x,kind:=1,groups:=0,pos:=0,lim:=(tx x).size} s) :
  wpAny (model prog w) A (reWholeTarget (.ref a) (.bytes x t)) Q E s:=by
 obtain⟨fs,T,ws,n,h1,h2,h3,h4,h5,h6⟩:=hp;refine ak (wpAny_fieldsOf h1 rfl ?_);refine ak ?_;refine ak ?_;refine ak (ql rfl (bo ?_));refine ak (ql asb (bo ?_));refine h4▸?_;refine ak ?_;delta reNoCollectionInside;rw[if_pos (by decide)]
 refine ak (ql aty ?_);refine bo ?_;refine h2▸?_;refine ak ?_;refine ak (nw h5 rfl (bo (bo ?_)));refine h3▸?_;have:((ws.map reRawOf).map (·.toNat))=code:=by
  apply ad4.mp;exact h6
 exact this▸q
def a6z{code:Array Nat}{rep:Array UInt8}{t tr:Tok}(hx:(tx x).size<=sizeLine) :
  arv G nm code 1 a (.bytes x t) (.bytes rep tr) (tx x) rep (cut x) mw ar3 (fun l=>.bytes (ot l)) where
 whole:=awu
 lit:=bbu
 some_:=rfl
 rep_:=mw.snoc
 len_:=mw.length
 sl:=fun{A s Q E b e} k=>ahg (k _ mw.snoc) (by show(cut x b e).size<=sizeLine;unfold cut;rw[Array.size_map,at6];exact O.azp hx)
 fin:=fun{A g s D vs m ys E Q} X e r hj k=>by
  refine ak ?_;show wpAny _ _ (mkBytes (cut x 0 0)) _ _ s;rw[(by simp[cut]:cut x 0 0=#[])]
  refine ba0 X (g9 _) fun t' eM=>?_
  refine ak (nw (s:={s with toks:=s.toks+1}) e rfl ?_);cases vs with
  |nil=>
   refine bP (bo (k _ g _ eM ?_));rw[(by cases ys with|nil=>rfl|cons y ys=>exact r.elim:ys=[])]
   exact⟨t',rfl⟩
  |cons v vs=>
   exact ak (bcc (s:={s with toks:=s.toks+1}) e r hj.1 hj.2 fun t'' tk htk=>bo (k _ g _ (eM.trans (Ext.grow (h':=s.heap) (tk:=tk) (eM.sok X) (fun _ _ e=>e) htk)) ⟨_,rfl⟩))
end
section
open PySem.Builtin.Re
variable {A:az} {s:af}
variable{nm:Str}{p:Array Nat->Nat->Bool}
def bgi{code:Array Nat}{len:Array Nat->Nat->Nat}{a:ai}{x rep:Array UInt8}{t tr:Tok}{g:ah}(PO:aap code p len)(hx:(tx x).size<=sizeLine)(X:SOK G g s)(hp:nv s.heap a (lu nm code 1))(hrep:rep.contains 92=false)
  (hj:ar3 (tf (p (tx x)) (len (tx x)) rep x ((tx x).size+1) 0)) (hl:(tf (p (tx x)) (len (tx x)) rep x ((tx x).size+1) 0).length<=sizeLine) :
  wpAny (model prog w) A (call (.builtin "re.Pattern.sub") [.ref a,.bytes rep tr,.bytes x t]) (bj G g s (.bytes (ot (tf (p (tx x)) (len (tx x)) rep x ((tx x).size+1) 0)))) NoE s:=by
 refine adl (avj (adr ab0.plain _) a2j (ab0.check _ _ _ _ _ _ _ _ (by obtain⟨fs,T,ws,n,h1,_⟩:=hp;exact⟨_,h1,rfl⟩:s.TypeIs (.ref a) "re.Pattern") (a3y _ _ _) ?_))
 show wpAny _ _ (reNamed "re.Pattern.sub" "sub" ["repl", "string", "count"] 2 [.bytes rep tr,.bytes x t] [] >>= _) _ _ s;rw[a0k];refine bP ?_;refine bP ?_;refine ak (ame (ag7 _ _ _) bbq ?_);refine ak (ak (ql rfl (bo ?_)));refine ak (ql asb ?_);refine bP ?_;refine hrep.symm▸?_;refine bP ?_;refine ak (jc (awu hp ?_));refine ak (rd ?_ (by size_fits))
 refine bo ⟨adr aor _,?_⟩;have e:=Ext.grow (h':=s.heap.push {cls:=.type "list",data:=.seq ([]:List ae).toArray}) (tk:=s.toks) X (fun b o e=>b4 _ e) (ay _)
 have hfr:=dq s.heap;refine a0t (nm:=nm) PO (a6z hx) hx ((tx x).size+1) 0 (g9 _) (O.azo) _ g [] 0 0 [] (e.sok X) ⟨gu X hfr,new_priv X hfr⟩ (dw _ rfl) trivial ?_ hj hl fun v g' s' m q=>?_
 .exact hp.keeps fun b o e=>b4 _ e
 .exact⟨g',e.then m fun a h=>h▸hfr,q⟩
open Classical in
noncomputable def ael(p:Array Nat->Nat->Bool)(len:Array Nat->Nat->Nat):D->D->Option D
 |.bytes rep,.bytes x=>if rep.contains 92=false/\(tx x).size<=sizeLine/\ar3 (tf (p (tx x)) (len (tx x)) rep x ((tx x).size+1) 0)/\(tf (p (tx x)) (len (tx x)) rep x ((tx x).size+1) 0).length<=sizeLine then
   some (.bytes (ot (tf (p (tx x)) (len (tx x)) rep x ((tx x).size+1) 0)))else none
 |_,_=>none
def be5{sc:dc}{n:Nat}{code:Array Nat}{len:Array Nat->Nat->Nat}{e1 e2:al}{f₁ f₂:PS->Option D}{np apos pos:Pos}(PO:aap code p len)(hp:l6 G nm code 1)(h₁:Den G sc n e1 f₁)(h2:Den G sc n e2 f₂)(hs1:gg e1=true)(hs2:gg e2=true)
  (hx:sc.names.lookup nm=some .globalImplicit) (hd:(nm==("__debug__" : Str))=false) (hbase:∀env,attributeBase (.Name nm np) "sub" env (eval (.Name nm np) env)=eval (.Name nm np) env) (hline:(apos.endLine==pos.line)=true) :
  Den G sc n (.Call (.Attribute (.Name nm np) "sub" apos) [e1,e2] [] pos) (bin (ael p len) f₁ f₂):=fun A env g s σ d R X y=>by
 refine aq y fun d1 hd1 y=>?_
 obtain⟨d2,hd2,y⟩:=Option.bind_eq_some_iff.mp y;unfold ael at y;split at y
 rotate_left
 .cases y
 rename_i rep x;split at y
 .rename_i hc;cases y;obtain⟨a,hmg,hpa⟩:=hp;refine yu (hbase _) (by rw[uz hs1 hs2];rfl) hline (m9 X hx hd (.inl hmg) ?_)
  have hp0:=l6.at hpa X.sok.gok;obtain⟨fs,T,ws,m,h1,_⟩:=id hp0;refine⟨"re.Pattern", "re.Pattern.sub",a3r,ab0,aw2,⟨_,h1,rfl⟩,(fun b hb=>by cases hb;exact⟨_,h1,rfl⟩),?_⟩
  rw[uz hs1 hs2];refine ug rfl (qf (ju (gv (h₁ R X hd1) (fun v1 s₁ g1 e1 q1=>ju (gv (h2 R (X.mono e1) hd2) (fun v2 s₂ g₂ e2 q2=>q9 ?_))))))
  have X2:=(X.mono e1).mono e2;obtain⟨t,rfl⟩:=q1;obtain⟨t',rfl⟩:=q2;exact wm (bgi PO hc.2.1 X2.sok (l6.at hpa X2.sok.gok) hc.1 hc.2.2.1 hc.2.2.2) (fun _ _ z=>(z.after e2).after e1)
 .exact nomatch y
end
end Mine.P
namespace Mine
variable {prog:dm} {w:dv} {G:Gl prog w} {sc:dc} {n:Nat}
variable{k:Nat}{pos:Pos}
def bfn{l:List UInt8}:Den G sc n (.Constant (.bytes l) k pos) (kD (.bytes l.toArray)):=fun _ _ _ _ _ _ _ x y=>by
 cases y;exact Constant_bytes (bj.tok x.sok ⟨_,rfl⟩)
noncomputable def axw:=P.subD P.dot (fun _ _=>1)
noncomputable def anv:=P.subD P.brk (fun t k=>P.k5 t t.size k)
noncomputable def axv:=P.ael P.dot (fun _ _=>1)
noncomputable def are:PS->Option Out:=
 (ag (ej (bin axw (kD (.str "..")) (bin anv (kD (.str "\r\n")) (var "data")))) nxt)
def bfb{G:Gl prog w}(B:ey G)(h_re1:P.l6 G "_twin_re_1" P.q5 0)(h_re3:P.l6 G "_twin_re_3" P.oj 0)(h_CRLF:yp G "CRLF" "\r\n"):gh G (eu 0) n (en 0) (are):=
 (bg (jx (P.aqu P.ay7 h_re1 dg (P.aqu P.ay6 h_re3 (aqw h_CRLF (by decide+kernel) (by decide)) av rfl rfl (by decide+kernel) (by decide) (fun _=>rfl) rfl) rfl rfl (by decide+kernel) (by decide) (fun _=>rfl) rfl)) cj)
noncomputable def arf:PS->Option Out:=
 (ag (ej (bin axv (kD (.bytes ([46,46]:List UInt8).toArray)) (var "bindata"))) nxt)
def bfc{G:Gl prog w}(B:ey G)(h_re2:P.l6 G "_twin_re_2" P.q5 1):gh G (eu 1) n (en 1) (arf):=
 (bg (jx (P.be5 P.ay7 h_re2 bfn av rfl rfl (by decide+kernel) (by decide) (fun _=>rfl) rfl)) cj)
noncomputable def arj:PS->Option Out:=
 (ag (ej (bin anv (kD (.str "\r\n")) (var "data"))) nxt)
def bfj{G:Gl prog w}(B:ey G)(h_re3:P.l6 G "_twin_re_3" P.oj 0)(h_CRLF:yp G "CRLF" "\r\n"):gh G (eu 2) n (en 2) (arj):=
 (bg (jx (P.aqu P.ay6 h_re3 (aqw h_CRLF (by decide+kernel) (by decide)) av rfl rfl (by decide+kernel) (by decide) (fun _=>rfl) rfl)) cj)
variable {scope:dc} {fs:List String}
def aki(x:Str):(iu x).length=x.cps.size:=b8 ..
def a2i(ds:List D)(i:Nat)(h:i<(nk ds).length):(nk ds)[i]=.tup [.int (i:Int),ds[i]'(by simpa[aaj]using h)]:=by simp[nk]
variable{x:Str}
def eh.enumAscii{A:az}{elts:List al}{x1:Nat}{e I:ai}{t:Tok}(hh:A.handled=none)(hei:e≠I) :
  eh G A (.Tuple elts x1 pos) (.ref e) [e,I] (nk (iu x)) (fun i _ h=>(∃old,IsEnum h e I (i:Nat) old)/\h.IsStrIter I "str_ascii_iterator" x t i) where
 hold:=fun i g g' h h' ⟨⟨old,a⟩,o,b,r⟩ hg hk=>⟨⟨old,hk e (.head _) _ a⟩,o,hk I (.tail _ (.head _)) _ b,r⟩
 live:=fun i g h ⟨⟨old,a⟩,⟨o,b,_⟩⟩ c hc=>by
  simp at hc;rcases hc with rfl|rfl
  .exact⟨_,a⟩
  .exact⟨_,b⟩
 next:=fun i hi g s xx ⟨⟨old,he⟩,hit⟩ hw=>by
  have hi':i<x.cps.size:=by simpa[aaj,aki]using hi
  refine qq (wpAny_pyNext_enum_itemD (as2 (prog:=prog) (w:=w) (A:=A.in1) hh I x t) he hit hi' hei (by simpa using hei) fun v h' tk hc he' hit' ht hsz hk htk=>⟨_,rfl,?_⟩)
  obtain⟨c,u,hc,rfl⟩:=hc;refine av5 he' fun h'' he'' hs=>?_
  have hkb:∀c o,c∉[e,I]->s.heap.get? c=some o->h''.get? c=some o:=fun c o hc x=>by
   simp at hc;exact hs.extBut c o hc.1 (hk c o hc.1 hc.2 x)
  have hle':=bu.le (o:=c8 "tuple" [.int i tk,.str ⟨#[c]⟩ u] 0) (gu xx (dq s.heap));refine⟨_,Turn.butsNew (tk:=tk+1) xx hw hkb ?_ (dq _) (hs.extBut _ _ (su (il he):s.heap.objs.size≠e) ht),?_,⟨_,by assumption⟩,?_⟩
  .exact htk
  .rw[a2i];refine⟨_,[.int i tk,.str ⟨#[c]⟩ u],0,rfl,bu.self,⟨_,rfl⟩,?_,trivial⟩;simp only[iu,aba,am1];rw[ui hi']at hc;cases hc;exact⟨_,rfl⟩
  .obtain⟨o,a,r⟩:=hit';exact⟨o,hs.extBut _ _ hei.symm a,r⟩
 self:=fun _ _ _ _ _ ⟨⟨_,st⟩,_⟩ q=>amq st q
 done:=fun g s xx ⟨⟨old,he⟩,hit⟩ hw=>by
  rw[aaj,aki]at he hit;refine wpAny_pyNext_enum_endD (as2 (prog:=prog) (w:=w) (A:=A.in1) hh I x t) he hit fun h' hk=>⟨rfl,g,Turn.buts (tk:=s.toks) xx hw (fun c o hc e=>hk c o (by simp at hc;exact hc.2) e) (ay _)⟩
noncomputable def af6:D->Option Str
 |.str x=>some x
 |.hstr x=>some x
 |_=>none
noncomputable def isA(x:Str):Bool:=x.cps.all (·<128)
def aoj{g:ah}{v:ae}{d:D}(q:Rep prog w g v d)(h:af6 d=some x):∃t,v=.str x t:=by
 cases d<;>simp only[af6]at h<;>first|(exact ns rfl h;done)|skip
 all_goals (cases h;simp only[Rep]at q)
 .exact q
 .obtain⟨t,e,_⟩:=q;exact⟨t,e⟩
section
variable {M:Model} {A:az} {R:GenEnd} {Y:Protocol} {s₀:af} {c:Code} {fs:List Frame} {s:af} {env:Env}
 {K:Flow->Sem Fin} {H:ae->Sem Fin} {gd:Bool->Bool} {lv:List ae->List ae}
def bah{α:Type}{A:az}{m:Sem α}{Q:α->af->Prop}{E:ae->af->Prop}{s:af}(h:wpAny M A m Q NoE s):wpAny M A m Q E s:=wm' h (fun _ _ q=>q)
variable{body orelse:List Stmt}{pos:Pos}
def an7{test:al}
  (h:wpAny M (A.over c fs) (isTrue test env (eval test env)) (fun b s'=>if b=true then Seg M A R Y n s₀ c ((execs body env).wrap K H gd lv) fs s' else Seg M A R Y n s₀ c ((execs orelse env).wrap K H gd lv) fs s') NoE s) :
  Seg M A R Y n s₀ c ((exec (.If test body orelse pos) env).wrap K H gd lv) fs s:=by
 rw[exec_If];refine rk (ox ?_);refine rk (wm' h (fun b s' q=>?_))
 cases b<;>exact q
def aiq{st:Stmt}(h:wpAny M (A.over c fs) (exec st env) (fun f s'=>Seg M A R Y n s₀ c (K f) fs s') NoE s):Seg M A R Y n s₀ c ((exec st env).wrap K H gd lv) fs s:=
 seg_wrap (bah h)
noncomputable def a1s(env:Env)(K:Flow->Sem Fin)(H:ae->Sem Fin)(gd:Bool->Bool)(lv:List ae->List ae)(r:Result):Sem Fin:=
 ((match r with|.ok f=>(.pure f:Sem Flow)|.error e=>.raise e).onRaise fun(x:ae)=>do
  if(<-field x 1)==rh then unsupported "frame.own-activation:exception-without-traceback"
  setFlight x env.frame).wrap K H gd lv
def a7z{target iter:al}
  (h:wpAny M (A.over c fs) (eval iter env) (fun x s₁=>wpAny M (A.over c fs) (pyIter x) (fun it s₂=>∀p,
   Seg M A R Y n s₀ (.forLoop target it body orelse env) (M.den (.forLoop target it body orelse env)) (.ret (a1s env K H gd lv) none (gd false) (lv []) c p []::fs) s₂) NoE s₁) NoE s)
  (hs:∀x,foldedSetIterable iter env x=pure x):Seg M A R Y n s₀ c ((exec (.For target iter body orelse pos) env).wrap K H gd lv) fs s:=by
 rw[exec_For];refine rk (ox ?_);refine rk (wm' h (fun x s₁ h1=>?_))
 refine rk (ql (hs x) ?_);refine rk (ox ?_);refine rk (jc (wm' h1 (fun it s₂ h2=>?_)))
 exact seg_call h2
end
section
variable {A:az} {R:GenEnd} {Y:Protocol} {s₀:af} {fs:List Frame} {s:af} {env:Env}
noncomputable def a1u(target:al)(it:ae)(body orelse:List Stmt)(env:Env):Flow->Sem Fin:=fun f=>match f with
 |.next|.cont=>.pure (.again (.forLoop target it body orelse env))
 |.brk=>.pure (.done .next)
 |.ret v=>.pure (.done (.ret v))
noncomputable def a1v(env:Env):ae->Sem Fin:=fun e=>(do noteFrame e env;theTreesLotGoes e:Sem Unit).wrap (fun _=>.raise e) .raise id id
def ayd{target:al}{it:ae}{body orelse:List Stmt}
  (h:wpAny (model prog w) (A.over (.forLoop target it body orelse env) fs) (pyNext it) (fun r s₁=>match r with
   |none=>Seg (model prog w) A R Y n s₀ (.block orelse env) ((model prog w).den (.block orelse env)) fs s₁
   |some v=>wpAny (model prog w) (A.over (.forLoop target it body orelse env) fs) (letOwnedTupleGo target it v) (fun _ s₂=>
     wpAny (model prog w) (A.over (.forLoop target it body orelse env) fs) (assign target env v) (fun _ s₃=>
      Seg (model prog w) A R Y n s₀ (.forLoop target it body orelse env) ((execs body env).wrap (a1u target it body orelse env) (a1v env) id id) fs s₃) NoE s₂) NoE s₁) NoE s) :
  Seg (model prog w) A R Y n s₀ (.forLoop target it body orelse env) ((model prog w).den (.forLoop target it body orelse env)) fs s:=by
 show Seg _ A R Y n s₀ _ ((forTurn target it body orelse env).onRaise (fun x=>do noteFrame x env;theTreesLotGoes x)) fs s
 rw[Sem.onRaise_eq_wrap];refine rk (ox ?_);refine rk (ahf (wm' h (fun r s₁ h1=>?_)))
 induction r with
 |none=>exact seg_again rfl h1
 |some v=>
  refine rk (wm' h1 (fun _ s₂ h2=>?_))
  refine rk (wm' h2 (fun _ s₃ h3=>?_))
  rw[Sem.bind_eq_wrap',Sem.wrap_wrap];have e:∀gd lv,(execs body env).wrap (a1u target it body orelse env) (a1v env) gd lv=(execs body env).wrap (fun a=>Sem.wrap agy (fun e=>ale (do noteFrame e env;theTreesLotGoes e) fun _=>ali e) id id
    (match a with
    |Flow.next=>again (asa target it body orelse env)
    |Flow.cont=>again (asa target it body orelse env)
    |Flow.brk=>pure (Fin.done Flow.next)
    |Flow.ret v=>pure (Fin.done (Flow.ret v)))) (fun e=>Sem.wrap agy (fun e=>ale (do noteFrame e env;theTreesLotGoes e) fun _=>ali e) id id (ali e)) gd lv:=fun gd lv=>by
   refine Sem.wrap_congr _ _ _ (fun f=>?_) fun e=>?_
   .cases f<;>rfl
   .show _=ale _ _;rw[Sem.bind_eq_wrap];rfl
  first
   |exact(e _ _)▸h3
   |(rw[e]at h3;exact h3)
   |(refine cast ?_ h3;congr 1;exact e _ _)
end
noncomputable def g0:ah:=⟨fun _=>none,0⟩
noncomputable def imm:D->Bool
 |.none=>true
 |.bool _=>true
 |.int _=>true
 |.str _=>true
 |.bytes _=>true
 |.hstr _=>false
 |.tup _=>false
 |.list _=>false
 |.dict _=>false
theorem Rep.imm{prog:dm}{w:dv}{g g':ah}{v:ae}{d:D}(q:Rep prog w g v d)(h:imm d=true):Rep prog w g' v d:=by
 cases d<;>first|exact q|cases h
theorem a9.imm{prog:dm}{w:dv}{g g':ah}:∀{vs:List ae} {ds:List D},a9 prog w g vs ds->ds.all imm=true->a9 prog w g' vs ds
 |[],[],_,_=>trivial
 |[],_::_,q,_=>q.elim
 |_::_,[],q,_=>q.elim
 |v::vs,d::ds,q,h=>by
  simp only[al6,atl]at h;exact⟨Rep.imm q.1 h.1,a9.imm q.2 h.2⟩
def arz(σ:PS):Prop:=(∀x d,σ.vars x=some d->imm d=true)/\∀x,σ.own x=none
theorem SOK.g0{g:ah}{s:af}(x:SOK G g s):SOK G g0 s:=⟨fun _ _ e=>(by cases e),rfl,x.gok,x.toks,g9 _,x.bare⟩
variable{W:ai->Prop}{env:Env}
def Fr.bareView{g:ah}{s:af}{σ:PS}(F:Fr G sc env W g s σ)(h:arz σ):Fr G sc env W Mine.g0 s σ:=
 {F with
  eok:={F.eok with
   sok:=F.eok.sok.g0
   vars:=fun x d e=>let⟨v,a,b⟩:=F.eok.vars x d e;⟨v,a,b.imm (h.1 x d e)⟩
   own:=fun x d e=>by rw[h.2 x]at e;cases e}
  priv:=fun a ha=>⟨rfl,(F.priv a ha).2⟩}
noncomputable def gY(G:Gl prog w)(outs:List D)(W:ai->Prop):Protocol:=fun m s₀ v s kap=>
 ∃d,outs.reverse[m]?=some d/\(∃g',Mv G W g0 s₀ g' s)/\(∃a o,v=.ref a/\s₀.heap.get? a=none/\s.heap.get? a=some o/\¬W a/\∀g:ah,g.f a=some o->Rep prog w g v d) /\
  (∀a,W a->∃o,s.heap.get? a=some o)/\∀s'',(∀a o,W a->s.heap.get? a=some o->s''.heap.get? a=some o)->SOK G g0 s''->kap (.send .none) s''
def gP(G:Gl prog w)(W:ai->Prop):Nat->af->af->Prop:=fun n s₀ s=>n=0/\∃g',Mv G W g0 s₀ g' s
noncomputable def gR(G:Gl prog w)(W:ai->Prop):GenEnd:=fun n s₀ r s₁=>r=.ok (.ret .none)/\gP G W n s₀ s₁
section
variable {A:az} {fs:List Frame} {s₀ s:af} {c:Code} {env:Env} {K:Flow->Sem Fin} {H:ae->Sem Fin} {gd:Bool->Bool} {lv:List ae->List ae}
variable{W:ai->Prop}{e:al}{f:PS->Option D}{σ:PS}
def an6{W2:ai->Prop}{g:ah}{outs:List D}{m:Nat}{ypos pos:Pos}{ds:List D}(hd:Den G sc n e f)(R:dy (A.over c fs) n)(hfs:splitAtGen fs=none)(hgd:gd false=false)(hfg:fs.any asq=false)
  (M0:Mv G W2 Mine.g0 s₀ g s) (F:Fr G sc env W g s σ) (hid:∀a,W2 a->g.f a=none) (live:∀a,W2 a->∃o,s.heap.get? a=some o) (hP:∀a,W2 a->a≠G.P) (hf:f σ=some (.tup ds)) (hds:ds.all imm=true) (ho:outs.reverse[m]?=some (.tup ds))
  (hco:env.scope.isCoroutine=false) (hi:interactive env=false)
  (k:∀s'',(∀a o,W2 a->s.heap.get? a=some o->s''.heap.get? a=some o)->SOK G Mine.g0 s''->Seg (model prog w) A (gR G W2) (gY G outs W2) m s'' c (K .next) fs s'') :
  Seg (model prog w) A (gR G W2) (gY G outs W2) (m+1) s₀ c ((exec (.Expr (.Yield (some e) ypos) pos) env).wrap K H gd lv) fs s:=by
 refine seg_Expr_Yield hfs hgd hfg (e9 (hd R F.eok hf) (fun v s' ⟨g',E,q⟩ kap hk=>?_) fun _ _ f=>f.elim) hco hi
 have M1:=M0.trans (E.mv (W:=W2)) fun a h=>.inl h
 dsimp only[Rep]at q;obtain⟨a,vs,t,rfl,ea,r⟩:=q;have hnW:¬W2 a:=fun h=>by have:=E.hidden (hid a h) (live a h);exact ns this ea
 refine⟨_,ho,⟨g',M1⟩,⟨a,_,rfl,?_,M1.view a _ ea,hnW,fun g'' e=>?_⟩,fun a h=>?_,fun s'' hs X=>?_⟩
 .rcases M1.new a _ ea with h|h|h
  .cases h
  .exact absurd h hnW
  .exact h
 .dsimp only[Rep];exact⟨a,vs,t,rfl,e,r.imm hds⟩
 .obtain⟨o,e⟩:=live a h;exact⟨o,E.heap a o (hP a h) e⟩
 .exact hk .none s'' (k s'' (fun a o h e=>hs a o h (E.heap a o (hP a h) e)) X)
def Fr.turn{wr:List ai}{g g':ah}{s s':af}(F:Fr G sc env W g s σ)(T:Turn G wr g s g' s')(hid:∀a∈wr,¬W a)(hc:∀a∈wr,∀x,env.cells.lookup x≠some a):Fr G sc env W g' s' σ:=
 F.keepOf (T.sok F.eok.sok) T.gle (fun a h=>T.hidden (F.priv a h).1 (F.here a h)) fun a o h e=>T.heap a o
  (by
   rcases h with h|⟨x,h⟩
   .exact(F.priv a h).2.2
   .obtain⟨v,hv⟩:=F.eok.allc x a h;obtain⟨o',vs,e',d',_⟩:=F.eok.sok.gok.hasP;exact ajy e' d' hv)
  (fun ha=>by
   rcases h with h|⟨x,h⟩
   .exact hid a ha h
   .exact hc a ha x h) e
def a3t{g:ah}{s:af}{x:String}{p pos:Pos}{d:D}(h:Den G sc n e f)(R:dy A n)(hx:mq sc x)(hs:∀env,swapsWith e (some (.Name (aj x) p)) pos.line env=pure false)(F:Fr G sc env W g s σ)(hd:f σ=some d) :
  wpAny (model prog w) A (exec (.Assign [.Name (aj x) p] e pos) env) (fun fl s'=>fl=.next/\∃g',Mv G W g s g' s'/\Fr G sc env W g' s' (σ.set x d)) NoE s:=by
 refine abi (gv (h R F.eok hd) (fun v s₁ g1 e1 q=>?_)) (hs env)
 have F1:=F.keep e1;exact s8 F1 hx fun s' S=>⟨rfl,g1,e1.mv.trans S.mv (fun a h=>.inl h),S.set F1 q⟩
end
section
open PySem.Sem (wp)
open PySem.Builtin PySem.Builtin.Str
variable {A:az} {E:ae->af->Prop} {s:af}
variable{i:Nat}{x:Str}
def bhk{I:ai}{t:Tok}{Q:ae->af->Prop}(hh:A.handled=none)(hit:s.heap.IsStrIter I "str_ascii_iterator" x t i)(hx:x.cps[i]?=none)
  (hE:∀h' e,um I s.heap h'->(∃o,h'.get? I=some o)->(∃o,h'.get? e=some o/\o.cls=.type "StopIteration")->E (.ref e) {s with heap:=h'}) :
  wpAny (model prog w) A (sr (.ref I)) Q E s:=by
 obtain⟨o,ho,hc,hd⟩:=id hit;delta sr;refine ak (sq (name:=aj "__next__") hit.typeIs awk
  (m0 awk hit.typeIs PySem.F.entry_str_ascii_iterator_next ?_ (PySem.F.args_str_ascii_iterator_next_1 _)))
 show wpAny _ _ (field (.ref I) 0 >>= _) _ _ s;refine ak (kh ho hd (x:=.str x t) rfl ?_);show wpAny _ _ (field (.ref I) 1 >>= _) _ _ s;refine ak (kh ho hd (x:=.int i 0) rfl ?_);simp only[abl,hx];refine ak (wh (ak (al7 ho hd (gf _) (ak (ag5 ?_)))));refine ak ?_;dsimp only[newExc,newTuple];refine ak (rd ?_ (by size_fits))
 refine ak (m:=firstArgMember _ _) (ql (a:=rh) (by first|rfl|(simp only[firstArgMember];rfl)) ?_)
 refine rd ?_ (by size_fits)
 dsimp only[raiseNew];refine ak (al3 ?_)
 first|rw[show A.in1.handled=none from hh]|refine hh▸?_
 refine bP (alp ?_);refine hE _ _ (((aee ..).extBut.push _).push _) ?_ ⟨_,dw _ rfl,rfl⟩;exact⟨_,b4 _ (b4 _ (ah5 _ ho (by obtain⟨c1,d1,d2,d3⟩:=o;dsimp only at hd;subst hd;rfl)))⟩
def bee{e I:ai}{t:Tok}{j:Int}{old:ae}{Q:Option ae->af->Prop}(hh:A.handled=none)(he:IsEnum s.heap e I j old)(hit:s.heap.IsStrIter I "str_ascii_iterator" x t i)(hx:x.cps[i]?=none)
  (hQ:∀h',um I s.heap h'->(∃o,h'.get? I=some o)->Q none {s with heap:=h'}):wpAny (model prog w) A (pyNext (.ref e)) Q E s:=by
 have hT:s.TypeIs (.ref e) "enumerate" := ⟨_,he,rfl⟩;refine ak (aa8 (sq (name:=aj "__next__") hT av7
  (m0 av7 hT PySem.F.entry_enumerate_next ?_ (PySem.F.args_enumerate_next_1 _))))
 show wpAny _ _ (field (.ref e) 2 >>= _) _ _ _;refine ak (kh he rfl (x:=.ref I) rfl ?_);refine ak (bhk (A:=A.in1) hh hit hx fun h' x he' hl hx'=>?_)
 obtain⟨o,ho,hc⟩:=hx';refine ak (ad2 (T := "StopIteration") (b:=true) ⟨o,ho,hc⟩ ahi ?_);exact bo (hQ _ he' hl)
end
noncomputable def df:Bool->Nat->List Nat->List D
 |e,i,[]=>if e=true then [.tup [.int ((i:Int) - 1),.str ⟨#[92]⟩]]else []
 |e,i,c::cs=>if e=true then .tup [.int (i:Int),.str ⟨#[92,c]⟩]::df false (i+1) cs else if c=92 then df true (i+1) cs else .tup [.int (i:Int),.str ⟨#[c]⟩]::df false (i+1) cs
def a2c{e i}:df e i []=if e=true then [.tup [.int ((i:Int) - 1),.str ⟨#[92]⟩]]else []:=rfl
def afp{e i c cs}:df e i (c::cs)=if e=true then .tup [.int (i:Int),.str ⟨#[92,c]⟩]::df false (i+1) cs else if c=92 then df true (i+1) cs else .tup [.int (i:Int),.str ⟨#[c]⟩]::df false (i+1) cs:=rfl
noncomputable def stE(p:Int)(e:Bool):PS:=⟨fun y=>if y = "pos"then some (.int p)else if y = "escape"then some (.bool e)else none,fun _=>none⟩
noncomputable def stC(p:Int)(e:Bool)(c:Nat):PS:=⟨fun y=>if y = "pos"then some (.int p)else if y = "escape"then some (.bool e)else if y = "ch"then some (.str ⟨#[c]⟩)else none,fun _=>none⟩
def bag(p:Int)(e:Bool)(c:Nat):arz (stC p e c):=by
 refine⟨fun x d h=>?_,fun _=>rfl⟩
 unfold stC at h;dsimp only at h;split at h
 .cases h;rfl
 .split at h
  .cases h;rfl
  .split at h
   .cases h;rfl
   .cases h
def a7e(p:Int)(e:Bool)(c:Nat):(stE p e).le (stC p e c):=by
 refine⟨fun x d h=>?_,fun _ _ h=>(by cases h)⟩
 unfold stE at h;unfold stC;dsimp only at h |-;split at h
 .rename_i hx;rw[if_pos hx];exact h
 .rename_i hx;rw[if_neg hx];split at h
  .rename_i hy;rw[if_pos hy];exact h
  .cases h
def a7f(p p':Int)(e:Bool)(c:Nat):(stC p e c).le (((stE p' e).set "pos" (.int p)).set "ch" (.str ⟨#[c]⟩)):=by
 refine⟨fun x d h=>?_,fun _ _ h=>(by cases h)⟩
 unfold stC at h;unfold PS.set stE;dsimp only at h |-;split at h
 .rename_i hx;subst hx;rw[if_neg (by decide),if_pos rfl];exact h
 .rename_i hx;split at h
  .rename_i hy;subst hy;rw[if_neg (by decide),if_neg hx,if_neg (by decide),if_pos rfl];exact h
  .split at h
   .rename_i hz;rw[if_pos hz];exact h
   .cases h
def ax1(p:Int)(e e':Bool)(c:Nat):(stE p e').le ((stC p e c).set "escape" (.bool e')):=by
 refine⟨fun x d h=>?_,fun _ _ h=>(by cases h)⟩
 unfold stE at h;unfold PS.set stC;dsimp only at h |-;split at h
 .rename_i hx;subst hx;rw[if_neg (by decide),if_pos rfl];exact h
 .rename_i hx;split at h
  .rename_i hy;rw[if_pos hy];exact h
  .cases h
structure a4g(G:Gl prog w)(sc:dc)(n:Nat)(tgt e1 ey1 ec1 e2 ec2 ey2:al)(ap1 aq1 ap2 aq2:Pos)(T1 T2:PS->Option Bool)(Y1 C1 C2 Y2:PS->Option D):Prop where
 tg:pw G sc tgt (cz ["pos", "ch"])
 t1:q6 G sc n e1 T1
 t2:q6 G sc n e2 T2
 y1:Den G sc n ey1 Y1
 y2:Den G sc n ey2 Y2
 c1:Den G sc n ec1 C1
 c2:Den G sc n ec2 C2
 hx:mq sc "escape"
 s1:∀env,swapsWith ec1 (some (.Name (aj "escape") ap1)) aq1.line env=pure false
 s2:∀env,swapsWith ec2 (some (.Name (aj "escape") ap2)) aq2.line env=pure false
 vT1:∀p e c,T1 (stC p e c)=some e
 vT2:∀p e c,T2 (stC p e c)=some (decide (c=92))
 vY1:∀p e c,Y1 (stC p e c)=some (.tup [.int p,.str ⟨#[92,c]⟩])
 vY2:∀p e c,Y2 (stC p e c)=some (.tup [.int p,.str ⟨#[c]⟩])
 vC1:∀σ,C1 σ=some (.bool false)
 vC2:∀σ,C2 σ=some (.bool true)
section
variable {A:az} {fs0:List Frame} {c0:Code} {env:Env} {K:Flow->Sem Fin} {H:ae->Sem Fin} {gd:Bool->Bool} {lv:List ae->List ae}
variable{outs:List D}
def aof{pre rest:List D}{d:D}(h:outs=pre++d::rest):outs.reverse[rest.length]?=some d:=by
 subst h;rw[List.reverse_append,at0,gj,ang (by simp)]
 simp
variable{I:ai}{W W2:ai->Prop}
def at2{E:ai}(h:∀a,W2 a↔W a\/a=E\/a=I){P:ai->Prop}(h1:∀a,W a->P a)(h2:P E)(h3:P I)(a:ai)(ha:W2 a):P a:=
 ((h a).mp ha).elim (h1 a) fun h=>h.elim (fun h=>h▸h2) fun h=>h▸h3
def or2{E:ai}{P:ai->Prop}(h2:P E)(h3:P I)(a:ai)(h:a=E\/a=I):P a:=h.elim (fun h=>h▸h2) fun h=>h▸h3
def mem2{E:ai}{P:ai->Prop}(h2:P E)(h3:P I)(a:ai)(h:a∈[E,I]):P a:=or2 h2 h3 a (by simpa using h)
def a7x{elts:List al}{x1:Nat}{tpos:Pos}{e1 ey1 ec1 e2 ec2 ey2:al}{yp1 xp1 ap1 aq1 ap2 aq2 ip2 ip1 yp2 xp2:Pos}{T1 T2:PS->Option Bool}{Y1 C1 C2 Y2:PS->Option D}
  (X:a4g G sc n (.Tuple elts x1 tpos) e1 ey1 ec1 e2 ec2 ey2 ap1 aq1 ap2 aq2 T1 T2 Y1 C1 C2 Y2)
  {body:List Stmt} (hbody:body=[.If e1 [.Expr (.Yield (some ey1) yp1) xp1,.Assign [.Name (aj "escape") ap1] ec1 aq1] [.If e2 [.Assign [.Name (aj "escape") ap2] ec2 aq2] [.Expr (.Yield (some ey2) yp2) xp2] ip2] ip1])
   {E:ai} {x:Str} {t:Tok}  (hEI:E≠I) (hE:G.hB.get? E=none/\E≠G.P) (hI:G.hB.get? I=none/\I≠G.P) (hEW:¬W E) (hIW:¬W I) (hcell:∀y,env.cells.lookup y≠some E/\env.cells.lookup y≠some I)
   (hW2:∀a,W2 a↔W a\/a=E\/a=I) (hcW:∀y a,env.cells.lookup y=some a->W a)
  {g l} {p0:Pos} {fs1:List Frame} (hfs1:fs1=.ret (a1s env K H gd lv) none g l c0 p0 []::fs0) (hsp:splitAtGen fs1=none) (hgu:fs1.any asq=false)
  (R:dy (A.over (.forLoop (.Tuple elts x1 tpos) (.ref E) body [] env) fs1) n) (hco:env.scope.isCoroutine=false) (hi:interactive env=false)
  (hend:∀(i:Nat) (e:Bool) (p:Int) s₀ s v,(e=true->p=(i:Int) - 1)->(∃pre,outs=pre++df e i [])->Mv G W2 g0 s₀ v s->Fr G sc env W v s (stE p e)->(∀a,W2 a->v.f a=none)->(∀a,W2 a->∃o,s.heap.get? a=some o) ->
   Seg (model prog w) A (gR G W2) (gY G outs W2) (df e i []).length s₀ c0 (K .next) fs0 s) :
  ∀(cs:List Nat) (i:Nat) (e:Bool) (p:Int) (s₀ s:af) (v:ah),x.cps.toList.drop i=cs->i<=x.cps.size->(e=true->p=(i:Int) - 1)->(∃pre,outs=pre++df e i cs) ->
   Mv G W2 g0 s₀ v s->Fr G sc env W v s (stE p e)->v.f E=none->v.f I=none->(∃old,IsEnum s.heap E I (i:Nat) old)->s.heap.IsStrIter I "str_ascii_iterator" x t i ->
   Seg (model prog w) A (gR G W2) (gY G outs W2) (df e i cs).length s₀ (.forLoop (.Tuple elts x1 tpos) (.ref E) body [] env) ((model prog w).den (.forLoop (.Tuple elts x1 tpos) (.ref E) body [] env)) fs1 s:=by
 have wrW2:∀a∈[E,I],W2 a:=fun a ha=>(hW2 a).mpr (.inr (by simpa using ha))
 have nW:∀a∈[E,I],¬W a:=mem2 hEW hIW;have nC:∀a∈[E,I],∀y,env.cells.lookup y≠some a:=mem2 (fun y=>(hcell y).1) fun y=>(hcell y).2
 intro cs;induction cs with
 |nil=>
  intro i e p s₀ s v hd hi' hp ho M0 F hgE hgI he hit;have hin:i=x.cps.size:=by
   have:=List.drop_eq_nil_iff.mp hd;rw[l7]at this;exact atb hi' this
  subst hin;refine ayd ?_;obtain⟨old,he⟩:=he;refine bee R.hh he hit (by simp) fun h' hk hl=>?_
  have T:Turn G [E,I] v s v {s with heap:=h'}:=Turn.buts (tk:=s.toks) F.eok.sok (mem2 (⟨hgE,hE⟩:v.f E=none/\G.hB.get? E=none/\E≠G.P) (⟨hgI,hI⟩:v.f I=none/\G.hB.get? I=none/\I≠G.P)) (fun c o hc e=>hk c o (by simp at hc;exact hc.2) e) (ay _)
  have F':=F.turn T nW nC;subst hfs1;refine seg_leaf (.ok .next) ?_;refine hend _ _ _ _ _ _ hp ho (M0.trans (T.mv (W:=W2) wrW2) fun a h=>.inl h) F' (at2 hW2 (fun a h=>(F'.priv a h).1) hgE hgI) (at2 hW2 F'.here ⟨_,hk _ _ hEI he⟩ hl)
 |cons ch cs ih=>
  intro i e p s₀ s v hd hi' hp ho M0 F hgE hgI he hit;have hlt:i<x.cps.size:=by
   have:(x.cps.toList.drop i).length=(ch::cs).length:=by rw[hd]
   rw[nz,l7,dh]at this;exact O.ck [_,_,_] [.le .x0 .x1,.eq (.s .x1 .x0) (.a .x2 (.c 1))] (.lt .x0 .x1) 108119 rfl hi' this
  have hch:x.cps[i]=ch:=by
   have h:=lh (l:=x.cps.toList) (i:=i) (by simpa using hlt)
   rw[h]at hd;simpa using(al2 hd).1
  have hd':x.cps.toList.drop (i+1)=cs:=by
   have h:=lh (l:=x.cps.toList) (i:=i) (by simpa using hlt)
   rw[h]at hd;exact(al2 hd).2
  have hget:(nk (iu x))[i]'(by rw[aaj,aki];exact hlt)=.tup [.int (i:Int),.str ⟨#[ch]⟩]:=by
   rw[a2i];simp[iu,hch]
  refine ayd (e9 ((eh.enumAscii (G:=G) (prog:=prog) (w:=w) (A:=A.over (.forLoop (.Tuple elts x1 tpos) (.ref E) body [] env) fs1) (elts:=elts) (x1:=x1) (pos:=tpos) (e:=E) (I:=I) (x:=x) (t:=t) R.hh hEI).next i (by rw[aaj,aki];exact hlt) v s F.eok.sok ⟨he,hit⟩ (mem2 ⟨hgE,hE⟩ ⟨hgI,hI⟩)) (fun r s₁ ⟨u,hu,h⟩=>?_) fun _ _ f=>f)
  subst hu;have liveE:∃o,s.heap.get? E=some o:=let⟨_,he⟩:=he;⟨_,he⟩;have liveI:∃o,s.heap.get? I=some o:=let⟨o,hit,_⟩:=hit;⟨o,hit⟩;refine e9 h (fun _ s₂ ⟨v2,T,q,he2,hit2⟩=>?_) fun _ _ f=>f
  rw[hget]at q;refine e9 (X.tg R.hh (F.turn T nW nC) q (σ':=((stE p e).set "pos" (.int (i:Int))).set "ch" (.str ⟨#[ch]⟩)) rfl) (fun _ s₃ ⟨m3,F3'⟩=>?_) fun _ _ f=>f
  have F3:=F3'.le (a7f (i:Int) p e ch);have he3:∃old,IsEnum s₃.heap E I ((i+1:Nat):Int) old:=let⟨old,he⟩:=he2;⟨old,m3.heap _ _ hE.2 hEW he⟩;have hit3:s₃.heap.IsStrIter I "str_ascii_iterator" x t (i+1):=let⟨o,a,r⟩:=hit2;⟨o,m3.heap _ _ hI.2 hIW a,r⟩;have keepIt:∀{s4:af} {h:bf},(∀a o,(a=E\/a=I)->s4.heap.get? a=some o->h.get? a=some o)->(∃old,IsEnum s4.heap E I ((i+1:Nat):Int) old)->s4.heap.IsStrIter I "str_ascii_iterator" x t (i+1) ->
    (∃old,IsEnum h E I ((i+1:Nat):Int) old)/\h.IsStrIter I "str_ascii_iterator" x t (i+1):=fun hk ⟨old,a⟩ ⟨o,b,r⟩=>⟨⟨old,hk E _ (.inl rfl) a⟩,o,hk I _ (.inr rfl) b,r⟩
  have liveAt:∀{s4:af} {v4:ah} {σ:PS},Fr G sc env W v4 s4 σ->(∃old,IsEnum s4.heap E I ((i+1:Nat):Int) old)->s4.heap.IsStrIter I "str_ascii_iterator" x t (i+1)->∀a,W2 a->∃o,s4.heap.get? a=some o:=fun F ⟨old,a⟩ ⟨o,b,r⟩=>at2 hW2 F.here ⟨_,a⟩ ⟨_,b⟩
  have hidAt:∀{s4:af} {v4:ah} {σ:PS},Fr G sc env W v4 s4 σ->v4.f E=none->v4.f I=none->∀a,W2 a->v4.f a=none:=fun F=>at2 hW2 fun c h=>(F.priv c h).1
  have PW:∀a,W2 a->a≠G.P:=at2 hW2 (fun a h=>(F.priv a h).2.2) hE.2 hI.2
  have wake:∀{s4 s'':af} {v4:ah} {e':Bool},Fr G sc env W v4 s4 (stC (i:Int) e' ch)->(∀a o,W2 a->s4.heap.get? a=some o->s''.heap.get? a=some o)->SOK G Mine.g0 s''->Fr G sc env W Mine.g0 s'' (stC (i:Int) e' ch):=fun F hk X=>
   (F.bareView (bag _ _ _)).keepOf X (VLe.refl _) (fun _ _=>rfl) fun a o h e=>hk a o ((hW2 a).mpr (.inl (h.elim id fun⟨y,h⟩=>hcW y a h))) e
  obtain⟨pre,ho⟩:=ho;rw[(congrArg (fun b=>execs b env) hbody:execs body env=execs _ env)]
  refine rn (an7 (e9 (X.t1 R F3.eok (X.vT1 _ _ _)) (fun b s4 ⟨hb,v4,E₄⟩=>?_) fun _ _ f=>f))
  subst hb;have F4:=F3.keep E₄;have M4:=((M0.trans (T.mv (W:=W2) wrW2) fun a h=>.inl h).trans (m3.weak fun a h=>(hW2 a).mpr (.inl h)) fun a h=>.inl h).trans (E₄.mv (W:=W2)) fun a h=>.inl h
  have it4:=keepIt (h:=s4.heap) (fun a o h e=>E₄.heap a o (h.elim (fun h=>h▸hE.2) fun h=>h▸hI.2) e) he3 hit3
  have hgE4:=E₄.hidden (T.hidden hgE liveE) (let⟨_,he⟩:=he3;⟨_,he⟩);have hgI4:=E₄.hidden (T.hidden hgI liveI) (let⟨o,hit,_⟩:=hit3;⟨o,hit⟩);have fin:∀{e':Bool} {σ':PS} {s0' s5 s₆:af} {v5 v6:ah},Fr G sc env W v6 s₆ σ'->(stE (i:Int) e').le σ'->(∃pre,outs=pre++df e' (i+1) cs)->Mv G W2 Mine.g0 s0' v5 s5->Mv G W v5 s5 v6 s₆->v5.f E=none->v5.f I=none ->
    (∃old,IsEnum s5.heap E I ((i+1:Nat):Int) old)->s5.heap.IsStrIter I "str_ascii_iterator" x t (i+1) ->
    Seg (model prog w) A (gR G W2) (gY G outs W2) (df e' (i+1) cs).length s0' (.forLoop (.Tuple elts x1 tpos) (.ref E) body [] env) (.pure (.again (.forLoop (.Tuple elts x1 tpos) (.ref E) body [] env))) fs1 s₆:=fun{e' σ' s0' s5 s₆ v5 v6} F hle ho M m hE5 hI5 a b=>by
   have it:=keepIt (h:=s₆.heap) (fun a o h e=>m.heap a o (h.elim (fun h=>h▸hE.2) fun h=>h▸hI.2) (h.elim (fun h=>h▸hEW) fun h=>h▸hIW) e) a b
   have hid':∀c,v5.f c=none->¬W c->s5.heap.get? c≠none->v6.f c=none:=fun c h5 hw hl=>by
    cases q:v6.f c with
    |none=>rfl
    |some o=>exact(m.new c o q).elim (fun h=>nomatch h5.symm.trans h) fun h=>h.elim (fun h=>absurd h hw) fun h=>absurd h hl
   exact seg_again rfl (ih (i+1) e' (i:Int) s0' s₆ v6 hd' hlt (fun _=>(abo (i:Int) 1).symm) ho (M.trans (m.weak fun a h=>(hW2 a).mpr (.inl h)) fun a h=>.inl h) (F.le hle) (hid' E hE5 hEW (fun h=>by obtain⟨_,a⟩:=a;exact nomatch a.symm.trans h)) (hid' I hI5 hIW (fun h=>by obtain⟨_,b,_⟩:=b;exact nomatch b.symm.trans h)) it.1 it.2)
  cases b with
  |true=>
   rw[if_pos rfl];rw[show df true i (ch::cs)=.tup [.int (i:Int),.str ⟨#[92,ch]⟩]::df false (i+1) cs from rfl]at ho |-;refine rn (an6 X.y1 R hsp rfl hgu M4 F4 (hidAt F4 hgE4 hgI4) (liveAt F4 it4.1 it4.2) PW (X.vY1 _ _ _) rfl (aof ho) hco hi fun s5 hk5 X5=>?_)
   have F5:=wake F4 hk5 X5;have it5:=keepIt (h:=s5.heap) (fun a o h e=>hk5 a o ((hW2 a).mpr (.inr h)) e) it4.1 it4.2
   refine rn (aiq (e9 (a3t X.c1 R X.hx X.s1 F5 (X.vC1 _)) (fun fl s₆ ⟨hfl,v6,m₆,F6⟩=>?_) fun _ _ f=>f))
   subst hfl;exact qo (qo (fin F6 (ax1 _ _ _ _) ⟨pre++[.tup [.int (i:Int),.str ⟨#[92,ch]⟩]],by rw[ho];simp⟩ (Mv.refl X5) m₆ rfl rfl it5.1 it5.2))
  |false=>
   rw[if_neg (by decide)]
   refine rn (an7 (e9 (X.t2 R F4.eok (X.vT2 _ _ _)) (fun b s5 ⟨hb,v5,E5⟩=>?_) fun _ _ f=>f))
   subst hb;have F5:=F4.keep E5;have M5:=M4.trans (E5.mv (W:=W2)) fun a h=>.inl h
   have it5:=keepIt (h:=s5.heap) (fun a o h e=>E5.heap a o (h.elim (fun h=>h▸hE.2) fun h=>h▸hI.2) e) it4.1 it4.2
   have hgE5:=E5.hidden hgE4 (let⟨_,he⟩:=it4.1;⟨_,he⟩);have hgI5:=E5.hidden hgI4 (let⟨o,hit,_⟩:=it4.2;⟨o,hit⟩);by_cases hc:ch=92
   .rw[if_pos (by simpa using hc)]
    rw[show df false i (ch::cs)=df true (i+1) cs from by simp[a2c,afp,hc]]at ho |-
    refine rn (aiq (wm (a3t X.c2 R X.hx X.s2 F5 (X.vC2 _)) (fun fl s₆ ⟨hfl,v6,m₆,F6⟩=>?_)))
    subst hfl;exact qo (qo (qo (fin F6 (ax1 _ _ _ _) ⟨pre,ho⟩ M5 m₆ hgE5 hgI5 it5.1 it5.2)))
   .rw[if_neg (by simpa using hc)]
    rw[show df false i (ch::cs)=.tup [.int (i:Int),.str ⟨#[ch]⟩]::df false (i+1) cs from by simp[a2c,afp,hc]]at ho |-
    refine rn (an6 X.y2 R hsp rfl hgu M5 F5 (hidAt F5 hgE5 hgI5) (liveAt F5 it5.1 it5.2) PW (X.vY2 _ _ _) rfl (aof ho) hco hi fun s₆ hk6 X6=>?_)
    have it6:=keepIt (h:=s₆.heap) (fun a o h e=>hk6 a o ((hW2 a).mpr (.inr h)) e) it5.1 it5.2
    exact qo (qo (qo (fin (wake F5 hk6 X6) (a7e _ _ _) ⟨pre++[.tup [.int (i:Int),.str ⟨#[ch]⟩]],by rw[ho];simp⟩ (Mv.refl X6) (Mv.refl X6) rfl rfl it6.1 it6.2)))
end
section
variable {A:az} {env:Env}
variable{W:ai->Prop}{d:D}{σ:PS}
def a3u{g:ah}{s:af}{x:String}{p pos:Pos}{e:al}{v:ae}{tk:Nat}(F:Fr G sc env W g s σ)(hx:sc.names.lookup (aj x)=some .local)(hs:∀env,swapsWith e (some (.Name (aj x) p)) pos.line env=pure false)
  (he:∀Q,Q v {s with toks:=tk}->wpAny (model prog w) A (eval e env) Q NoE s) (ht:s.toks<=tk) (q:Rep prog w g v d) :
  wpAny (model prog w) A (exec (.Assign [.Name (aj x) p] e pos) env) (fun fl s'=>fl=.next/\s'.heap.objs.size=s.heap.objs.size/\Mv G W g s g s'/\Fr G sc env W g s' (σ.set x d)) NoE s:=by
 refine abi (he _ ?_) (hs env);have e₁:Ext G g s g {s with toks:=tk}:=Ext.grow (h':=s.heap) F.eok.sok (fun _ _ e=>e) ht
 have F1:=F.keep e₁;obtain⟨m,hm⟩:=F1.ns;have hk:=F1.locs _ hx;refine au2 hk hm (fun h' hn' hs'=>?_) (by rw[F.eok.kind];rfl)
 have S:yh G env W g x v {s with toks:=tk} {s with heap:=h',toks:=tk+1}:=by
  refine⟨Mv.buts F1.eok.sok F.priv (fun c o hc e=>hs'.extBut c o (fun h=>hc (h▸F.loc)) e) (fm _),.inl ⟨hk,_,hn',if_pos rfl⟩,?_,?_,⟨_,hn'⟩,?_,?_⟩
  .intro y u hy hu;rcases hu with⟨k,m',hn,e⟩|⟨k,c,hl,hc⟩
   .exact .inl ⟨k,_,hn',by rw[if_neg (fun e=>hy (ae4 e):aj y≠aj x),ary hm hn];exact e⟩
   .refine .inr ⟨k,c,hl,hc.sameBut hs' ?_⟩;rintro rfl;obtain⟨o,es,ep,e1,e2,_⟩:=hm;obtain⟨o',e1',e2'⟩:=hc;rw[e1]at e1';cases e1';rw[e2]at e2';cases e2'
  .intro y c u hl hc;refine⟨u,hc.sameBut hs' ?_⟩;rintro rfl;obtain⟨o,es,ep,e1,e2,_⟩:=hm;obtain⟨o',e1',e2'⟩:=hc;rw[e1]at e1';cases e1';rw[e2]at e2';cases e2'
  .intro a ha;by_cases e:a=env.locals
   .subst e;obtain⟨o,_,_,h,_⟩:=hn';exact⟨o,h⟩
   .obtain⟨o,h⟩:=F1.here a ha;exact⟨o,hs'.extBut a o e h⟩
  .exact fun a d hS ha=>hS.mono (.refl g) fun o e=>hs'.extBut a o ha e
 exact⟨rfl,hs'.1,e₁.mv.trans S.mv fun a h=>.inl h,S.set F1 q⟩
structure bid(G:Gl prog w)(sc:dc)(n:Nat)(p1 q1 p2 q2:Pos)(k1 k2:Nat)(c1 c2:Pos)(t3 ey3:al)(T3:PS->Option Bool)(Y3:PS->Option D):Prop where
 hp:sc.names.lookup (aj "pos")=some .local
 he:sc.names.lookup (aj "escape")=some .local
 ha:sc.names.lookup (aj "enumerate")=some .globalImplicit
 s1:∀env,swapsWith (.Constant (.int 0) k1 c1) (some (.Name (aj "pos") p1)) q1.line env=pure false
 s2:∀env,swapsWith (.Constant (.bool false) k2 c2) (some (.Name (aj "escape") p2)) q2.line env=pure false
 t3:q6 G sc n t3 T3
 y3:Den G sc n ey3 Y3
 vT3:∀p e,T3 (stE p e)=some e
 vY3:∀p e,Y3 (stE p e)=some (.tup [.int p,.str ⟨#[92]⟩])
 bi:ey G
def a7y{elts:List al}{x1:Nat}{tpos np ap cpos fpos:Pos}{e1 ey1 ec1 e2 ec2 ey2 t3 ey3:al}{yp1 xp1 ap1 aq1 ap2 aq2 ip2 ip1 yp2 xp2 p1 q1 p2 q2 c1 c2 yp3 xp3 ip3:Pos}{k1 k2:Nat}{T1 T2 T3:PS->Option Bool}{Y1 C1 C2 Y2 Y3:PS->Option D}
  (X:a4g G sc n (.Tuple elts x1 tpos) e1 ey1 ec1 e2 ec2 ey2 ap1 aq1 ap2 aq2 T1 T2 Y1 C1 C2 Y2) (B:bid G sc n p1 q1 p2 q2 k1 k2 c1 c2 t3 ey3 T3 Y3)
  {fbody body:List Stmt} (hfb:fbody=[.If e1 [.Expr (.Yield (some ey1) yp1) xp1,.Assign [.Name (aj "escape") ap1] ec1 aq1] [.If e2 [.Assign [.Name (aj "escape") ap2] ec2 aq2] [.Expr (.Yield (some ey2) yp2) xp2] ip2] ip1])
  (hbody:body=[.Assign [.Name (aj "pos") p1] (.Constant (.int 0) k1 c1) q1,.Assign [.Name (aj "escape") p2] (.Constant (.bool false) k2 c2) q2,
   .For (.Tuple elts x1 tpos) (.Call (.Name (aj "enumerate") np) [.Name (aj "addr") ap] [] cpos) fbody [] fpos,.If t3 [.Expr (.Yield (some ey3) yp3) xp3] [] ip3])
  (RF:dy (A.over (.func body env) []) n) (RL:∀k g l p it,dy (A.over (.forLoop (.Tuple elts x1 tpos) it fbody [] env) [.ret k none g l (.func body env) p []]) n)
  (hco:env.scope.isCoroutine=false) (hi:interactive env=false) (hfold:∀x,foldedSetIterable (.Call (.Name (aj "enumerate") np) [.Name (aj "addr") ap] [] cpos) env x=pure x)
   {s₀:af}   {x:Str} (F:Fr G sc env W g0 s₀ σ) (hd:σ.vars "addr" = some d) (hx:af6 d=some x) (hA:isA x=true) (hcW:∀y a,env.cells.lookup y=some a->W a)
  {W2:ai->Prop} (hW2:∀a,W2 a↔W a\/a=s₀.heap.objs.size+1\/a=s₀.heap.objs.size) :
  Seg (model prog w) A (gR G W2) (gY G (df false 0 x.cps.toList) W2) (df false 0 x.cps.toList).length s₀ (.func body env) ((model prog w).den (.func body env)) [] s₀:=by
 refine seg_func ?_;rw[(congrArg (fun b=>execs b env) hbody:execs body env=execs _ env)]
 have hfr:∀a,a=s₀.heap.objs.size+1\/a=s₀.heap.objs.size->s₀.heap.get? a=none:=fun a ha=>aaf (by rcases ha with rfl|rfl<;>simp)
 have hWn:∀a,a=s₀.heap.objs.size+1\/a=s₀.heap.objs.size->¬W a:=fun a ha h=>by obtain⟨o,e⟩:=F.here a h;rw[hfr a ha]at e;cases e
 have hBn:∀a,a=s₀.heap.objs.size+1\/a=s₀.heap.objs.size->G.hB.get? a=none/\a≠G.P:=fun a ha=>by
  have hP:a≠G.P:=by
   rintro rfl;obtain⟨o,vs,e,_⟩:=F.eok.sok.gok.hasP;rw[hfr _ ha]at e;cases e
  refine⟨?_,hP⟩;cases e:G.hB.get? a with
  |none=>rfl
  |some o=>have:=F.eok.sok.gok.keep a o hP e;rw[hfr _ ha]at this;cases this
 have WW:∀a,W a->W2 a:=fun a h=>(hW2 a).mpr (.inl h)
 refine rn (aiq (e9 (a3u (d:=.int 0) (tk:=s₀.toks+1) F B.hp B.s1 (fun Q h=>amx h) (fm _) ⟨_,rfl⟩) (fun fl s₁ ⟨hfl,z1,m1,F1⟩=>?_) fun _ _ f=>f))
 subst hfl;refine rn (aiq (e9 (a3u (d:=.bool false) (tk:=s₁.toks) F1 B.he B.s2 (fun Q h=>aup h) (ay _) rfl) (fun fl s₂ ⟨hfl,z2,m2,F2⟩=>?_) fun _ _ f=>f))
 subst hfl;have hdv:((σ.set "pos" (.int 0)).set "escape" (.bool false)).vars "addr" = some d:=by
  unfold PS.set;dsimp only;rw[if_neg (by decide),if_neg (by decide)];exact hd
 obtain⟨v,hv,q⟩:=F2.eok.vars _ _ hdv;obtain⟨t,rfl⟩:=aoj q hx;refine rn (a7z ?_ hfold);refine uy (m9 F2.eok B.ha (by decide) (.inr (B.bi ("enumerate",.type "enumerate") (by decide))) ?_)
 rw[ab7 rfl];refine abp rfl (qf (ju (afc F2.eok.kind hv (q9 ?_) (by decide) (by decide))))
 refine call_enumerate_str fun h' he hit hsz hk=>?_
 rw[(by unfold strIterType;rw[if_pos];exact hA:strIterType x = "str_ascii_iterator")]at hit
 rw[(by rw[z2,z1]:s₂.heap.objs.size=s₀.heap.objs.size)]at he hit |-
 refine amq he fun p=>?_
 have E₃:=Ext.grow (h':=h') (tk:=s₂.toks) F2.eok.sok hk (ay _);have hle:(stE 0 false).le ((σ.set "pos" (.int 0)).set "escape" (.bool false)):=by
  refine⟨fun y d h=>?_,fun _ _ h=>(by cases h)⟩
  unfold stE at h;delta PS.set;dsimp only at h |-;split at h
  .rename_i hy;subst hy;rw[if_neg (by decide),if_pos rfl];exact h
  .split at h
   .rename_i hy;exact(if_pos hy)▸h
   .cases h
 refine a7x X hfb (amj _) (hBn _ (.inl rfl)) (hBn _ (.inr rfl)) (hWn _ (.inl rfl)) (hWn _ (.inr rfl)) (fun y=>⟨fun h=>hWn _ (.inl rfl) (hcW y _ h),fun h=>hWn _ (.inr rfl) (hcW y _ h)⟩) hW2 hcW rfl rfl rfl (RL _ _ _ _ _) hco hi ?_
  x.cps.toList 0 false 0 s₀ _ g0 rfl (g9 _) (nomatch ·) ⟨[],rfl⟩ (((m1.weak WW).trans (m2.weak WW) fun a h=>.inl h:Mv G W2 g0 s₀ g0 s₂).trans (E₃.mv (W:=W2)) fun a h=>.inl h) ((F2.keep E₃).le hle) rfl rfl ⟨.none,by assumption⟩ hit
 intro i e p' s0' s v' hp ho M F hid hlive;refine rn (an7 (gT (B.t3 RF F.eok (B.vT3 _ _)) (fun b s4 hb v4 E₄=>?_)))
 subst hb;have M4:=M.trans (E₄.mv (W:=W2)) fun a h=>.inl h
 have PW:∀a,W2 a->a≠G.P:=fun a ha=>by
  rcases(hW2 a).mp ha with h|h
  .exact(F.priv a h).2.2
  .exact(hBn a h).2
 obtain⟨pre,ho⟩:=ho;induction b with
 |true=>
  refine(if_pos rfl)▸?_;have hpi:=hp rfl;subst hpi;rw[show df true i []=[.tup [.int ((i:Int) - 1),.str ⟨#[92]⟩]]from rfl]at ho |-;refine rn (an6 (m:=0) B.y3 RF rfl rfl rfl M4 (F.keep E₄) (fun a h=>E₄.hidden (hid a h) (hlive a h)) (fun a h=>let⟨o,e⟩:=hlive a h;⟨o,E₄.heap a o (PW a h) e⟩) PW (B.vY3 _ _) rfl (aof ho) hco hi fun s5 hk5 X5=>?_)
  exact qo (qo (seg_end (.ok (.ret .none)) ⟨rfl,rfl,_,Mv.refl X5⟩))
 |false=>
  rw[if_neg (by decide)]
  exact qo (qo (seg_end (.ok (.ret .none)) ⟨rfl,rfl,_,M4⟩))
end
section
variable {A:az} {E:ae->af->Prop} {s:af}
def baj{a:ai}{g:Nat}{gs:GenState}{P:Nat->af->af->Prop}{Y:Protocol}{Q:Option ae->af->Prop}(hh:A.handled=none)
  (hl:s.heap.NoLimit) (hroom:A.depth<recursionLimit) (hg:s.heap.IsGen a g) (hgs:s.gens[g]?=some gs)
  (hgo:gs.Goes (model prog w) A.in1 (fun n s₀ r s₁=>r=.ok (.ret .none)/\P n s₀ s₁) Y n (.send .none) (s.setGen g .running))
  (hY:∀v s₁ gs',gs'.bare=true->Y (n - 1) (s.setGen g .running) v s₁ (fun r' s''=>match n with
    |0=>False
    |m+1=>gs'.Goes (model prog w) A.in1 (fun n s₀ r s₁=>r=.ok (.ret .none)/\P n s₀ s₁) Y m r' s'')->Q (some v) (s₁.setGen g gs'))
  (hP:∀s₁,P n (s.setGen g .running) s₁->∀h',(∀b o,s₁.heap.get? b=some o->h'.get? b=some o)->Q none {s₁.setGen g .finished with heap:=h'}) :
  wpAny (model prog w) A (pyNext (.ref a)) Q E s:=by
 refine ak (aa8 (sq (name:=aj "__next__") hg.typeIs slot_gen_next
  (m0 slot_gen_next hg.typeIs entry_gen_next ?_ (args_gen_next _))))
 show wpAny _ A.in1 (a45 (.ref a) (.send .none)) _ _ s;refine ak (jc (wpAny_genNumber hg (ak (wpAny_genState hgs ?_))));induction gs with
 |running=>exact hgo.elim
 |finished=>exact hgo.elim
 |_=>
  refine ak (wpAny_roomToWake hl hroom ?_);refine wpAny_resumeQ hgs hgo (fun x s₁ hx=>?_) (fun v s₁ gs' hb hv=>?_)
  .obtain⟨rfl,hp⟩:=hx;show wpAny _ A.in1 (newExc (.type "StopIteration") [] >>= _) _ _ _;refine ak ?_;refine ak (rd ?_ (by size_fits))
   refine ak (m:=firstArgMember _ _) (ql (a:=rh) (by first|rfl|(simp only[firstArgMember];rfl)) ?_)
   refine rd ?_ (by size_fits)
   refine ak (ak (al3 ?_))
   first|rw[show A.in1.handled=none from hh]|refine hh▸?_
   refine alp ?_;refine ak (ad2 (T := "StopIteration") (b:=true) ⟨_,dw _ rfl,rfl⟩ ahi ?_);exact bo (hP s₁ hp _ fun b o hb=>b4 _ (b4 _ hb))
  .exact bo ⟨v,rfl,bo (hY v s₁ gs' hb hv)⟩
end
variable (G)
structure p9(k:Nat)(W:ai->Prop)(g:ah)(s:af)(g':ah)(s':af):Prop where
 gle:VLe g g'
 new:∀a o,g'.f a=some o->g.f a=some o\/s.heap.get? a=none
 heap:∀a o,a≠G.P->¬W a->s.heap.get? a=some o->s'.heap.get? a=some o
 view:∀a o,g'.f a=some o->s'.heap.get? a=some o
 gP:g'.f G.P=none
 gok:GOK G s'.heap
 toks:s.toks<=s'.toks
 lim:g'.lim<=s'.toks
 os:s'.os=s.os
 bare:AllBare s'.gens
 gsize:s.gens.size<=s'.gens.size
 gold:∀i,i<s.gens.size->i≠k->s'.gens[i]?=s.gens[i]?
structure yl(W:ai->Prop)(outs:List D)(A:az)(a:ai)(k m:Nat)(s:af):Prop where
 obj:s.heap.IsGen a k
 hP:a≠G.P
 live:∀b,W b->∃o,s.heap.get? b=some o
 nself:¬W a
 go:∃gs,s.gens[k]?=some gs/\∀s'',(∀b o,W b->s.heap.get? b=some o->s''.heap.get? b=some o)->SOK G g0 s'' ->
  ∃W',(∀b,W b->W' b)/\(∀b,W' b->W b\/s''.heap.get? b=none)/\gs.Goes (model prog w) A.in1 (gR G W') (gY G outs W') m (.send .none) s''
variable {G}
variable{g':ah}{s':af}
def p9.mv{W':ai->Prop}{g g'':ah}{s s'':af}(x:Mv G W g s g' s')(y:p9 G k W' g' s' g'' s'')(hk:s.gens.size<=k)(hW:∀a,W' a->W a\/s.heap.get? a=none):Mv G W g s g'' s'' where
 gle:=x.gle.trans y.gle
 new:=fun a o h=>by
  rcases y.new a o h with h1|h1
  .exact x.new a o h1
  .refine if ha:a=G.P then ?_ else ?_
   .subst ha;exact ns y.gP h
   .by_cases hq:W a
    .exact .inr (.inl hq)
    .refine .inr (.inr ?_);refine noS fun o' e=>?_
     exact ns h1 (x.heap a o' ha hq e)
 heap:=fun a o ha hw h=>y.heap a o ha (fun q=>by
  rcases hW a q with q|q
  .exact hw q
  .exact ns q h) (x.heap a o ha hw h)
 view:=y.view
 gP:=y.gP
 gok:=y.gok
 toks:=aw x.toks y.toks
 lim:=y.lim
 os:=y.os.trans x.os
 bare:=y.bare
 gsize:=aw x.gsize y.gsize
 gold:=fun i hi=>(y.gold i (i7 hi x.gsize) (O.ck [_,_,_] [.le .x2 .x1,.lt .x0 .x2] (.n (.eq .x0 .x1)) 1101 rfl hk hi)).trans (x.gold i hi)
variable{gs:GenState}
def a3m{gens:Array GenState}(h:AllBare gens)(hb:gs.bare=true):AllBare (gens.setIfInBounds k gs):=by
 intro x hx;rcases Array.mem_or_eq_of_mem_setIfInBounds hx with h1|h1
 .exact h x h1
 .exact h1▸hb
theorem SOK.setGen{g:ah}{s:af}{k:Nat}{gs:GenState}(x:SOK G g s)(hb:gs.bare=true):SOK G g (s.setGen k gs):=⟨x.view,x.gP,x.gok,x.toks,x.lim,a3m x.bare hb⟩
inductive bib (G:Gl prog w) (W:ai->Prop) (k:Nat) (g:ah) (s:af) (r:Option ae) (s':af):Prop
 |mk (hr:r=none) (W':ai->Prop) (g':ah) (hN:∀b,W' b->W b\/s.heap.get? b=none) (T:p9 G k W' g s g' s')
inductive bia (G:Gl prog w) (W:ai->Prop) (outs:List D) (A:az) (a:ai) (k:Nat) (g:ah) (s:af) (j:Nat) (r:Option ae) (s':af):Prop
 |mk (v:ae) (d:D) (W':ai->Prop) (g':ah) (hr:r=some v) (hd:outs.reverse[j]?=some d) (hW:∀b,W b->W' b) (hN:∀b,W' b->W b\/s.heap.get? b=none) (T:p9 G k W' g s g' s') (q:Rep prog w g' v d)
  (R:yl G W' outs A a k j s') (hid:∀b,W' b->g'.f b=none/\G.hB.get? b=none/\b≠G.P)
def bic(G:Gl prog w)(W:ai->Prop)(outs:List D)(A:az)(a:ai)(k:Nat)(g:ah)(s:af):Nat->Option ae->af->Prop
 |0=>bib G W k g s
 |j+1=>bia G W outs A a k g s j
variable{h':bf}
def a1m{g g1:ah}{s s₁:af}(X:SOK G g s)(hid:∀b,W b->g.f b=none)(M:Mv G W g0 (s.setGen k .running) g1 s₁)(hb:gs.bare=true)(hk:∀b o,s₁.heap.get? b=some o->h'.get? b=some o) :
  p9 G k W g s g {s₁.setGen k gs with heap:=h'} where
 gle:=.refl _
 new:=fun _ _ e=>.inl e
 heap:=fun a o hP hW e=>hk a o (M.heap a o hP hW e)
 view:=fun a o e=>hk a o (M.heap a o (fun h=>by subst h;exact ns X.gP e) (fun h=>by exact ns (hid a h) e) (X.view a o e))
 gP:=X.gP
 gok:=M.gok.keeps hk
 toks:=M.toks
 lim:=aw X.lim M.toks
 os:=M.os
 bare:=a3m M.bare hb
 gsize:=by
  have:=M.gsize;simp only[ahd,avr]at this |-;exact this
 gold:=fun i hi hik=>by
  have:=M.gold i (by simpa[ahd]using hi:i<(s.setGen k .running).gens.size)
  simp only[ahd,awb]at this |-;rw[if_neg (g7 hik)]at this |-;exact this
variable{a:ai}
def p9.show{g:ah}{s:af}{o:Obj}(x:p9 G k W g s g s')(X:SOK G g s)(ha:s.heap.get? a=none)(ho:s'.heap.get? a=some o):p9 G k W g s (bu g a o) s':=
 {x with
  gle:=bu.le (gu X ha)
  new:=fun b o' e=>by
   delta bu at e;dsimp only at e;split at e
   .rename_i hb;subst hb;exact .inr ha
   .exact .inl e
  view:=fun b o' e=>by
   delta bu at e;dsimp only at e;split at e
   .rename_i hb;subst hb;cases e;exact ho
   .exact x.view b o' e
  gP:=by
   delta bu;dsimp only;split
   .rename_i hb;obtain⟨o',_,e,_⟩:=X.gok.hasP;replace e:=hb.symm▸e;exact ns ha e
   .exact X.gP}
variable{m:Nat}{outs:List D}
def bdb{A:az}{g:ah}{s:af}(hh:A.handled=none)(hroom:A.depth<recursionLimit)(X:SOK G g s)(GR:yl G W outs A a k m s)
  (hid:∀b,W b->g.f b=none/\G.hB.get? b=none/\b≠G.P):wpAny (model prog w) A (pyNext (.ref a)) (bic G W outs A a k g s m) NoE s:=by
 obtain⟨gs,hgs,hgo⟩:=GR.go;obtain⟨W',hW,hN,hgo⟩:=hgo (s.setGen k .running) (fun _ _ _ e=>e) (X.g0.setGen rfl)
 have hfr:∀b,s.heap.get? b=none->g.f b=none/\G.hB.get? b=none/\b≠G.P:=fun b hb=>by
  have hP:b≠G.P:=by
   rintro rfl;obtain⟨o,vs,e,_⟩:=X.gok.hasP;exact ns hb e
  refine⟨gu X hb,?_,hP⟩;cases e:G.hB.get? b with
  |none=>rfl
  |some o=>have:=X.gok.keep b o hP e;exact ns hb this
 have hid':∀b,W' b->g.f b=none/\G.hB.get? b=none/\b≠G.P:=fun b hb=>(hN b hb).elim (hid b) (hfr b)
 have nself:¬W' a:=fun h=>by
  rcases hN a h with h|h
  .exact GR.nself h
  .obtain⟨o,_,_,e,_⟩:=GR.obj;rw[show(s.setGen k .running).heap=s.heap from rfl,e]at h;cases h
 refine baj (P:=gP G W') (Y:=gY G outs W') hh X.gok.lim hroom GR.obj hgs hgo (fun v s₁ gs' hb hy=>?_) fun s₁ hp h' hk=>?_
 .obtain⟨d,ho,⟨g1,M⟩,⟨a',o,rfl,hf,ha',nW,hrep⟩,hl,hkap⟩:=hy;have T:=a1m (h':=s₁.heap) X (fun b h=>(hid' b h).1) M hb fun _ _ e=>e
  induction m with
  |zero=>exact(hkap s₁ (fun _ _ _ e=>e) ⟨fun _ _ e=>(by cases e),rfl,M.gok,i7 X.toks M.toks,g9 _,M.bare⟩).elim
  |succ j=>
   refine⟨_,d,W',_,rfl,ho,hW,hN,(T.show X hf ha'),hrep _ bu.self,⟨?_,GR.hP,hl,nself,gs',?_,fun s'' hs X''=>⟨W',fun _ h=>h,fun _ h=>.inl h,hkap s'' hs X''⟩⟩,fun b h=>⟨?_,(hid' b h).2⟩⟩
   .obtain⟨o',nm,qn,e,r⟩:=GR.obj;exact⟨o',nm,qn,T.heap a o' GR.hP nself e,r⟩
   .have hks:k<s.gens.size:=by
     rcases uu k s.gens.size with h|h
     .exact h
     .exact ns (am4 h) hgs
    have:=M.gsize;simp only[ahd,avr]at this |-;rw[awb,if_pos rfl,if_pos (i7 hks this)]
   .delta bu;dsimp only;refine(if_neg (show¬b=a' from fun q=>nW (q▸h))).trans ?_
    exact(hid' b h).1
 .obtain⟨hm,g1,M⟩:=hp;subst hm;exact⟨rfl,W',g,hN,a1m X (fun b h=>(hid' b h).1) M rfl hk⟩
def yl.mv{Wc:ai->Prop}{A:az}{g:ah}{s:af}(x:yl G W outs A a k m s)(M:Mv G Wc g s g' s')(hW:∀b,W b->¬Wc b/\b≠G.P)(ha:¬Wc a):yl G W outs A a k m s' where
 obj:=let⟨o,nm,qn,e,r⟩:=x.obj;⟨o,nm,qn,M.heap a o x.hP ha e,r⟩
 hP:=x.hP
 live:=fun b h=>let⟨o,e⟩:=x.live b h;⟨o,M.heap b o (hW b h).2 (hW b h).1 e⟩
 nself:=x.nself
 go:=by
  obtain⟨gs,hgs,hgo⟩:=x.go;have hks:k<s.gens.size:=by
   rcases uu k s.gens.size with h|h
   .exact h
   .exact ns (am4 h) hgs
  refine⟨gs,by rw[M.gold k hks];exact hgs,fun s'' hs X=>?_⟩
  obtain⟨W',h1,h2,h3⟩:=hgo s'' (fun b o h e=>hs b o h (M.heap b o (hW b h).2 (hW b h).1 e)) X
  exact⟨W',h1,h2,h3⟩
inductive bh9 (G:Gl prog w) (A:az) (g:ah) (s:af) (outs:List D) (v:ae) (s₁:af):Prop
 |mk (a k:Nat) (Wg:ai->Prop) (g₁:ah) (hv:v=.ref a) (e:Ext G g s g₁ s₁) (hk:s.gens.size<=k) (ha:s.heap.get? a=none) (r:yl G Wg outs A a k outs.length s₁) (hW:∀b,Wg b->s.heap.get? b=none/\g₁.f b=none)
def a4n(G:Gl prog w)(sc:dc)(n:Nat)(e:al)(F:PS->Option (List D)):Prop:=
 ∀⦃A env g s σ outs⦄,dy A n->ft G sc env g s σ->F σ=some outs->wpAny (model prog w) A (eval e env) (bh9 G A g s outs) NoE s
def p9.hidden{g:ah}{s:af}(y:p9 G k W g s g' s')(h:g.f a=none)(l:∃o,s.heap.get? a=some o):g'.f a=none:=by
 cases hq:g'.f a with
 |none=>rfl
 |some o=>
  rcases y.new a o hq with h1|h1
  .exact ns h h1
  .obtain⟨o',e⟩:=l;exact ns h1 e
inductive FI (G:Gl prog w) (sc:dc) (env:Env) (A:az) (a:ai) (k:Nat) (ds:List D) (W:ai->Prop) (g:ah) (s:af) (b:D->PS->Option PS) (H:PS->Option Out) (out:Out) (j:Nat) (s':af):Prop
 |mk (i:Nat) (W':ai->Prop) (g':ah) (σ':PS) (Wg:ai->Prop) (hi:i<=ds.length) (hj:j=ds.length+1 - i) (F:Fr G sc env W' g' s' σ') (GR:yl G Wg ds A a k (ds.length - i) s')
  (hid:∀c,Wg c->g'.f c=none/\¬W' c/\G.hB.get? c=none/\c≠G.P/\∀x,env.cells.lookup x≠some c) (ha:¬W' a) (hw:∀c,Wg c->W c\/s.heap.get? c=none) (m:Mv G W g s g' s') (hW:∀a,W' a->W a\/s.heap.get? a=none)
  (y:lz b H (ds.drop i) σ'=some out)
variable{body:List Stmt}
def ayg{tgt iter:al}{F:PS->Option (List D)}{b:D->PS->Option PS}{H:PS->Option Out}(hi:a4n G sc n iter F)(ht:pw G sc tgt b)(hb:gh G sc n body H)(hf:∀env x,foldedSetIterable iter env x=pure x) :
  k7 G sc n (.For tgt iter body [] pos) (i8 F b H):=fun A env W g s σ out R Fr0 y=>by
 refine aq y ?_;clear y;intro ds hds y;refine wpAny_For (wm (hi R Fr0.eok hds) (fun v s₁ ⟨a,k,Wg0,g1,hv,e1,hk,hfa,GR1,hWg0⟩=>?_)) (hf env)
 subst hv;refine wpAny_pyIter_gen GR1.obj ?_;have hfrB:∀c,s.heap.get? c=none->G.hB.get? c=none/\c≠G.P:=fun c hc=>by
  have hP:c≠G.P:=by
   rintro rfl;obtain⟨o,vs,e,_⟩:=Fr0.eok.sok.gok.hasP;exact ns hc e
  refine⟨?_,hP⟩;cases e:G.hB.get? c with
  |none=>rfl
  |some o=>have:=Fr0.eok.sok.gok.keep c o hP e;exact ns hc this
 have hA1:∀c,Wg0 c->¬W c:=fun c hc h=>by obtain⟨o,ho⟩:=Fr0.here c h;exact ns ((hWg0 c hc).1) ho
 have hA2:∀c,Wg0 c->∀x,env.cells.lookup x≠some c:=fun c hc x h=>by obtain⟨v,o,ho,_⟩:=Fr0.eok.allc x c h;exact ns ((hWg0 c hc).1) ho
 have hA3:¬W a:=fun h=>by obtain⟨o,ho⟩:=Fr0.here a h;exact ns hfa ho
 refine auj (FI G sc env A a k ds W g s b H out) ?_ (ds.length+1)
  ⟨0,W,g1,σ,Wg0,g9 _,rfl,Fr0.keep e1,GR1,fun c hc=>⟨(hWg0 c hc).2,hA1 c hc,(hfrB c (hWg0 c hc).1).1,(hfrB c (hWg0 c hc).1).2,hA2 c hc⟩,hA3,fun c hc=>.inr (hWg0 c hc).1,e1.mv,fun a h=>.inl h,y⟩
 rintro j s₃ ⟨i,W3,g3,σ3,Wg,hil,rfl,F3,GR,hid,haW,hWgW,m3,hW3,y⟩;have hGN:=bdb (g:=g3) R.hh (by have:=R.depth;exact O.ao2 this) F3.eok.sok GR fun c hc=>⟨(hid c hc).1,(hid c hc).2.2.1,(hid c hc).2.2.2.1⟩
 have cellsF:∀(x:Str) (c:ai),env.cells.lookup x=some c->∃o,s₃.heap.get? c=some o:=fun x c h=>let⟨v,o,ho,_⟩:=F3.eok.allc x c h;⟨o,ho⟩
 have keepT:∀{W':ai->Prop} {g4:ah} {s4:af},p9 G k W' g3 s₃ g4 s4->(∀c,W' c->Wg c\/s₃.heap.get? c=none)->Fr G sc env W3 g4 s4 σ3:=fun{W' g4 s4} T hN=>by
  have nW:∀c,W' c->¬W3 c:=fun c hc h=>(hN c hc).elim (fun q=>(hid c q).2.1 h) fun q=>by obtain⟨o,e⟩:=F3.here c h;exact ns q e
  have nC:∀c,W' c->∀x,env.cells.lookup x≠some c:=fun c hc x h=>(hN c hc).elim (fun q=>(hid c q).2.2.2.2 x h) fun q=>by obtain⟨o,e⟩:=cellsF x c h;exact ns q e
  exact F3.keepOf ⟨T.view,T.gP,T.gok,i7 F3.eok.sok.toks T.toks,T.lim,T.bare⟩ T.gle (fun c h=>T.hidden (F3.priv c h).1 (F3.here c h)) fun c o h e=>T.heap c o
   (by
    rcases h with h|⟨x,h⟩
    .exact(F3.priv c h).2.2
    .obtain⟨v,hv⟩:=F3.eok.allc x c h;obtain⟨o',vs,e',d',_⟩:=F3.eok.sok.gok.hasP;exact ajy e' d' hv)
   (fun hc=>by
    rcases h with h|⟨x,h⟩
    .exact nW c hc h
    .exact nC c hc x h) e
 have fresh3:∀c,s₃.heap.get? c=none->W c\/s.heap.get? c=none:=fun c h=>(m3.back h).symm
 by_cases hlt:i<ds.length
 .rw[lh hlt]at y;refine aq y ?_;clear y;intro σ4 h4 y;refine aq y ?_;clear y;intro o5 h5 y;rw[show ds.length - i=(ds.length - (i+1))+1 from O.ck [_,_] [.lt .x1 .x0] (.eq (.s .x0 .x1) (.a (.s .x0 (.a .x1 (.c 1))) (.c 1))) 10108198101811998100181198181999 rfl hlt]at hGN;refine wm' hGN (fun r s4 h=>?_)
  obtain⟨v,d,W',g5,hv,hd,hWW,hN,T,q,GR5,hid5⟩:=h;subst hv;have hdd:d=ds[i]:=by
   rw[List.getElem?_reverse (by exact O.ck [_,_] [.lt .x1 .x0] (.lt (.s .x0 (.a .x1 (.c 1))) .x0) 110819 rfl hlt)]at hd
   rw[show ds.length - 1 - (ds.length - (i+1))=i from O.a95 hlt,gq hlt]at hd;exact(dn hd).symm
  subst hdd;obtain⟨oa,nm,qn,ea,hca,hda,_⟩:=GR5.obj;refine acf ea hca hda (by decide) ?_
  have hW'W:∀c,W' c->W c\/s.heap.get? c=none:=fun c hc=>(hN c hc).elim (hWgW c) (fresh3 c)
  have nW3:∀c,W' c->¬W3 c:=fun c hc h=>(hN c hc).elim (fun q=>(hid c q).2.1 h) fun q=>by obtain⟨o,e⟩:=F3.here c h;exact ns q e
  have nC:∀c,W' c->∀x,env.cells.lookup x≠some c:=fun c hc x h=>(hN c hc).elim (fun q=>(hid c q).2.2.2.2 x h) fun q=>by obtain⟨o,e⟩:=cellsF x c h;exact ns q e
  refine wm' (ht R.hh (keepT T hN) q h4) (fun _ s₆ ⟨m₆,F6⟩=>?_)
  have GR6:=GR5.mv m₆ (fun c hc=>⟨nW3 c hc,(hid5 c hc).2.2⟩) haW
  have m6':=(p9.mv m3 T (hk:s.gens.size<=k) hW'W:Mv G W g s g5 s4).trans m₆ hW3;refine wm' (hb R F6 h5) (fun f s₇ z=>?_)
  induction o5 with
  |next σ7=>
   obtain⟨rfl,W7,g7,m₇,hW7,F7⟩:=z;refine⟨ds.length+1 - (i+1),O.aja hlt,i+1,W7,g7,σ7,W',hlt,rfl,F7,GR6.mv m₇ (fun c hc=>⟨nW3 c hc,(hid5 c hc).2.2⟩) haW,fun c hc=>⟨?_,fun h=>?_,(hid5 c hc).2.1,(hid5 c hc).2.2,nC c hc⟩,fun h=>?_,hW'W,m6'.trans m₇ hW3,fun c h=>?_,y⟩
   .cases hq:g7.f c with
    |none=>rfl
    |some o=>
     rcases m₇.new c o hq with h1|h1|h1
     .exact ns ((hid5 c hc).1) h1
     .exact absurd h1 (nW3 c hc)
     .obtain⟨o',e⟩:=GR6.live c hc;exact ns h1 e
   .rcases hW7 c h with h|h
    .exact nW3 c hc h
    .obtain⟨o',e⟩:=GR6.live c hc;exact ns h e
   .rcases hW7 a h with h|h
    .exact haW h
    .obtain⟨o',_,_,e,_⟩:=GR6.obj;exact ns h e
   .rcases hW7 c h with h|h
    .exact hW3 c h
    .exact(m6'.back h).symm
  |ret d=>
   cases y;obtain⟨v',g7,rfl,m₇,q'⟩:=z;exact⟨v',g7,rfl,m6'.trans m₇ hW3,q'⟩
 .have hi:i=ds.length:=O.ao1 hil hlt;subst hi;replace y:=ad3.symm▸y;cases y;rw[ag6]at hGN;refine wm' hGN (fun r s4 h=>?_)
  obtain⟨hr,W',g4,hN,T⟩:=h;subst hr;refine amd ?_;exact⟨rfl,W3,g4,p9.mv m3 T hk fun c hc=>(hN c hc).elim (hWgW c) (fresh3 c),hW3,keepT T hN⟩
def a4e(G:Gl prog w)(n:Nat)(fv:ae)(F:List D->Option (List D)):Prop:=
 ∀⦃A g s vs ds outs⦄,dy A n->SOK G g s->a9 prog w g vs ds->F ds=some outs->wpAny (model prog w) A (call fv vs) (fun v s₁=>∃a k Wg g1,v=.ref a/\Ext G g s g1 s₁/\s.gens.size<=k/\s.heap.get? a=none/\yl G Wg outs A a k outs.length s₁/\∀b,Wg b->s.heap.get? b=none/\g1.f b=none) NoE s
def yn(G:Gl prog w)(n:Nat)(x:Str)(F:List D->Option (List D)):Prop:=
 ∃a o fd,G.mg x=some (.ref a)/\a≠G.P/\G.hB.get? a=some o/\o.data=.func fd/\a4e G n (.ref a) F
noncomputable def tv:List D->Option (List D)
 |[d]=>(af6 d).bind fun x=>if isA x=true then some (df false 0 x.cps.toList)else none
 |_=>none
def bd1{g:ah}{s:af}{tk:Nat}{c:Code}(X:SOK G g s)(k:∀a o,s.heap.get? a=some o->h'.get? a=some o)(ht:s.toks<=tk):Ext G g s g {s with gens:=s.gens.push (.fresh c),heap:=h',toks:=tk}:=
 {Ext.grow (h':=h') (tk:=tk) X k ht with
  bare:=fun y hy=>by
   rcases Array.mem_push.mp hy with h|h
   .exact X.bare y h
   .subst h;rfl
  gsize:=by simp
  gold:=fun i hi=>by dsimp only;rw[avc hi,ui hi]}
def bdc{name:Str}{params:Arguments}{pm cd doc:ae}{o:Obj}(hP:a≠G.P)(ho:G.hB.get? a=some o)(hdata:o.data=.func (jh name params body sc pm cd doc))
  (hcode:sc.names.lookup (aj "new_callers")=some .local->cd=G.cd) (hcd:∀h,GOK G h->h.CodeRec cd name) (S:agg sc ["addr"]) (hbind:∀v:ae,bindArgs (jh name params body sc pm cd doc) ⟨[v],[]⟩=pure [(aj "addr",v)]) (hco:sc.isCoroutine=false) (hgen:sc.isGenerator=true)
  (hcells:∀L,cellsFrom L sc.names []=[])
  (hseg:∀{A:az} {env:Env} {W W2:ai->Prop} {s₀:af} {x:Str},A.handled=none->A.depth+n<recursionLimit->A.units+20 * n+30<cLine->env.scope=sc->interactive env=false->isA x=true->env.cells=[]->Fr G sc env W g0 s₀ (cq ["addr"] [.str x])->(∀a,W2 a↔W a\/a=s₀.heap.objs.size+1\/a=s₀.heap.objs.size) ->
   Seg (model prog w) A (gR G W2) (gY G (df false 0 x.cps.toList) W2) (df false 0 x.cps.toList).length s₀ (.func body env) ((model prog w).den (.func body env)) [] s₀) :
  a4e G (n+1) (.ref a) tv:=fun A g s vs ds outs R X r y=>by
 rcases ds with _|⟨d,_|⟨d2,ds⟩⟩
 .exact nomatch y
 .rcases vs with _|⟨v,_|⟨v2,vs⟩⟩
  .exact r.elim
  .refine aq y ?_;clear y;intro x hx y;by_cases hA:isA x=true
   case neg=>rw[if_neg hA]at y;exact nomatch y
   rw[if_pos hA]at y;cases y;obtain⟨t,rfl⟩:=aoj r.1 hx;refine adl ?_;refine codeAny_call_generator (o:=o) (by have:=R.depth;exact O.ae8 this) (X.gok.keep a o hP ho) hdata hco hgen rfl (hcd _ X.gok) ?_
   rw[hbind];refine bo (qq (av4 S.kind (fun p hp=>?_) fun env he s' IC ht=>?_))
   .simp at hp;subst hp;rcases S.args "addr" (by simp)with h|h
    .exact .inl h
    .refine .inr ⟨h,?_⟩;obtain⟨c,hc⟩:=aal sc.names (s.heap.objs.size+1) [] _ (.inl (mem_of_lookup h));obtain⟨c',hc'⟩:=z6 hc;show((cellsFrom (s.heap.objs.size+1) sc.names []).lookup _).isSome=true;rw[hc'];rfl
   .have hrep:a9 prog w g [.str x t] [.str x]:=⟨⟨t,rfl⟩,trivial⟩;subst he;obtain⟨e1,W,hW,F1⟩:=aq8 (env:=callEnvC (jh name params body sc pm cd doc) s.heap.objs.size a) (xs:=["addr"]) X S rfl hcode rfl rfl hrep IC ht;have X1:=e1.sok X;have hsc:(callEnvC (jh name params body sc pm cd doc) s.heap.objs.size a).cells=[]:=hcells _;have e2:=bd1 (h':=s'.heap.push {cls:=.type "generator",data:=.fields #[.int s'.gens.size 0,.str (jh name params body sc pm cd doc).name s'.toks,.str (jh name params body sc pm cd doc).qualname (s'.toks+1)]})
     (tk:=s'.toks+1+1) (c:=.func body (callEnvC (jh name params body sc pm cd doc) s.heap.objs.size a)) X1 (fun a o e=>b4 _ e) (O.ajb)
    have hfz:s'.heap.get? s'.heap.objs.size=none:=dq _;have F2:=F1.keep e2;refine⟨X1.gok.lim,s'.heap.objs.size,s'.gens.size,W,g,rfl,e1.trans e2,e1.gsize,?_,⟨⟨_,_,_,dw _ rfl,rfl,rfl,rfl⟩,?_,F2.here,fun h=>?_,_,avs,fun s'' hs X''=>?_⟩,fun b hb=>⟨hW b hb,(F1.priv b hb).1⟩⟩
    .cases q:s.heap.get? s'.heap.objs.size with
     |none=>rfl
     |some o'=>
      by_cases hp:s'.heap.objs.size=G.P
      .obtain⟨o1,_,e,_⟩:=X1.gok.hasP;rw[<-hp,hfz]at e;exact nomatch e
      .rw[e1.heap _ _ hp q]at hfz;exact nomatch hfz
    .rintro hp;obtain⟨o1,_,e,_⟩:=X1.gok.hasP;rw[<-hp,hfz]at e;exact nomatch e
    .obtain⟨o1,e⟩:=F1.here _ h;rw[hfz]at e;exact nomatch e
    .have hnv:arz (cq ["addr"] [.str x]):=by
      refine⟨fun y d h=>?_,fun _=>rfl⟩
      unfold cq at h;dsimp only[aea,List.zip_nil_right,y9,List.lookup_nil]at h;split at h
      .cases h;rfl
      .exact nomatch h
     have F3:=(F2.bareView hnv).keepOf X'' (VLe.refl _) (fun _ _=>rfl) fun b o h e=>hs b o (h.elim id fun⟨y,h⟩=>by rw[hsc]at h;exact nomatch h) e
     refine⟨fun b=>W b\/b=s''.heap.objs.size+1\/b=s''.heap.objs.size,fun b h=>.inl h,fun b h=>h.imp id fun h=>aaf (by rcases h with rfl|rfl<;>simp),rfl,?_⟩
     exact hseg R.hh (by have:=R.depth;simp only[ar5];exact O.ck [_,_,_] [.lt (.a .x0 (.a .x1 (.c 1))) .x2] (.lt (.a .x0 .x1) .x2) 11 rfl this) (by have:=R.units;simp only[ar5];exact O.ck [_,_,_] [.lt (.a (.a .x0 (.m 20 (.a .x1 (.c 1)))) (.c 40)) .x2] (.lt (.a (.a (.a .x0 (.c 1)) (.m 20 .x1)) (.c 30)) .x2) 11 rfl this) rfl (by delta interactive;rw[show(newEnv (jh name params body sc pm cd doc).scope s.heap.objs.size (jh name params body sc pm cd doc).globals (cellsFrom (s.heap.objs.size+1) (jh name params body sc pm cd doc).scope.names []) ((jh name params body sc pm cd doc).qualname++aj ".<locals>.") (some a) (jh name params body sc pm cd doc).code none (jh name params body sc pm cd doc).builtins).scope.kind=.function from S.kind];rfl) hA hsc F3 fun _=>Iff.rfl
  .exact r.2.elim
 .exact nomatch y
noncomputable def aae(F:List D->Option (List D))(fs:List (PS->Option D)):PS->Option (List D):=fun σ=>(evL fs σ).bind F
def a2w{F:List D->Option (List D)}{es:List al}{fs:List (PS->Option D)}{np:Pos}(hf:yn G m x F)(h:j1 G sc n es fs)
  (hx:sc.names.lookup x=some .globalImplicit) (hd:(x==("__debug__" : Str))=false) (hm:m<=n):a4n G sc n (.Call (.Name x np) es [] pos) (aae F fs):=fun A env g s σ outs R X y=>by
 refine aq y ?_;clear y;intro ds hds y;refine ai8 hf fun a o fd hg hP ho hfd hF=>?_
 refine uy (m9 X hx hd (.inl hg) ?_);refine avq (o:=o) (fd:=fd) (wm (af9 h R X hds) (fun a s₁ h=>oA h fun hk q=>?_))
 obtain⟨g1,e1,q1⟩:=q;refine⟨⟨(e1.gok).keep _ _ hP ho,hfd⟩,?_⟩;rw[hk,ix];refine wm (hF (R.down hm) (e1.sok X.sok) q1 y) (fun v s₂ h=>ao0 h fun b k Wg g₂ hv e2 hk hb GR hW=>⟨b,k,Wg,g₂,hv,e1.trans e2,aw e1.gsize hk,?_,GR,fun c hc=>⟨e1.back (hW c hc).1,(hW c hc).2⟩⟩)
 exact e1.back hb
noncomputable def ac0(a b:D):Option Bool:=match a with
 |.none=>match b with
  |.none=>some true
  |_=>none
 |.int _=>match b with
  |.none=>some false
  |_=>none
 |.bool _=>none
 |.str _=>none
 |.hstr _=>none
 |.bytes _=>none
 |.tup _=>none
 |.list _=>none
 |.dict _=>none
def bga:qa G n .Is ac0:=fun A g s v1 v2 d1 d2 b R x q1 q2 y=>by
 cases d1 with
 |none=>
  dsimp only[ac0]at y;split at y
  .cases y;rw[show v1=_ from q1];rcases q2 with q|⟨a,rfl,q,_⟩
   .rw[show v2=_ from q];exact a44 ⟨rfl,g,Ext.refl x⟩
   .exact q.elim
  .exact nomatch y
 |int=>
  dsimp only[ac0]at y;split at y
  .cases y;obtain⟨t,rfl⟩:=q1;rcases q2 with q|⟨a,rfl,q,_⟩
   .rw[show v2=_ from q];exact a41 ⟨rfl,g,Ext.refl x⟩
   .exact q.elim
  .exact nomatch y
 |_=>exact ns rfl y
noncomputable def afb(a b:D):Option Bool:=(b7 a).bind fun x=>(af6 b).map fun y=>!(!(aax y x 0 y.length 1).isEmpty)
def bf8:qa G n .NotIn afb:=fun A g s v1 v2 d1 d2 b R x q1 q2 y=>by
 refine aq y ?_;clear y;intro k hk y;refine b9 y fun z hz e=>e▸?_
 obtain⟨t,rfl⟩:=gr q1 hk;rcases q2 with q|⟨a,rfl,q,_⟩
 .obtain⟨u,rfl⟩:=aoj q hz;exact PySem.P.notIn_str ⟨rfl,g,Ext.refl x⟩
 .cases d2<;>first|exact q.elim|(exact nomatch hz;done)
noncomputable def ako:PS->Option Out:=
 (ag (ifF (cmp afb (kD (.str "\"")) (aa "addr")) (bw "result" (ag (ej (var "addr")) nxt)) nxt) (ag (b3 "start" (kD (.int 0))) (ag (b3 "open_pos" (kD .none)) (ag (c7 "result" (kD (.list []))) (ag (i8 (aae tv [(var "addr")]) (cz ["pos", "ch"]) (ag (ifF (cmp eqD (var "ch") (kD (.str "\""))) (ag (ifF (cmp ac0 (var "open_pos") (kD .none)) (ag (b3 "open_pos" (var "pos")) nxt) (ag (ifF (cmp neD (var "start") (aa "open_pos")) (ag (jr "result" (sl (aa "addr") (pI (var "start")) (pI (var "open_pos")) pN)) nxt) nxt) (ag (b3 "start" (bin bb (var "pos") (kD (.int 1)))) (ag (b3 "open_pos" (kD .none)) nxt)))) nxt) nxt) nxt)) (ag (ifF (cmp (j0 fun a b=>decide (a<b)) (var "start") (un cx (aa "addr"))) (ag (jr "result" (sl (aa "addr") (pI (var "start")) pN pN)) nxt) nxt) (bw "result" (ag (ej (b6 gw (kD (.str "")) [(var "result")])) nxt))))))))
def be6{G:Gl prog w}(hm:m<=n)(B:ey G)(h_esc:yn G m "_iter_escaped_chars" tv):gh G (eu 4) n (en 4) (ako):=
 (bg (j6 (ig bf8 dg cy) (oq "result" (bg (jx av) cj)) cj) (bg (j7 cg (.inl (by decide+kernel)) (fun _=>rfl)) (bg (j7 xy (.inl (by decide+kernel)) (fun _=>rfl)) (bg (aet af0 (.inl (by decide+kernel)) (fun _=>rfl)) (bg (ayg (a2w h_esc (.cons rfl av .nil) (by decide+kernel) (by decide) (by omega)) (qr (.cons (.inl (by decide+kernel)) (.cons (.inl (by decide+kernel)) .nil))) (bg (j6 (ig l0 av (Den.b dg)) (bg (j6 (ig bga av (Den.b xy)) (bg (j7 av (.inl (by decide+kernel)) (fun _=>rfl)) cj) (bg (j6 (ig akg av cy) (bg (ab1 (xw cy (t7 av) (t7 av) pk) rfl (fun _=>rfl) rfl xk) cj) cj) (bg (j7 (i9 nq av cg) (.inl (by decide+kernel)) (fun _=>rfl)) (bg (j7 xy (.inl (by decide+kernel)) (fun _=>rfl)) cj)))) cj) cj) cj) (fun _ _=>rfl)) (bg (j6 (ig aq0 av (Den.b (afx B cy rfl (by decide+kernel)))) (bg (ab1 (xw cy (t7 av) pk pk) rfl (fun _=>rfl) rfl xk) cj) cj) (oq "result" (bg (jx (x9 aph (Den.b dg) (.cons rfl av .nil) (fun _=>rfl) rfl (by decide))) cj))))))))
noncomputable def akw(f_strip:List D->Option D):PS->Option Out:=
 (ag (b3 "addr" (ao f_strip [(var "addr")])) (ag (b3 "opens" (kD (.int 0))) (ag (i8 (aae tv [(var "addr")]) (cz ["pos", "ch"]) (ag (ifF (cmp eqD (var "ch") (kD (.str "("))) (ag (r9 "opens" jo (kD (.int 1))) nxt) (ag (ifF (cmp eqD (var "ch") (kD (.str ")"))) (ag (r9 "opens" acj (kD (.int 1))) (ag (ifF (cmp (j0 fun a b=>decide (a<b)) (var "opens") (kD (.int 0))) (ag (ej (kD (.bool false))) nxt) nxt) nxt)) nxt) nxt)) nxt)) (ag (ej (ofB (cmp eqD (var "opens") (kD (.int 0))))) nxt))))
def bfm{G:Gl prog w}(hm:m<=n)(B:ey G)(f_strip:List D->Option D)(h_strip:d9 G m "_strip_quoted_realnames" f_strip)(h_esc:yn G m "_iter_escaped_chars" tv):gh G (eu 5) n (en 5) (akw f_strip):=
 (bg (j7 (vj h_strip (.cons rfl av .nil) (by decide+kernel) (by decide) (by omega)) (.inl (by decide+kernel)) (fun _=>rfl)) (bg (j7 cg (.inl (by decide+kernel)) (fun _=>rfl)) (bg (ayg (a2w h_esc (.cons rfl av .nil) (by decide+kernel) (by decide) (by omega)) (qr (.cons (.inl (by decide+kernel)) (.cons (.inl (by decide+kernel)) .nil))) (bg (j6 (ig l0 av (Den.b dg)) (bg (an8 ack cg (.inl (by decide+kernel))) cj) (bg (j6 (ig l0 av (Den.b dg)) (bg (an8 bck cg (.inl (by decide+kernel))) (bg (j6 (ig aq0 av (Den.b cg)) (bg (jx akc) cj) cj) cj)) cj) cj)) cj) (fun _ _=>rfl)) (bg (jx (afy l0 av (Den.b cg))) cj))))
def aq9:aj "\\" = ⟨#[92]⟩:=by rw[j4];rfl
def bd9(c:Nat):eqD (.str ⟨#[c]⟩) (.str (aj "\\"))=some (decide (c=92)):=by
 rw[aq9];by_cases h:c=92
 .subst h;rfl
 .rw[decide_eq_false h];have:((⟨#[c]⟩:Str)==⟨#[92]⟩)=false:=by
   rw[beq_eq_false_iff_ne];intro e;exact h (by injection e with e;simpa using e)
  exact congrArg some this
def bd5(B:ey G){A:az}{W2:ai->Prop}{s₀:af}(hh:A.handled=none)(hdp:A.depth+n+2<recursionLimit)(hun:A.units+20 * n+60<cLine)(hsc:env.scope=eu 3)(hi:interactive env=false)(hA:isA x=true)(hc:env.cells=[])(F:Fr G (eu 3) env W g0 s₀ (cq ["addr"] [.str x]))(hW2:∀a,W2 a↔W a\/a=s₀.heap.objs.size+1\/a=s₀.heap.objs.size) :
  Seg (model prog w) A (gR G W2) (gY G (df false 0 x.cps.toList) W2) (df false 0 x.cps.toList).length s₀ (.func (en 3) env) ((model prog w).den (.func (en 3) env)) [] s₀:=by
 refine a7y (sc:=eu 3) (n:=n) (T1:=toB (var "escape")) (T2:=cmp eqD (var "ch") (kD (.str "\\"))) (T3:=toB (var "escape"))
  (Y1:=tup [var "pos",bin bb (kD (.str "\\")) (var "ch")]) (Y2:=tup [var "pos",var "ch"]) (Y3:=tup [var "pos",kD (.str "\\")]) (C1:=kD (.bool false)) (C2:=kD (.bool true)) (body:=en 3) (d:=.str x)
  ?X ?B rfl rfl ?RF ?RL ?co hi (fun _=>rfl) F rfl rfl hA (fun y a h=>by rw[hc]at h;exact nomatch h) hW2
 case X=>
  exact{
   tg:=qr (.cons (.inl (by decide+kernel)) (.cons (.inl (by decide+kernel)) .nil))
   t1:=ya av
   t2:=ig l0 av (Den.b dg)
   y1:=jz (.cons rfl av (.cons rfl (i9 nq dg av) .nil)) (oy ..)
   y2:=jz (.cons rfl av (.cons rfl av .nil)) (oy ..)
   c1:=akc
   c2:=akc
   hx:=.inl (by decide+kernel)
   s1:=fun _=>rfl
   s2:=fun _=>rfl
   vT1:=fun p e c=>by cases e<;>rfl
   vT2:=fun p e c=>bd9 c
   vY1:=fun p e c=>by
    show some (D.tup [.int p,.str (aj "\\" ++ ⟨#[c]⟩)])=_;rw[aq9];rfl
   vY2:=fun p e c=>rfl
   vC1:=fun _=>rfl
   vC2:=fun _=>rfl}
 case B=>
  exact{
   hp:=by decide+kernel
   he:=by decide+kernel
   ha:=by decide+kernel
   s1:=fun _=>rfl
   s2:=fun _=>rfl
   t3:=ya av
   y3:=jz (.cons rfl av (.cons rfl dg .nil)) (oy ..)
   vT3:=fun p e=>by cases e<;>rfl
   vY3:=fun p e=>by
    show some (D.tup [.int p,.str (aj "\\")])=_;rw[aq9]
   bi:=B}
 case RF=>
  refine⟨hh,?_,?_⟩
  .show A.depth+frameCount []+ar8 (.func (en 3) env)+n<recursionLimit;have:ar8 (.func (en 3) env)=1:=rfl;rw[this];show A.depth+0+1+n<_;exact O.ck [_,_,_] [.lt (.a (.a .x0 .x1) (.c 2)) .x2] (.lt (.a (.a (.a .x0 (.c 0)) (.c 1)) .x1) .x2) 11 rfl hdp
  .show A.units+unitsOf []+ar7 (.func (en 3) env)+20 * n+40<cLine;have:ar7 (.func (en 3) env)=3:=rfl;rw[this];show A.units+0+3+20 * n+40<_;exact O.ck [_,_,_] [.lt (.a (.a .x0 (.m 20 .x1)) (.c 60)) .x2] (.lt (.a (.a (.a (.a .x0 (.c 0)) (.c 3)) (.m 20 .x1)) (.c 40)) .x2) 11 rfl hun
 case RL=>
  intro k g l p it;refine⟨hh,?_,?_⟩
  .show A.depth+frameCount [(ag0 (en 3) env,p)]+0+n<recursionLimit;have:frameCount [(ag0 (en 3) env,p)]=1:=rfl;rw[this];exact O.ck [_,_,_] [.lt (.a (.a .x0 .x1) (.c 2)) .x2] (.lt (.a (.a (.a .x0 (.c 1)) (.c 0)) .x1) .x2) 11 rfl hdp
  .show A.units+unitsOf [(ag0 (en 3) env,p)]+0+20 * n+40<cLine;have:unitsOf [(ag0 (en 3) env,p)]=3:=rfl;rw[this];exact O.ck [_,_,_] [.lt (.a (.a .x0 (.m 20 .x1)) (.c 60)) .x2] (.lt (.a (.a (.a (.a .x0 (.c 3)) (.c 0)) (.m 20 .x1)) (.c 40)) .x2) 11 rfl hun
 case co=>rw[hsc];rfl
section
open Calls
structure QOK(q:dm)(loose:List Str):Prop where
 recs:∀i,i<18->∃d∈recsOf q,d.name=jn i/\d.params=xh i/\d.body=en i/\d.scope=eu i
 tick:valOf q "TICK" = some (.str "'")
 crlf:valOf q "CRLF" = some (.str "\r\n")
 p1:P.lu "_twin_re_1" P.q5 0∈alj q
 p2:P.lu "_twin_re_2" P.q5 1∈alj q
 p3:P.lu "_twin_re_3" P.oj 0∈alj q
 free:∀p∈s6,p.1∉startupNames/\p.1∉looseW q loose/\p.1∉(recsOf q).map (·.name)/\p.1∉(litsOf q).map (·.1)/\p.1∉(clssOf q (looseW q loose)).map (·.name)
def a3k:∀p∈s6,p.1 ≠ "__name__" /\ bootBuiltins p.1=some p.2:=by
 unfold s6;simp only[dt,ahp,or_false,forall_eq_or_imp,forall_eq];refine⟨⟨by decide,rfl⟩,⟨by decide,rfl⟩,⟨by decide,rfl⟩,⟨by decide,rfl⟩,⟨by decide,rfl⟩,⟨by decide,rfl⟩,⟨by decide,rfl⟩,⟨by decide,rfl⟩,⟨by decide,rfl⟩,⟨by decide,rfl⟩⟩
variable {q:dm} {loose:List Str} {mean:ExcName->Option ae} {mg mb:Str->Option ae} {h:bf}
structure GlF(mg:Str->Option ae)(h:bf){prog:dm}{w:dv}(G:Gl prog w):Prop where
 hB:G.hB=h
 hm:G.mg=mg
 gen:ym G
 bi:ey G
 tick:yp G "TICK" "'"
 crlf:yp G "CRLF" "\r\n"
 p1:P.l6 G "_twin_re_1" P.q5 0
 p2:P.l6 G "_twin_re_2" P.q5 1
 p3:P.l6 G "_twin_re_3" P.oj 0
 h9:∃c a o pm doc,mg (jn 9)=some (.ref a)/\h.get? a=some o/\o.data=.func (docDef (jn 9) (xh 9) (en 9) (eu 9) pm (.ref c) doc)/\h.CodeRec (.ref c) (jn 9)/\G.cd=.ref c
 hT:∃c,h.TableAt c G.P #[]
def bc3(T:Top q (looseW q loose) mean mg mb h)(X:Flt.MathXP q mg h)(Q:QOK q loose) :
  ∃G:Gl prog w,GlF mg h G:=by
 obtain⟨d,hd,e1,e2,e3,e4⟩:=Q.recs 9 (by decide)
 obtain⟨a,o,fd,c,P,t1,t2,t3,t4,t5,t6⟩:=T.tab d hd;obtain⟨a',o',pm,code,doc,f1,f2,f3,f4⟩:=T.fn d hd;rw[t1]at f1;cases f1;rw[t2]at f2;cases f2;rw[t3]at f3;have hcode:code=.ref c:=by injection f3 with f3;rw[f3]at t4;exact t4
 subst hcode;have hP:h.get? P=some {cls:=.none,data:=.fields #[]}:=t6.2;have notP:∀{x:ai} {ob:Obj},h.get? x=some ob->(∀vs,ob.data=.fields vs->ob.cls≠.none)->x≠P:=fun{x ob} e hn=>by
  rintro rfl;rw[hP]at e;cases e;exact hn _ rfl rfl
 let G:Gl prog w:={
  mg:=mg,mb:=mb,hB:=h,P:=P,tab:=fun o=>∃ps:Array ae,TriplesOk ps.toList/\o=some {cls:=.none,data:=.fields ps}
  ns:=T.g,nb:=T.b,lim:=T.nolimit,dig:=T.nodigits,oP:=⟨_,_,hP,rfl,rfl⟩
  pg:=by obtain⟨ob,es,n,ho,hd,_⟩:=T.g;exact notP ho fun vs e=>by rw[hd]at e;cases e
  pb:=by obtain⟨ob,es,n,ho,hd,_⟩:=T.b;exact notP ho fun vs e=>by rw[hd]at e;cases e
  pc:=by obtain⟨mc,⟨ob,es,n,ho,hd,_⟩,_⟩:=T.nodigits;exact notP ho fun vs e=>by rw[hd]at e;cases e
  cd:=.ref c}
 refine⟨G,rfl,rfl,⟨fun _=>Iff.rfl,⟨c,rfl,t5,t6⟩,T.bmain⟩,fun p hp=>?_,?_,?_,X.pats _ Q.p1,X.pats _ Q.p2,X.pats _ Q.p3,?_,⟨c,t6⟩⟩
 .obtain⟨f1,f2,f3,f4,f5⟩:=Q.free p hp;exact⟨T.free _ f1 f2 f3 f4 f5,(T.builtins _ (a3k p hp).1).trans (a3k p hp).2⟩
 .obtain⟨v,hv,r⟩:=T.const _ _ Q.tick;cases r h with|str x t=>exact⟨t,hv⟩
 .obtain⟨v,hv,r⟩:=T.const _ _ Q.crlf;cases r h with|str x t=>exact⟨t,hv⟩
 .exact⟨c,a,o,pm,doc,by rw[<-e1];exact t1,t2,by rw[<-e1,<-e2,<-e3,<-e4,t3,f3],by rw[<-e1];exact f4,rfl⟩
def dy.mono{A:az}{n':Nat}(x:dy A n')(h:n<=n'):dy A n:=⟨x.hh,by have:=x.depth;exact O.azv h this,by have:=x.units;exact O.azu h this⟩
theorem d9.mono{n n':Nat}{x:Str}{F:List D->Option D}(y:d9 G n x F)(h:n<=n'):d9 G n' x F:=
 ai8 y fun a o fd h1 h2 h3 h4 h5=>⟨a,o,fd,h1,h2,h3,h4,fun _ _ _ _ _ _ R=>h5 (R.mono h)⟩
theorem yn.mono{n n':Nat}{x:Str}{F:List D->Option (List D)}(y:yn G n x F)(h:n<=n'):yn G n' x F:=
 ai8 y fun a o fd h1 h2 h3 h4 h5=>⟨a,o,fd,h1,h2,h3,h4,fun _ _ _ _ _ _ R=>h5 (R.mono h)⟩
structure Rec(G:Gl prog w)(i:Nat):Prop where
 ex:∃a o pm cd doc,G.mg (jn i)=some (.ref a)/\a≠G.P/\G.hB.get? a=some o/\o.data=.func (docDef (jn i) (xh i) (en i) (eu i) pm cd doc)/\(i=9->cd=G.cd)/\∀h,GOK G h->h.CodeRec cd (jn i)
def a8s(T:Top q (looseW q loose) mean mg mb h)(Q:QOK q loose)(hB:G.hB=h)(hm:G.mg=mg)
  (h9:∃c a o pm doc,mg (jn 9)=some (.ref a)/\h.get? a=some o/\o.data=.func (docDef (jn 9) (xh 9) (en 9) (eu 9) pm (.ref c) doc)/\h.CodeRec (.ref c) (jn 9)/\G.cd=.ref c) (hT:∃c,h.TableAt c G.P #[]) (i:Nat) (hi:i<18):Rec G i:=by
 have key:∃a o pm cd doc,mg (jn i)=some (.ref a)/\h.get? a=some o/\o.data=.func (docDef (jn i) (xh i) (en i) (eu i) pm cd doc)/\(i=9->cd=G.cd)/\h.CodeRec cd (jn i):=by
  by_cases e:i=9
  .subst e;obtain⟨c,a,o,pm,doc,h1,h2,h3,h4,h5⟩:=h9;exact⟨a,o,pm,_,doc,h1,h2,h3,fun _=>h5.symm,h4⟩
  .obtain⟨d,hd,e1,e2,e3,e4⟩:=Q.recs i hi;obtain⟨a,o,pm,cd,doc,f1,f2,f3,f4⟩:=T.fn d hd;rw[e1]at f1 f3 f4;rw[e2,e3,e4]at f3;exact⟨a,o,pm,cd,doc,f1,f2,f3,fun x=>absurd x e,f4⟩
 obtain⟨a,o,pm,cd,doc,h1,h2,h3,h4,h5⟩:=key;obtain⟨oP,vP,hP,dP,cP⟩:=G.oP;have neP:∀{x:ai} {ob:Obj},h.get? x=some ob->(∀vs,ob.data=.fields vs->ob.cls≠.none)->x≠G.P:=fun{x ob} e hn=>by
  rintro rfl;rw[hB,e]at hP;cases hP;exact hn _ dP cP
 refine⟨a,o,pm,cd,doc,by rw[hm];exact h1,neP h2 (by intro vs e;rw[h3]at e;cases e),by rw[hB];exact h2,h3,h4,fun h' gk=>?_⟩
 obtain⟨c',ob,vs,t,e,ho,r⟩:=h5;refine⟨c',ob,vs,t,e,gk.keep _ _ ?_ (by rw[hB];exact ho),r⟩
 rintro rfl;obtain⟨_,_,hTP⟩:=hT;rw[ho]at hTP;cases hTP;obtain⟨r1,r2⟩:=r;cases r1;cases r2
def me{i:Nat}{xs:List String}{F:PS->Option Out}(R:Rec G i)(hcode:i≠9->(eu i).names.lookup (aj "new_callers")≠some .local)(S:agg (eu i) xs)
  (hbind:∀(pm cd doc:ae) (vs:List ae),vs.length=xs.length->bindArgs (docDef (jn i) (xh i) (en i) (eu i) pm cd doc) ⟨vs,[]⟩=pure ((xs.map aj).zip vs)) (hco:(eu i).isCoroutine=false) (hgen:(eu i).isGenerator=false)
  (H:gh G (eu i) n (en i) F):d9 G (n+1) (jn i) (fnF xs F):=by
 obtain⟨a,o,pm,cd,doc,h1,h2,h3,h4,h5,h6⟩:=R.ex;exact⟨a,o,_,h1,h2,h3,h4,bdh h2 h3 h4 (fun hl=>h5 (uj fun hne=>hcode hne hl)) h6 S (hbind pm cd doc) hco hgen H⟩
def bda(R:Rec G 3)(B:ey G):yn G (n+3) (jn 3) tv:=by
 obtain⟨a,o,pm,cd,doc,h1,h2,h3,h4,h5,h6⟩:=R.ex;refine⟨a,o,_,h1,h2,h3,h4,bdc (n:=n+2) h2 h3 h4 (fun hl=>absurd hl (by decide+kernel)) h6 ?_ (fun v=>rfl) rfl rfl (fun L=>rfl) ?_⟩
 .exact⟨rfl,by decide+kernel,by decide+kernel,by intro x hx;simp at hx;subst hx;exact .inl (by decide+kernel),by decide⟩
 .intro A env W W2 s₀ x hh hd hu hs hi hA hc F hW2;exact bd5 (n:=n) B hh hd (O.ck [_,_,_] [.lt (.a (.a .x0 (.m 20 (.a .x1 (.c 2)))) (.c 30)) .x2] (.lt (.a (.a .x0 (.m 20 .x1)) (.c 60)) .x2) 11 rfl hu) hs hi hA hc F hW2
end
section
open Calls
noncomputable def f_rfc:=fnF ["s"] akr
noncomputable def f_count:=fnF ["callers"] akv
noncomputable def qy:=fnF ["text"] ard
noncomputable def f_on:=fnF ["log", "kind"] akt
noncomputable def f_parts:=fnF ["figure", "number"] aks
noncomputable def f_first:=fnF ["stream"] (aku f_rfc)
noncomputable def f_told:=fnF ["log", "held", "sums"] akn
noncomputable def oh:=fnF ["target", "source"] akx
noncomputable def f_stats:=fnF ["target", "source"] (akp oh)
noncomputable def f_quote:=fnF ["data"] are
noncomputable def f_periods:=fnF ["bindata"] arf
noncomputable def f_eols:=fnF ["data"] arj
noncomputable def f_strip:=fnF ["addr"] ako
noncomputable def f_check:=fnF ["addr"] (akw f_strip)
noncomputable def f_valid:=fnF ["email_header_fields"] (akm f_check)
noncomputable def f_run:=fnF ["deeds", "held", "start", "sums", "sent", "dues", "onto"] (akq f_first oh f_stats)
noncomputable def aqj:=fnF ["script"] (ari f_check f_eols f_on f_parts qy f_run f_told f_valid f_periods f_stats f_count f_rfc f_quote)
def lj{i:Nat}{xs:List String}(h:(xs.all fun x=>decide ((eu i).names.lookup (aj x)=some .local) ||decide ((eu i).names.lookup (aj x)=some .cell))=true):∀x∈xs,mq (eu i) x:=fun x hx=>by
 have:=abd.mp h x hx;simpa[mq]using this
def ex0{P:List ae->Prop}(H:P [])(vs:List ae)(h:vs.length=0):P vs:=uk h▸H
def exS{P:List ae->Prop}(H:∀a vs,vs.length=n->P (a::vs))(vs:List ae)(h:vs.length=n+1):P vs:=by
 induction vs with
 |nil=>cases h
 |cons a l=>exact H a l (aly h)
def ex1{P:List ae->Prop}(H:∀a,P [a]):∀vs:List ae,vs.length=1->P vs:=exS fun a=>ex0 (H a)
def ex2{P:List ae->Prop}(H:∀a b,P [a,b]):∀vs:List ae,vs.length=2->P vs:=exS fun a=>ex1 (P:=fun l=>P (a::l)) (H a)
def ex3{P:List ae->Prop}(H:∀a b c,P [a,b,c]):∀vs:List ae,vs.length=3->P vs:=exS fun a=>ex2 (P:=fun l=>P (a::l)) (H a)
def ex7{P:List ae->Prop}(H:∀a b c d e f g,P [a,b,c,d,e,f,g]):∀vs:List ae,vs.length=7->P vs:=
 exS fun a=>exS fun b=>exS fun c=>exS fun d=>ex3 (P:=fun l=>P (a::b::c::d::l)) (H a b c d)
def bhq(R:∀i,i<18->Rec G i)(B:ey G)(H:ym G)(t:yp G "TICK" "'")(c:yp G "CRLF" "\r\n")(p1:P.l6 G "_twin_re_1" P.q5 0)(p2:P.l6 G "_twin_re_2" P.q5 1)(p3:P.l6 G "_twin_re_3" P.oj 0) :
  ∃a,G.mg "law" = some (.ref a)/\∀{A:az} {g:ah} {s:af} {vs:List ae} {ds:List D} {d:D},dy A 7->SOK G g (tk1 s)->a9 prog w g vs ds->aqj ds=some d->wpAny (model prog w) A (call (.ref a) vs) (bj G g (tk1 s) d) NoE s:=by
 have r:=fun i h=>R i h
 have d_rfc:d9 G 1 "decode_rfc2231" f_rfc:=me (n:=0) (R 7 (by decide)) (fun _=>by decide+kernel) ⟨rfl,by decide+kernel,by decide+kernel,lj (by decide+kernel),by decide⟩ (fun _ _ _=>ex1 fun _=>rfl) rfl rfl (bfa B t)
 have d_count:d9 G 1 "count_calls" f_count:=me (n:=0) (R 10 (by decide)) (fun _=>by decide+kernel) ⟨rfl,by decide+kernel,by decide+kernel,lj (by decide+kernel),by decide⟩ (fun _ _ _=>ex1 fun _=>rfl) rfl rfl (bfl B)
 have d_rows:d9 G 1 "_law_rows" qy:=me (n:=0) (R 12 (by decide)) (fun _=>by decide+kernel) ⟨rfl,by decide+kernel,by decide+kernel,lj (by decide+kernel),by decide⟩ (fun _ _ _=>ex1 fun _=>rfl) rfl rfl (be9 B)
 have d_on:d9 G 1 "_law_on" f_on:=me (n:=0) (R 16 (by decide)) (fun _=>by decide+kernel) ⟨rfl,by decide+kernel,by decide+kernel,lj (by decide+kernel),by decide⟩ (fun _ _ _=>ex2 fun _ _=>rfl) rfl rfl (bfe B)
 have d_parts:d9 G 1 "_law_parts" f_parts:=me (n:=0) (R 11 (by decide)) (fun _=>by decide+kernel) ⟨rfl,by decide+kernel,by decide+kernel,lj (by decide+kernel),by decide⟩ (fun _ _ _=>ex2 fun _ _=>rfl) rfl rfl (bfd B)
 have d_told:d9 G 1 "_law_told" f_told:=me (n:=0) (R 15 (by decide)) (fun _=>by decide+kernel) ⟨rfl,by decide+kernel,by decide+kernel,lj (by decide+kernel),by decide⟩ (fun _ _ _=>ex3 fun _ _ _=>rfl) rfl rfl (be4 B)
 have d_add:d9 G 1 "add_callers" oh:=me (n:=0) (R 9 (by decide)) (fun h=>absurd rfl h) ⟨rfl,by decide+kernel,by decide+kernel,lj (by decide+kernel),by decide⟩ (fun _ _ _=>ex2 fun _ _=>rfl) rfl rfl (bfp B H)
 have d_quote:d9 G 1 "quotedata" f_quote:=me (n:=0) (R 0 (by decide)) (fun _=>by decide+kernel) ⟨rfl,by decide+kernel,by decide+kernel,lj (by decide+kernel),by decide⟩ (fun _ _ _=>ex1 fun _=>rfl) rfl rfl (bfb B p1 p3 c)
 have d_periods:d9 G 1 "_quote_periods" f_periods:=me (n:=0) (R 1 (by decide)) (fun _=>by decide+kernel) ⟨rfl,by decide+kernel,by decide+kernel,lj (by decide+kernel),by decide⟩ (fun _ _ _=>ex1 fun _=>rfl) rfl rfl (bfc B p2)
 have d_eols:d9 G 1 "_fix_eols" f_eols:=me (n:=0) (R 2 (by decide)) (fun _=>by decide+kernel) ⟨rfl,by decide+kernel,by decide+kernel,lj (by decide+kernel),by decide⟩ (fun _ _ _=>ex1 fun _=>rfl) rfl rfl (bfj B p3 c)
 have d_first:d9 G 2 "_law_first" f_first:=me (n:=1) (R 13 (by decide)) (fun _=>by decide+kernel) ⟨rfl,by decide+kernel,by decide+kernel,lj (by decide+kernel),by decide⟩ (fun _ _ _=>ex1 fun _=>rfl) rfl rfl (bfi (m:=1) (ay _) B f_rfc d_rfc)
 have d_stats:d9 G 2 "add_func_stats" f_stats:=me (n:=1) (R 8 (by decide)) (fun _=>by decide+kernel) ⟨rfl,by decide+kernel,by decide+kernel,lj (by decide+kernel),by decide⟩ (fun _ _ _=>ex2 fun _ _=>rfl) rfl rfl (be7 (m:=1) (ay _) B oh d_add)
 have d_run:d9 G 3 "_law_run" f_run:=me (n:=2) (R 14 (by decide)) (fun _=>by decide+kernel) ⟨rfl,by decide+kernel,by decide+kernel,lj (by decide+kernel),by decide⟩ (fun _ _ _=>ex7 fun _ _ _ _ _ _ _=>rfl) rfl rfl (be8 (m:=2) (ay _) B f_first oh f_stats d_first (d_add.mono (gf _)) d_stats)
 have d_esc:yn G 3 "_iter_escaped_chars" tv:=bda (n:=0) (R 3 (by decide)) B
 have d_strip:d9 G 4 "_strip_quoted_realnames" f_strip:=me (n:=3) (R 4 (by decide)) (fun _=>by decide+kernel) ⟨rfl,by decide+kernel,by decide+kernel,lj (by decide+kernel),by decide⟩ (fun _ _ _=>ex1 fun _=>rfl) rfl rfl (be6 (m:=3) (ay _) B d_esc)
 have d_check:d9 G 5 "_check_parenthesis" f_check:=me (n:=4) (R 5 (by decide)) (fun _=>by decide+kernel) ⟨rfl,by decide+kernel,by decide+kernel,lj (by decide+kernel),by decide⟩ (fun _ _ _=>ex1 fun _=>rfl) rfl rfl (bfm (m:=4) (ay _) B f_strip d_strip (d_esc.mono (oy ..)))
 have d_valid:d9 G 6 "_pre_parse_validation" f_valid:=me (n:=5) (R 6 (by decide)) (fun _=>by decide+kernel) ⟨rfl,by decide+kernel,by decide+kernel,lj (by decide+kernel),by decide⟩ (fun _ _ _=>ex1 fun _=>rfl) rfl rfl (be1 (m:=5) (ay _) B f_check d_check)
 obtain⟨a,o,pm,cd,doc,h1,h2,h3,h4,h5,h6⟩:=(R 17 (by decide)).ex
 refine⟨a,h1,fun R X r y=>bdf (n:=6) (sc:=eu 17) (rest:=(en 17).tail) h2 h3 h4 (fun hl=>absurd hl (by decide+kernel)) h6 ⟨rfl,by decide+kernel,by decide+kernel,lj (by decide+kernel),by decide⟩ (by exact ex1 fun _=>rfl) rfl rfl (.cons rfl cg (.cons rfl cg (.cons rfl cg (.cons rfl cg (.cons rfl cg (.cons rfl cg (.cons rfl cg (.cons rfl cg (.cons rfl cg (.cons rfl cg (.cons rfl cg .nil))))))))))) (by decide) (.inl (by decide+kernel)) (fun _=>rfl)
  (bff (m:=6) (ay _) B f_check f_eols f_on f_parts qy f_run f_told f_valid f_periods f_stats f_count f_rfc f_quote
   (d_check.mono (oy ..)) (d_eols.mono (gf _)) (d_on.mono (gf _)) (d_parts.mono (gf _)) (d_rows.mono (gf _)) (d_run.mono (oy ..)) (d_told.mono (gf _)) d_valid (d_periods.mono (gf _))
   (d_stats.mono (oy ..)) (d_count.mono (gf _)) (d_rfc.mono (gf _)) (d_quote.mono (gf _))) R X r y⟩
def arx:Prop:=∀is:List Int,is.length<=63->aqj [.list (is.map .int)]=some (.bool true)
variable{xs:List WData}
def bcn{P:Params}{h:bf}{g:ah}{vs:List ae}(H:WellAll P h vs xs)(hi:∀x∈xs,∃i,x=.int i):∃is:List Int,is.length=xs.length/\a9 prog w g vs (is.map .int):=by
 induction xs generalizing vs with
 |nil=>cases H;exact⟨[],rfl,trivial⟩
 |cons x xs ih=>
  cases vs with
  |nil=>cases H
  |cons v vs=>
   obtain⟨h1,h2⟩:=wellAll_head H;obtain⟨is,e,r⟩:=ih h2 fun y hy=>hi y (er _ hy)
   obtain⟨i,rfl⟩:=hi x m4;cases h1 with
   |int i t=>exact⟨i::is,congrArg (·+1) e,⟨t,rfl⟩,r⟩
def bcz:WShape.hasItems [] xs .int=true->∀x∈xs,∃i,x=.int i:=by
 induction xs with
 |nil=>exact fun _ _ h=>nomatch h
 |cons x xs ih=>
  intro h y hy;have h:=(atl _ _).mp h;rcases dt.mp hy with e|hy
  .exact e▸(hasW_int h.1)
  .exact ih h.2 y hy
variable{args:List WData}
def bhl(h:PySem.Challenge.rw_wz0001_01.row.claim.pre args=true):∃xs,args=[.list xs]/\(∀x∈xs,∃i,x=.int i)/\xs.length<=63:=by
 obtain⟨h1,h2⟩:=pre_splitW (r:=PySem.Challenge.rw_wz0001_01.row.toRowW) h;obtain⟨d,r,rfl,hd,hr⟩:=hasAllW_cons (e:=.list .int) (es:=[]) h1;obtain rfl:=hasAllW_nil hr;obtain⟨xs,rfl,hx⟩:=hasW_list hd;refine⟨xs,rfl,bcz hx,?_⟩;have h2:WTm.holds [] (.and (.not (.lt (.lit (.int 63)) (.len (.arg 0)))) (.lit (.bool true))) {args:=[.list xs]}=true:=h2;refine if hl:xs.length<=63 then ?_ else ?_
 .exact hl
 .exfalso;have e:less? (.int 63) (.int (xs.length:Int))=some true:=congrArg some (decide_eq_true (mx.mpr (atw hl)));simp[WTm.holds,alh,e]at h2
def a9a(xs:List WData):PySem.Challenge.rw_wz0001_01.row.claim.post [.list xs] (.bool true) [.list xs]=true:=
 postW_of (r:=PySem.Challenge.rw_wz0001_01.row.toRowW) (X:=true) (by decide+kernel) (by show alh [] (.eq .res (.lit (.bool true))) _=_;simp[alh,same]) rfl
inductive a4c (w:dv) (s₁:af) (fa:ai):List WData->List ae->Prop
 |mk {G:Gl PySem.Challenge.rw_wz0001_01.row.prog w} {l c:ai} {xs:List WData} {g:ah} (H:ym G) (hB:G.hB=s₁.heap) (P0:s₁.heap.get? G.P=some {cls:=.none,data:=.fields #[]}) (hT:s₁.heap.TableAt c G.P #[])
   (W:wpAny (model PySem.Challenge.rw_wz0001_01.row.prog w) callerA (call (.ref fa) [.ref l]) (bj G g (tk1 s₁) (.bool true)) NoE s₁):a4c w s₁ fa [.list xs] [.ref l]
variable{loose:List Str}{q:dm}
def a8t{mean:_}{s₁:af}{mg mb:Str->Option ae}{fa:ai}{vals:List ae}(Q:QOK q loose)(PL:arx)(T:Top q (looseW q loose) mean mg mb s₁.heap)(X:Flt.MathXP q mg s₁.heap)
  (hmg:mg (jn 17)=some (.ref fa)) (hg:s₁.gens=#[]) (hpre:PySem.Challenge.rw_wz0001_01.row.claim.pre args=true) (hwl:WellAll w.params s₁.heap vals args):a4c w s₁ fa args vals:=by
 obtain⟨Gl,F0⟩:=bc3 (prog:=PySem.Challenge.rw_wz0001_01.row.toRowW.prog) (w:=w) T X Q;have hT:=F0.hT;have hB:=F0.hB;obtain⟨a,e1,F⟩:=bhq (fun i hi=>a8s T Q hB F0.hm F0.h9 hT i hi) F0.bi F0.gen F0.tick F0.crlf F0.p1 F0.p2 F0.p3
 obtain⟨c,hT⟩:=hT;cases((F0.hm▸e1:mg (jn 17)=some (.ref a)).symm.trans hmg);obtain⟨xs,rfl,hx,hl⟩:=bhl hpre;obtain⟨v,vs',rfl,hw1,hw2⟩:=wellAll_cons_inv hwl;cases hw2;cases hw1 with
 |@list l vs _ hol hws=>
 have P0:s₁.heap.get? Gl.P=some {cls:=.none,data:=.fields #[]}:=hT.2;have hlP:l≠Gl.P:=by rintro rfl;rw[hol]at P0;exact nomatch P0
 obtain⟨is,hlen,hrep⟩:=bcn (prog:=PySem.Challenge.rw_wz0001_01.row.prog) (w:=w) (g:=bu ⟨fun _=>none,0⟩ l {cls:=.type "list",data:=.seq vs.toArray}) hws hx
 have X:SOK Gl (bu ⟨fun _=>none,0⟩ l {cls:=.type "list",data:=.seq vs.toArray}) (tk1 s₁):={
  view:=fun b o' e=>by
   simp only[bu]at e;split at e
   .rename_i hb;subst hb;cases e;exact hol
   .exact nomatch e
  gP:=by simp only[bu];rw[if_neg (g7 hlP)]
  gok:=⟨fun b o' _ e=>by rw[hB]at e;exact e,(F0.gen.tabIs _).mpr ⟨#[],trivial,P0⟩,_,_,P0,rfl,rfl⟩
  toks:=gf _
  lim:=g9 _
  bare:=by show AllBare s₁.gens;rw[hg];intro x hx;simp at hx}
 have hr:a9 PySem.Challenge.rw_wz0001_01.row.prog w (bu ⟨fun _=>none,0⟩ l {cls:=.type "list",data:=.seq vs.toArray}) [.ref l] [.list (is.map .int)]:=by
  refine⟨?_,trivial⟩;exact⟨l,vs,0,rfl,bu.self,hrep⟩
 exact .mk F0.gen hB P0 hT (F (A:=callerA) ⟨rfl,by decide,by decide⟩ X hr (PL is (O.ck [_,_] [.le .x1 (.c 63),.eq .x0 .x1] (.le .x0 (.c 63)) 1101 rfl hl hlen)))
def a5l{YP:dv->bf->Prop}(Q:QOK q loose)(PL:arx){d:DefRec}{kwd:List (Str×al)}(hd:d.name=jn 17) :
  WalkO q loose (XL q []) YP PySem.Challenge.rw_wz0001_01.row.toRowW d kwd fun f vs=>PySem.call f vs:=by
 intro w s₀ s₁ mg mb G Y fa o pm cd doc dV kV ho hdd hcd hD hmg hg args vals as hpre hlay hrd hwl hlo;replace hwl:=a8t Q PL G.T G.X.1 (hd▸hmg) hg hpre hwl;induction hwl with
 |@mk Gl l c xs g H hB P0 hT W=>
 refine wm' W (fun r s' ⟨g',e,q⟩=>?_)
 subst q;have hk:∀b o,b≠Gl.P->s₁.heap.get? b=some o->s'.heap.get? b=some o:=fun b o hb h=>e.heap b o hb h
 obtain⟨ps,_,hps⟩:=(H.tabIs _).mp e.gok.tab;refine⟨.inl ⟨_,.bool true,[],rfl,fun _=>rfl,.bool true,a9a xs,fun _=>⟨qb,fun a h=>by exact nomatch h⟩⟩,⟨fun b ob hb=>?_,fun b ob hb=>?_⟩,e.os,e.bare⟩
 .if hP:b=Gl.P then
   subst hP;cases hb.symm.trans P0;exact .inr (.inl ⟨hT.isCodeTable,rfl,#[],ps,rfl,by rw[hps];simp⟩)
  else exact .inl (hk b ob hP hb)
 .if hP:b=Gl.P then exact⟨_,hP▸hps⟩
  else exact⟨ob,hk b ob hP hb⟩
end
end Mine
namespace Mine.L
section
open PySem.Builtin PySem.Builtin.Str
noncomputable def f9(y:List Nat):Nat->Nat->Nat->List Nat->List Nat
 |_,_,_,[]=>[]
 |skip+1,i,k,_::r=>f9 y skip (i+1) k r
 |0,i,k,c::r=>if 0<k/\y.isPrefixOf (c::r)=true then i::f9 y (y.length - 1) (i+1) (k - 1) r else f9 y 0 (i+1) k r
variable{y:List Nat}
def zv{z0 z1 z2}:f9 y z0 z1 z2 []=[]:=rfl
def zu{skip i k zz r}:f9 y (skip+1) i k (zz::r)=f9 y skip (i+1) k r:=rfl
def rz{i k c r}:f9 y 0 i k (c::r)=if 0<k/\y.isPrefixOf (c::r)=true then i::f9 y (y.length - 1) (i+1) (k - 1) r else f9 y 0 (i+1) k r:=rfl
def aoq(L y:List Nat)(i:Nat):(i+y.length<=L.length/\((L.drop i).take y.length==y)=true)↔(y.isPrefixOf (L.drop i)=true/\i<=L.length):=by
 rw[anf,List.prefix_iff_eq_take];constructor
 .rintro⟨h,e⟩;exact⟨(beq_iff_eq.mp e).symm,O.o0 h⟩
 .rintro⟨e,h⟩;refine⟨?_,beq_iff_eq.mpr e.symm⟩;have:=congrArg pd e;rw[y6,nz]at this;exact O.ck [_,_,_] [.le .x0 .x2,.eq .x1 (.mi .x1 (.s .x2 .x0))] (.le (.a .x0 .x1) .x2) 1100008110000981018100199 rfl h this
def a9z(x y:Str)(limit:Nat)(hy:1<=y.length):∀(m i:Nat) (st:Array Nat×Nat),i+m=x.length ->
  (forIn (uo i (m+1)) st (adw x y x.length limit)).run.fst.toList=st.1.toList++f9 y.cps.toList (st.2 - i) i (limit - st.1.size) (x.cps.toList.drop i):=by
 have hyl:y.cps.toList.length=y.length:=l7;have hxl:x.cps.toList.length=x.length:=l7;intro m;induction m with
 |zero=>
  intro i st h;have hi:i=x.length:=h;subst hi;rw[rg (by exact O.o2 hxl)]
  rw[show uo x.length (0+1)=[x.length]from rfl,uw];unfold adw;rw[if_neg (by exact O.ck [_,_,_,_,_,_] [.le (.c 1) .x4,.eq .x5 .x4] (.n (.an (.an (.an (.lt .x0 .x1) (.le .x2 .x3)) (.le (.a .x3 .x4) .x3)) (.h _))) 100001 rfl hy hyl)]
  simp[zv,zu,rz]
 |succ m ih=>
  intro i st h;rw[abe,uw];have hd:=lh (l:=x.cps.toList) (i:=i) (O.o4 hxl h);unfold adw;by_cases hc:((st.fst.size<limit/\st.snd<=i)/\i+y.length<=x.length)/\subAt x y i=true
  .rw[if_pos hc];have hp:=(aoq x.cps.toList y.cps.toList i).mp ⟨O.ck [_,_,_,_,_,_,_,_,_] [.eq .x1 .x3,.eq .x2 .x4,.eq (.a .x0 (.a .x5 (.c 1))) .x4,.an (.an (.an (.lt .x6 .x7) (.le .x8 .x0)) (.le (.a .x0 .x3) .x4)) (.h _)] (.le (.a .x0 .x1) .x2) 1001000011 rfl hyl hxl h hc,by have:=hc.2;rw[atk]at this;rw[hyl];exact this⟩
   have:=ih (i+1) (st.1.push i,i+y.length) (O.o6 h);show(forIn (uo (i+1) (m+1)) (st.fst.push i,i+y.length) (adw x y x.length limit)).run.fst.toList=_;rw[this];rw[show st.2 - i=0 from O.ck [_,_,_,_,_,_] [.an (.an (.an (.lt .x2 .x3) (.le .x0 .x1)) (.le (.a .x1 .x4) .x5)) (.h _)] (.eq (.s .x0 .x1) (.c 0)) 18198118100199 rfl hc,hd];rw[hd]at hp;simp only[zv,zu,rz];rw[if_pos ⟨O.ck [_,_,_,_,_,_] [.an (.an (.an (.lt .x1 .x0) (.le .x2 .x3)) (.le (.a .x3 .x4) .x5)) (.h _)] (.lt (.c 0) (.s .x0 .x1)) 100108100019 rfl hc,hp.1⟩];simp only[atz,amc,gj,au1];rw[show i+y.length - (i+1)=y.cps.toList.length - 1 from O.ck [_,_,_] [.le (.c 1) .x1,.eq .x2 .x1] (.eq (.s (.a .x0 .x1) (.a .x0 (.c 1))) (.s .x2 (.c 1))) 18198100100810010099810000181011981000181001999 rfl hy hyl,show limit - (st.fst.size+1)=limit - st.fst.size - 1 from O.o10]
  .rw[if_neg hc];have:=ih (i+1) st (O.o6 h);show(forIn (uo (i+1) (m+1)) (st.fst,st.snd) (adw x y x.length limit)).run.fst.toList=_;rw[this,hd];rcases auc (st.2 - i)with h0|h0
   .rw[h0,show st.2 - (i+1)=0 from O.ck [_,_] [.eq (.s .x0 .x1) (.c 0)] (.eq (.s .x0 (.a .x1 (.c 1))) (.c 0)) 1819811810001998181981181001999 rfl h0];simp only[zv,zu,rz];rw[if_neg];rintro⟨h1,h2⟩;rw[<-hd]at h2;have hp:=(aoq x.cps.toList y.cps.toList i).mpr ⟨h2,aw (kn i (m+1)) (aha (h.trans hxl.symm))⟩;exact hc ⟨⟨⟨O.ck [_,_] [.lt (.c 0) (.s .x1 .x0)] (.lt .x0 .x1) 108119 rfl h1,O.ck [_,_,_,_] [.eq (.s .x0 .x1) (.c 0),.lt (.c 0) (.s .x2 .x3)] (.le .x0 .x1) 108100001981081000199 rfl h0 h1⟩,O.ck [_,_,_,_,_,_] [.eq .x3 .x1,.eq .x4 .x2,.eq (.a .x0 (.a .x5 (.c 1))) .x2,.an (.le (.a .x0 .x3) .x4) (.h _)] (.le (.a .x0 .x1) .x2) 1100011 rfl hyl hxl h hp⟩,by rw[atk,<-hyl];exact hp.2⟩
   .obtain⟨k,hk⟩:∃k,st.2 - i=k+1:=⟨st.2 - i - 1,O.o15 h0⟩;rw[hk,show st.2 - (i+1)=k from O.o16 h0 hk];exact ix _
def ai6(x y:Str)(limit:Nat)(hy:1<=y.length):occurrences x y 0 x.length limit=f9 y.cps.toList 0 0 limit x.cps.toList:=by
 rw[StrLaws.occ_eq];have:=a9z x y limit hy x.length 0 (#[],0) (O.o17);rw[adp,this];exact ix _
noncomputable def pn(c:Nat):List (List Nat)->List (List Nat)
 |[]=>[[c]]
 |p::ps=>(c::p)::ps
noncomputable def rx(a:List Nat):List (List Nat)->List (List Nat)
 |[]=>[a]
 |p::ps=>(a++p)::ps
noncomputable def spl(y:List Nat):Nat->Nat->List Nat->List (List Nat)
 |_,_,[]=>[[]]
 |skip+1,k,_::r=>spl y skip k r
 |0,k,c::r=>if 0<k/\y.isPrefixOf (c::r)=true then []::spl y (y.length - 1) (k - 1) r else pn c (spl y 0 k r)
def w8{z0 z1}:spl y z0 z1 []=[[]]:=rfl
def w7{skip k zz r}:spl y (skip+1) k (zz::r)=spl y skip k r:=rfl
def rr{k c r}:spl y 0 k (c::r)=if 0<k/\y.isPrefixOf (c::r)=true then []::spl y (y.length - 1) (k - 1) r else pn c (spl y 0 k r):=rfl
theorem ph(y:List Nat):∀(x:List Nat) (s k:Nat),∃p ps,spl y s k x=p::ps
 |[],_,_=>⟨_,_,rfl⟩
 |_::r,s+1,k=>ph y r s k
 |c::r,0,k=>by
  dsimp only[w8,w7,rr];split
  .exact⟨_,_,rfl⟩
  .obtain⟨p,ps,e⟩:=ph y r 0 k;exact e▸⟨_,_,rfl⟩
def a86(a:List Nat)(c:Nat)(l:List (List Nat))(h:l≠[]):rx (a++[c]) l=rx a (pn c l):=by
 induction l with
 |nil=>exact absurd rfl h
 |cons p ps=>simp[rx,pn]
def a9l(x:Str)(y:List Nat)(hy:1<=y.length):∀(m i a skip k:Nat),i+m=x.length->(i+skip=a/\a<=x.length\/skip=0/\a<=i) ->
  (abh x y.length a (f9 y skip i k (x.cps.toList.drop i))).map (·.cps.toList)=rx ((x.cps.toList.drop a).take (i - a)) (spl y skip k (x.cps.toList.drop i)):=by
 have hxl:x.cps.toList.length=x.length:=l7;intro m;induction m with
 |zero=>
  intro i a skip k h ha;subst(h:i=x.length);rw[(rg (O.o2 hxl):x.cps.toList.drop x.length=[])];rw[(by cases skip<;>rfl:f9 y skip x.length k []=[]),(by cases skip<;>rfl:spl y skip k []=[[]])]
  simp only[abh,ee,wj,rx,fo,auw]
 |succ m ih=>
  intro i a skip k h ha;have hd:=lh (l:=x.cps.toList) (i:=i) (O.o4 hxl h);rw[hd];induction skip with
  |succ t=>
   simp only[zv,zu,rz,w8,w7,rr];rw[ih (i+1) a t k (O.o6 h) (O.o69 h ha)];rw[show i+1 - a=i - a from O.o70 ha]
  |zero=>
   have hai:a<=i:=O.ck [_,_,_] [.o (.an (.eq (.a .x1 (.c 0)) .x0) (.le .x0 .x2)) (.an (.eq (.c 0) (.c 0)) (.le .x0 .x1))] (.le .x0 .x1) 1181019 rfl ha;simp only[zv,zu,rz,w8,w7,rr];split
   .rename_i hc;have hw:=(aoq x.cps.toList y i).mpr ⟨by rw[hd];exact hc.2,sx (O.o4 hxl h)⟩
    simp only[abh,ee];rw[ih (i+1) (i+y.length) (y.length - 1) (k - 1) (O.o6 h) (O.o72 hy hxl h hw)];obtain⟨p,ps,e⟩:=ph y (x.cps.toList.drop (i+1)) (y.length - 1) (k - 1);rw[e,show i+1 - (i+y.length)=0 from O.ck [_,_] [.le (.c 1) .x1] (.eq (.s (.a .x0 (.c 1)) (.a .x0 .x1)) (.c 0)) 1819811810199 rfl hy];simp only[ahh,rx,ix,fo,auw]
   .rw[ih (i+1) a 0 k (O.o6 h) (O.ck [_,_,_] [.le .x1 .x0] (.o (.an (.eq (.a (.a .x0 (.c 1)) (.c 0)) .x1) (.le .x1 .x2)) (.an (.eq (.c 0) (.c 0)) (.le .x1 (.a .x0 (.c 1))))) 1018181998110818199810181819999 rfl hai)];obtain⟨p,ps,e⟩:=ph y (x.cps.toList.drop (i+1)) 0 k;rw[<-a86 _ _ _ (by rw[e];simp)]
    congr 1
    rw[show i+1 - a=(i - a)+1 from Nat.succ_sub hai,awe (by rw[nz];exact O.ck [_,_,_,_,_] [.eq .x2 .x3,.eq (.a .x0 (.a .x4 (.c 1))) .x3,.le .x1 .x0] (.lt (.s .x0 .x1) (.s .x2 .x1)) 1100811009811010108110000199 rfl hxl h hai)]
    congr 2
    rw[List.getElem_drop];congr 1;exact O.o76 hai
def ay9(x:Str)(y:List Nat)(hy:1<=y.length)(k:Nat):(abh x y.length 0 (f9 y 0 0 k x.cps.toList)).map (·.cps.toList)=spl y 0 k x.cps.toList:=by
 have:=a9l x y hy x.length 0 0 0 k (O.o17) (.inr ⟨rfl,ay _⟩);rw[al8,adp,ahh]at this;refine this▸?_;obtain⟨p,ps,e⟩:=ph y x.cps.toList 0 k;rw[e];rfl
theorem aoz(y:List Nat):∀(x:List Nat) (s i k:Nat),x.length<y.length->f9 y s i k x=[]
 |[],s,_,_,_=>by cases s<;>rfl
 |_::r,s+1,i,k,h=>aoz y r s (i+1) k (by simp at h;exact O.o77 h)
 |c::r,0,i,k,h=>by
  dsimp only[zv,zu,rz];rw[if_neg,aoz y r 0 (i+1) k (by simp at h;exact O.o77 h)]
  rintro⟨_,hp⟩;have:=(anf.mp hp).length_le;exact O.ck [_,_] [.lt .x0 .x1,.le .x1 .x0] (.h False) 11 rfl h this
def a64(x:Str):1<=qh x:=by
 delta qh;split
 .exact ay _
 .split<;>exact gf _
def ax3(x y:Str)(limit:Nat)(hy:1<=y.length)(hk:qh y=1) :
  ((if(decide (x.length<y.length) ||decide (qh x<qh y))=true then [x]else
   if(occurrences x y 0 x.length limit).isEmpty=true then [x]else partsBetween x (occurrences x y 0 x.length limit) y.length):List Str).map (·.cps.toList)=spl y.cps.toList 0 limit x.cps.toList:=by
 have hyl:y.cps.toList.length=y.length:=l7;have key:=ay9 x y.cps.toList (O.o79 hy hyl) limit;have h0:f9 y.cps.toList 0 0 limit x.cps.toList=[]->spl y.cps.toList 0 limit x.cps.toList=[x.cps.toList]:=fun e=>by
  rw[<-key,e];simp only[abh,ee,wj,atx]
 refine(ai6 x y limit hy)▸?_;split
 .rename_i h;replace h:=hk.symm▸h;have hlt:x.length<y.length:=by
   rcases ahm _ _▸h with h|h
   .exact of_decide_eq_true h
   .have:=of_decide_eq_true h;exact O.ck [_,_,_] [.le (.c 1) .x2,.lt .x2 (.c 1)] (.lt .x0 .x1) 110 rfl (a64 x) this
  rw[h0 (aoz _ _ _ _ _ (O.ck [_,_,_,_] [.eq .x1 .x2,.eq .x0 .x3,.lt .x3 .x2] (.lt .x0 .x1) 11011 rfl hyl (by simp[Str.length]:x.cps.toList.length=x.length) hlt))]
  rfl
 .split
  .rename_i h;refine(h0 (amg.mp h))▸?_;rfl
  .rw[avi,<-hyl,key]
def a7h(x y:Str)(hy:1<=y.length)(hk:qh y=1):(Txt.split x y).map (·.cps.toList)=spl y.cps.toList 0 (x.length+1) x.cps.toList:=ax3 x y _ hy hk
def a7i(x y:Str)(k:Int)(hy:1<=y.length)(hk:qh y=1):(asf x y k).map (·.cps.toList)=spl y.cps.toList 0 (limitOf x k) x.cps.toList:=ax3 x y _ hy hk
noncomputable def cf(z:List Nat):List (List Nat)->List Nat
 |[]=>[]
 |[p]=>p
 |p::q::r=>p++z++cf z (q::r)
variable{z:List Nat}
def tj:cf z []=[]:=rfl
def ti{p}:cf z [p]=p:=rfl
def r4{p q r}:cf z (p::q::r)=p++z++cf z (q::r):=rfl
def aju(z:Str):∀l:List Str,(yw z l).cps.toList=cf z.cps.toList (l.map (·.cps.toList)):=by
 intro l;show(glued z l).cps.toList=_;rw[StrLaws.glued_eq_join];induction l with
 |nil=>rfl
 |cons p r ih=>
  induction r with
  |nil=>rfl
  |cons q r=>
   show(p++z++Str.join z (q::r)).cps.toList=_;simp only[as1,aui,ee,tj,ti,r4]at ih |-;rw[ih]
def aoh(x y z:Str)(hy:1<=y.length):(alr x y z).cps.toList=cf z.cps.toList (spl y.cps.toList 0 (x.length+1) x.cps.toList):=by
 have hyl:y.cps.toList.length=y.length:=l7;have key:=ay9 x y.cps.toList (O.o79 hy hyl) (x.length+1);unfold alr;rw[ai6 x y _ hy];split
 .rename_i h;have h:f9 y.cps.toList 0 0 (x.length+1) x.cps.toList=[]:=by
   rcases ahm _ _▸h with h|h
   .exact amg.mp h
   .simp at h;have:=h.1;exact O.ck [_,_,_] [.le (.c 1) .x0,.eq .x1 .x0,.an (.eq .x0 (.c 0)) (.eq .x2 (.c 0))] (.h _) 1001000 rfl hy hyl h
  rw[h]at key;rw[<-key];simp only[abh,ee,wj,atx,tj,ti,r4]
 .rw[<-key,avi,hyl];exact aju z _
def bdp(x y:Str)(hy:1<=y.length):alg x y=match f9 y.cps.toList 0 0 1 x.cps.toList with|i::_=>(i:Int) |[] => -1:=by
 refine(ai6 x y 1 hy)▸?_;cases f9 y.cps.toList 0 0 1 x.cps.toList<;>rfl
end
noncomputable def jk(c:Nat):List Nat->List (List Nat)
 |[]=>[[]]
 |a::r=>if a=c then []::jk c r else pn a (jk c r)
variable{c:Nat}
def aeq:jk c []=[[]]:=rfl
def w9{a r}:jk c (a::r)=if a=c then []::jk c r else pn a (jk c r):=rfl
theorem aby(c:Nat):∀(x:List Nat) (k:Nat),x.length<=k->spl [c] 0 k x=jk c x
 |[],_,_=>rfl
 |a::r,k,h=>by
  simp only[dh]at h;rw[rr,w9];by_cases e:a=c
  .subst e;rw[if_pos ⟨O.ck [_,_] [.le (.a .x1 (.c 1)) .x0] (.lt (.c 0) .x0) 11 rfl h,by simp[sy]⟩,if_pos rfl]
   simp only[qg,ag6];rw[aby a r (k - 1) (O.ck [_,_] [.le (.a .x0 (.c 1)) .x1] (.le .x0 (.s .x1 (.c 1))) 11181019 rfl h)]
  .rw[if_neg (by simp[sy,g7 e]),if_neg e,aby c r k (O.o85 h)]
noncomputable def lr(c:Nat)(z:List Nat)(x:List Nat):List Nat:=x.flatMap fun a=>if a=c then z else [a]
def ap4(z:List Nat)(a:Nat)(l:List (List Nat))(h:l≠[]):cf z (pn a l)=a::cf z l:=by
 cases l with
 |nil=>exact absurd rfl h
 |cons p ps=>cases ps<;>exact ix _
def aaa(z p:List Nat)(l:List (List Nat))(h:l≠[]):cf z (p::l)=p++z++cf z l:=by
 induction l with
 |nil=>exact absurd rfl h
 |cons q r=>rfl
def aep(c:Nat):∀x,jk c x≠[]
 |[]=>by simp[aeq,w9]
 |a::r=>by
  rw[w9];split
  .simp
  .cases jk c r<;>simp[pn]
theorem ap0(c:Nat)(z:List Nat):∀x,cf z (jk c x)=lr c z x
 |[]=>rfl
 |a::r=>by
  rw[w9];split
  .rename_i e;rw[aaa _ _ _ (aep c r),ap0 c z r];simp[lr,e]
  .rename_i e;rw[ap4 _ _ _ (aep c r),ap0 c z r];simp[lr,e]
noncomputable def dj:List Nat->List (List Nat)
 |[]=>[[]]
 |13::10::r=>[]::dj r
 |a::r=>if a=13\/a=10 then []::dj r else pn a (dj r)
noncomputable def crlf(z:List Nat):List Nat->List Nat
 |[]=>[]
 |13::10::r=>z++crlf z r
 |a::r=>a::crlf z r
def bcb(z:List Nat):∀(x:List Nat) (k:Nat),x.length<=k->cf z (spl [13,10] 0 k x)=crlf z x:=by
 intro x
 fun_induction crlf z x with
 |case1=>intro k _;rfl
 |case2 r ih=>
  intro k h;dsimp only[w8,w7,rr];rw[if_pos ⟨O.ck [_,_] [.le (.a (.a .x1 (.c 1)) (.c 1)) .x0] (.lt (.c 0) .x0) 11 rfl h,rfl⟩];have e:spl [13,10] ([13,10].length - 1) (k - 1) (10::r)=spl [13,10] 0 (k - 1) r:=rfl;refine e.symm▸?_;obtain⟨p,ps,e⟩:=ph [13,10] r 0 (k - 1);rw[aaa _ _ _ (by rw[e];simp),ih (k - 1) (O.ck [_,_] [.le (.a (.a .x0 (.c 1)) (.c 1)) .x1] (.le .x0 (.s .x1 (.c 1))) 11181019 rfl h)]
  simp
 |case3 a r hne ih=>
  intro k h;dsimp only[w8,w7,rr];rw[if_neg,ap4,ih k (O.o85 h)]
  .obtain⟨p,ps,e⟩:=ph [13,10] r 0 k;rw[e];exact nofun
  .rintro⟨_,hp⟩;have:=anf.mp hp;obtain⟨t,ht⟩:=this;simp only[sk,ix,adv]at ht;exact hne t ht.1.symm ht.2.symm
def a8g:∀x:List Nat,jk 10 (lr 13 [10] (crlf [10] x))=dj x:=by
 intro x
 fun_induction dj x with
 |case1=>rfl
 |case2 r ih=>
  show jk 10 (lr 13 [10] (10::crlf [10] r))=_;rw[show lr 13 [10] (10::crlf [10] r)=10::lr 13 [10] (crlf [10] r)from rfl];dsimp only[aeq,w9];rw[if_pos rfl,ih]
 |case3 a r hne h ih=>
  have:crlf [10] (a::r)=a::crlf [10] r:=by
   rw[crlf];intro t h1 h2;exact hne t h1 h2
  refine this▸?_;rw[show lr 13 [10] (a::crlf [10] r)=10::lr 13 [10] (crlf [10] r)from by
   rcases h with rfl|rfl<;>rfl]
  dsimp only[aeq,w9];rw[if_pos rfl,ih]
 |case4 a r hne h ih=>
  have:crlf [10] (a::r)=a::crlf [10] r:=by
   rw[crlf];intro t h1 h2;exact hne t h1 h2
  refine this▸?_;have h':a≠13/\a≠10:=by simpa using h
  rw[show lr 13 [10] (a::crlf [10] r)=a::lr 13 [10] (crlf [10] r)from by simp[lr,h'.1]]
  dsimp only[aeq,w9];rw[if_neg h'.2,ih]
section
open Mine.P
noncomputable def sw(p:Nat->Bool)(len:Nat->Nat)(rep:List Nat)(t:List Nat):(fuel s:Nat)->List Nat
 |0,_=>[]
 |f+1,s=>if h:s<t.length then(if p s then rep++sw p len rep t f (s+len s)else t[s]::sw p len rep t f (s+1))else []
variable{p:Nat->Bool}{rep:List Nat}
def axo{len:Nat->Nat}{t:List Nat}{z0}:sw p len rep t 0 z0=[]:=rfl
def abx{len:Nat->Nat}{t:List Nat}{k s}:sw p len rep t (k+1) s=if h:s<t.length then(if p s then rep++sw p len rep t k (s+len s)else t[s]::sw p len rep t k (s+1))else []:=rfl
def a6s(p:Nat->Bool)(len:Nat->Nat)(rep t:List Nat)(hl:∀k,0<len k):∀(f f' s:Nat),t.length - s<f->t.length - s<f'->sw p len rep t f s=sw p len rep t f' s:=by
 intro f;induction f with
 |zero=>intro f' s h;exact O.ck [_,_,_] [.lt (.s .x0 .x1) (.c 0)] (.i (.lt (.s .x0 .x1) .x2) (.h _)) 10081009811008110099 rfl h
 |succ f ih=>
  intro f' s h h';induction f' with
  |zero=>exact absurd (by assumption) (oz _)
  |succ f'=>
   simp only[axo,abx];by_cases hs:s<t.length
   .rw[dif_pos hs,dif_pos hs];have:=hl s;split
    .rw[ih f' (s+len s) (O.o89 h hs this) (O.o89 h' hs this)]
    .rw[ih f' (s+1) (O.o90 h hs) (O.o90 h' hs)]
   .rw[dif_neg hs,dif_neg hs]
def a6r(p:Nat->Bool)(len:Nat->Nat)(rep t:List Nat)(hl:∀k,0<len k):∀(d s:Nat),s+d=t.length ->
  match nx p d s with
  |some k=>s<=k/\k<t.length/\sw p len rep t (d+1) s=(t.drop s).take (k - s)++rep++sw p len rep t (t.length - (k+len k)+1) (k+len k)
  |none=>sw p len rep t (d+1) s=t.drop s:=by
 intro d;induction d with
 |zero=>
  intro s h;dsimp only[nx];dsimp only[axo,abx];rw[dif_neg (by exact O.ck [_,_] [.eq (.a .x0 (.c 0)) .x1] (.n (.lt .x0 .x1)) 11 rfl h),rg (by exact O.ck [_,_] [.eq (.a .x1 (.c 0)) .x0] (.le .x0 .x1) 11 rfl h)]
 |succ d ih=>
  intro s h;rw[ae9];have hs:s<t.length:=O.ck [_,_,_] [.eq (.a .x0 (.a .x2 (.c 1))) .x1] (.lt .x0 .x1) 101 rfl h;have hsw:sw p len rep t (d+1+1) s=if p s then rep++sw p len rep t (d+1) (s+len s)else t[s]::sw p len rep t (d+1) (s+1):=by
   rw[abx,dif_pos hs]
  refine if hp:p s=true then ?_ else ?_
  .refine(if_pos hp)▸?_;have:=hl s;refine⟨ay _,hs,?_⟩;rw[hsw,if_pos hp,ag6,ahh,ix,a6s p len rep t hl (d+1) (t.length - (s+len s)+1) _ (by exact O.ck [_,_,_,_] [.eq (.a .x1 (.a .x3 (.c 1))) .x0,.lt (.c 0) .x2] (.lt (.s .x0 (.a .x1 .x2)) (.a .x3 (.c 1))) 1811019 rfl h this) (by exact O.ck [_,_,_] [] (.lt (.s .x0 (.a .x1 .x2)) (.a (.s .x0 (.a .x1 .x2)) (.c 1))) 181198118199 rfl)]
  .refine(if_neg hp)▸?_;have:=ih (s+1) (O.o6 h);refine hsw▸(if_neg hp)▸?_;cases hn:nx p d (s+1)with
   |none=>
    replace this:=hn.symm▸this;simp only at this |-;rw[this,lh hs]
   |some k=>
    replace this:=hn.symm▸this;simp only at this |-;obtain⟨h1,h2,h3⟩:=this;refine⟨O.ck [_,_,_,_] [.eq (.a .x0 (.a .x2 (.c 1))) .x3,.le (.a .x0 (.c 1)) .x1] (.le .x0 .x1) 11 rfl h h1,h2,?_⟩;rw[h3,lh hs,show k - s=(k - (s+1))+1 from O.ck [_,_,_,_] [.eq (.a .x1 (.a .x2 (.c 1))) .x3,.le (.a .x1 (.c 1)) .x0] (.eq (.s .x0 .x1) (.a (.s .x0 (.a .x1 (.c 1))) (.c 1))) 10108198110081100998101081198181999 rfl h h1,List.take_succ_cons];exact ix _
def a17(t:Array Nat)(s k:Nat):(t.extract s k).toList=(t.toList.drop s).take (k - s):=by simp
def ay3(p:Nat->Bool)(len:Nat->Nat)(rep:Str)(t:Array Nat)(hl:∀k,0<len k):∀(f s:Nat),t.size - s<f ->
  ((pcs p len rep t f s).map (·.cps.toList)).flatten=sw p len rep.cps.toList t.toList (t.toList.length - s+1) s:=by
 have ht:t.toList.length=t.size:=l7;intro f;induction f with
 |zero=>intro s h;exact absurd (by assumption) (oz _)
 |succ f ih=>
  intro s h;by_cases hs:s<=t.size
  .have key:=a6r p len rep.cps.toList t.toList hl (t.size - s) s (O.ck [_,_,_] [.eq .x2 .x1,.le .x0 .x1] (.eq (.a .x0 (.s .x1 .x0)) .x2) 110811098100018100199 rfl ht hs);rw[ht];cases hn:nx p (t.size - s) s with
   |none=>
    rw[show pcs p len rep t (f+1) s=_ from P.ab5 hn];rw[hn]at key;simp only at key;rw[key];split
    .show((t.extract s t.size).toList::[]).flatten=_;rw[a17,am3 (by simp)];exact fo _
    .rw[rg (by exact O.ck [_,_,_] [.eq .x0 .x2,.le .x1 .x2,.n (.lt .x1 .x2)] (.le .x0 .x1) 10011 rfl ht hs ‹_›)];exact ix _
   |some k=>
    rw[show pcs p len rep t (f+1) s=_ from P.aey hn];rw[hn]at key;simp only at key;obtain⟨h1,h2,h3⟩:=key;have:=hl k;rw[h3,ei,ah0,ee,at4,show(alf (fun x:Str=>x.cps.toList) (P.md p len rep (fun b e=>⟨t.extract b e⟩) t.size f (k+len k))).flatten=_ from ih (k+len k) (O.ck [_,_,_,_,_,_] [.eq .x4 .x0,.lt (.s .x0 .x5) (.a .x3 (.c 1)),.le .x5 .x0,.le .x5 .x1,.lt .x1 .x4,.lt (.c 0) .x2] (.lt (.s .x0 (.a .x1 .x2)) .x3) 101000008101000009810010110018101010199 rfl ht h hs h1 h2 this),<-gj]
    congr 2
    split
    .simp[a17]
    .rw[show k - s=0 from by exact so (gi.1 (by assumption))];exact ix _
  .have h0:t.size - s=0:=O.ck [_,_] [.n (.le .x1 .x0)] (.eq (.s .x0 .x1) (.c 0)) 1819811810199 rfl hs;rw[show pcs p len rep t (f+1) s=_ from P.ab5 (h0▸rfl:nx p (t.size - s) s=none),if_neg (by exact O.ck [_,_] [.n (.le .x0 .x1)] (.n (.lt .x0 .x1)) 11 rfl hs),ht,h0]
   rw[abx];rw[dif_neg (by exact O.ck [_,_,_] [.eq .x1 .x2,.n (.le .x0 .x2)] (.n (.lt .x0 .x1)) 1011 rfl ht hs)]
   rfl
noncomputable def crl:List Nat->List Nat
 |[]=>[]
 |13::10::r=>13::10::crl r
 |a::r=>if a=13\/a=10 then 13::10::crl r else a::crl r
def qt(x:List Nat):dj x≠[]:=by
 fun_induction dj x with
 |case1=>simp
 |case2=>simp
 |case3=>simp
 |case4 a r _ _ ih=>cases h:dj r<;>simp[pn]
def ajt(x:List Nat):cf [13,10] (dj x)=crl x:=by
 fun_induction dj x with
 |case1=>rfl
 |case2 r ih=>rw[aaa _ _ _ (qt r),ih];rfl
 |case3 a r hne h ih=>
  rw[aaa _ _ _ (qt r),ih];rw[crl]
  .rw[if_pos h];rfl
  .exact hne
 |case4 a r hne h ih=>
  rw[ap4 _ _ _ (qt r),ih];rw[crl]
  .rw[if_neg h]
  .exact hne
noncomputable def mkS(l:List Nat):Str:=⟨l.toArray⟩
def gc(l:List Nat):(mkS l).cps.toList=l:=rfl
def a0m(x:Str):mkS x.cps.toList=x:=rfl
def fe(l:List Nat):(mkS l).length=l.length:=rfl
def afd{a b:List Nat}:mkS a=mkS b↔a=b:=⟨fun h=>by rw[<-gc a,h,gc],fun h=>by rw[h]⟩
def xq{x:Str}{l:List Nat}(h:x.cps.toList=l):x=mkS l:=by rw[<-h,a0m]
def apg(a b:List Nat):mkS a++mkS b=mkS (a++b):=xq (by rw[as1,aui,gc,gc])
def a0p{xs:List Str}{ls:List (List Nat)}(h:xs.map (·.cps.toList)=ls):xs=ls.map mkS:=by
 subst h;rw[b5];conv=>lhs;rw[<-ado xs]
 apply j3;intro x _;exact(a0m x).symm
noncomputable def stf:Bool->List Nat->List Nat
 |_,[]=>[]
 |b,c::r=>(if b=true/\c=46 then [46,46]else [c])++stf (c==10) r
def aem{z0}:stf z0 []=[]:=rfl
def n6{b c r:_}:stf b (c::r)=(if b=true/\c=46 then [46,46]else [c])++stf (c==10) r:=rfl
theorem ze:∀(l:List Nat) (b:Bool),(stf b l).length<=2 * l.length
 |[],_=>ay _
 |c::r,b=>by
  have:=ze r (c==10);rw[n6];split<;>simp only[de,dh,jt]
  .exact O.ck [_,_] [.le .x0 (.m 2 .x1)] (.le (.a (.a (.a (.c 0) (.c 1)) (.c 1)) .x0) (.m 2 (.a .x1 (.c 1)))) 11 rfl this
  .exact O.ck [_,_] [.le .x0 (.m 2 .x1)] (.le (.a (.a (.c 0) (.c 1)) .x0) (.m 2 (.a .x1 (.c 1)))) 11 rfl this
def aak:∀l:List Nat,(crl l).length<=2 * l.length:=by
 intro l
 fun_induction crl l with
 |case1=>exact ay _
 |case2 r ih=>simp only[dh];exact O.ck [_,_] [.le .x0 (.m 2 .x1)] (.le (.a (.a .x0 (.c 1)) (.c 1)) (.m 2 (.a (.a .x1 (.c 1)) (.c 1)))) 11 rfl ih
 |case3 a r _ _ ih=>simp only[dh];exact O.ck [_,_] [.le .x0 (.m 2 .x1)] (.le (.a (.a .x0 (.c 1)) (.c 1)) (.m 2 (.a .x1 (.c 1)))) 11 rfl ih
 |case4 a r _ _ ih=>simp only[dh];exact O.ck [_,_] [.le .x0 (.m 2 .x1)] (.le (.a .x0 (.c 1)) (.m 2 (.a .x1 (.c 1)))) 11 rfl ih
def aad{t:List Nat}{s:Nat}(h:s<t.length):t.toArray.getD s 0=t[s]:=by
 simp[Array.getD,h]
def axn(t:List Nat):∀(f s:Nat),t.length - s<f->s<=t.length->sw (dot t.toArray) (fun _=>1) [46,46] t f s=stf (bol t.toArray s) (t.drop s):=by
 intro f;induction f with
 |zero=>intro s h;exact O.a0d h
 |succ f ih=>
  intro s h hs;rw[abx];by_cases hlt:s<t.length
  .rw[dif_pos hlt,lh hlt];rw[n6];rw[ih (s+1) (O.o90 h hlt) (O.o109 hlt)];have hb:bol t.toArray (s+1)=(t[s]==10):=by
    unfold bol;rw[amv,aad hlt];rfl
   rw[hb];rw[(by unfold dot;rw[aad hlt]:dot t.toArray s=(bol t.toArray s && t[s]==46))]
   by_cases hc:bol t.toArray s=true/\t[s]=46
   .rw[if_pos hc,if_pos (by simp[hc])]
   .rw[if_neg hc,if_neg (by simpa using hc)];rfl
  .rw[dif_neg hlt,rg (gi.1 (by assumption))];rfl
def a6t(t:List Nat):∀(f s:Nat),t.length - s<f->s<=t.length->sw (brk t.toArray) (k5 t.toArray t.toArray.size) [13,10] t f s=crl (t.drop s):=by
 intro f;induction f with
 |zero=>intro s h;exact O.a0d h
 |succ f ih=>
  intro s h hs;rw[abx];by_cases hlt:s<t.length
  .rw[dif_pos hlt,lh hlt];rw[(by unfold brk;rw[aad hlt]:brk t.toArray s=(t[s]==10 ||t[s]==13))]
   by_cases h2:t[s]=13/\s+1<t.length/\t.toArray.getD (s+1) 0=10
   .obtain⟨h1,hl,h3⟩:=h2;have hlen:k5 t.toArray t.toArray.size s=2:=by
     unfold k5;rw[if_pos ⟨by rw[aad hlt];exact h1,by assumption,h3⟩]
    rw[hlen,if_pos (by simp[h1]),ih (s+2) (O.ck [_,_,_] [.lt (.s .x0 .x1) (.a .x2 (.c 1)),.lt .x1 .x0,.lt (.a .x1 (.c 1)) .x0] (.lt (.s .x0 (.a .x1 (.c 2))) .x2) 11081001009811081000199 rfl h hlt hl) (O.ck [_,_] [.lt .x0 .x1,.lt (.a .x0 (.c 1)) .x1] (.le (.a .x0 (.c 2)) .x1) 11 rfl hlt hl)]
    rw[aad hl]at h3;rw[lh hl,h1,h3];rfl
   .have hlen:k5 t.toArray t.toArray.size s=1:=by
     unfold k5;rw[if_neg];rintro⟨a,b,c⟩;exact h2 ⟨by rw[aad hlt]at a;exact a,by assumption,c⟩
    have hne:∀r,t[s]=13->t.drop (s+1)=10::r->False:=by
     intro r e1 e2;have hl:s+1<t.length:=by
      apply uj;intro hn;rw[rg (by exact O.ck [_,_] [.lt .x1 .x0,.n (.lt (.a .x1 (.c 1)) .x0)] (.le .x0 (.a .x1 (.c 1))) 11 rfl hlt hn)]at e2;exact nomatch e2
     rw[lh hl]at e2;injection e2 with e3 _;exact h2 ⟨e1,hl,by rw[aad hl];exact e3⟩
    rw[crl]
    .rw[hlen];by_cases hc:t[s]=13\/t[s]=10
     .rw[if_pos hc,if_pos (by rcases hc with h|h<;>simp[h]),ih (s+1) (O.o113 h hlt h2 hc) (O.o109 hlt)];rfl
     .rw[if_neg hc,if_neg (by simp only[not_or]at hc;simp[hc.1,hc.2]),ih (s+1) (O.a98 h hlt h2 hc) (O.o109 hlt)]
    .exact hne
  .rw[dif_neg hlt,rg (gi.1 (by assumption))];rfl
set_option tactic.hygienic true in
def ay4(p:Nat->Bool)(len:Nat->Nat)(rep:Str)(t:Array Nat):∀(f s:Nat),(pcs p len rep t f s).length<=2 * f:=by
 intro f;induction f with
 |zero=>intro s;exact ay _
 |succ f ih=>
  intro s;cases hn:P.nx p (t.size - s) s with
  |some k=>
   rw[show pcs p len rep t (f+1) s=_ from P.aey hn];have:=ih (k+len k);rw[de,dh];split<;>simp only[dh,jt]<;>exact O.ck [_,_,_] [.le .x0 (.c 1),.le .x1 (.m 2 .x2)] (.le (.a .x0 (.a .x1 (.c 1))) (.m 2 (.a .x2 (.c 1)))) 111 rfl (by first|exact ay 1|exact g9 1) this
  |none=>rw[show pcs p len rep t (f+1) s=_ from P.ab5 hn];split<;>simp<;>exact O.ck [_] [] (.le (.c 1) (.m 2 (.a .x0 (.c 1)))) 1 rfl
theorem ap6:∀l:List (List Nat),cf [] l=l.flatten
 |[]=>rfl
 |[p]=>by simp[tj,ti,r4]
 |p::q::r=>by rw[r4,ap6 (q::r)];exact gj ..
def et:sizeLine=16777216:=by decide
def ap3{sep:Str}{l:List Str}(h:(l.map (·.length)).sum+l.length * sep.length<=16777216):JoinOk sep l=true:=by
 delta JoinOk;rw[StrLaws.joinTotal,at1];delta avg;rw[decide_eq_false];rw[et];exact gi.2 (by assumption)
def axt(p:Array Nat->Nat->Bool)(len:Array Nat->Nat->Nat)(hl:∀t k,0<len t k)(rep x y:List Nat)(hr:(mkS rep).cps.contains 92=false)(hx:x.length<=1000000)
  (hy:sw (p x.toArray) (len x.toArray) rep x (x.length+1) 0=y) (hyl:y.length<=2 * x.length):P.subD p len (.str (mkS rep)) (.str (mkS x))=some (.str (mkS y)):=by
 have hf:=ay3 (p x.toArray) (len x.toArray) (mkS rep) x.toArray (hl _) (x.toArray.size+1) 0 (O.o33);replace hf:=hy.symm▸hf;have hc:=ay4 (p x.toArray) (len x.toArray) (mkS rep) x.toArray (x.toArray.size+1) 0;have hs:x.toArray.size=x.length:=rfl;replace hc:=hs.symm▸hc;show(if _ then _ else _)=_
 have hsum:((pcs (p x.toArray) (len x.toArray) (mkS rep) x.toArray (x.toArray.size+1) 0).map (·.length)).sum=y.length:=by
  rw[<-hf,auh,b5];rfl
 rw[if_pos]
 .have e:yw (⟨#[]⟩:Str) (pcs (p x.toArray) (len x.toArray) (mkS rep) x.toArray (x.toArray.size+1) 0)=mkS y:=xq (by rw[aju,ap6];exact hf)
  exact congrArg (fun z=>some (D.str z)) e
 .refine⟨hr,by show x.toArray.size<=_;rw[et,hs];exact O.ck [_,_] [.le .x0 (.c 1000000),.eq .x1 .x0] (.le .x0 (.c 16777216)) 1001 rfl hx hs,ap3 ?_,by show(pcs (p x.toArray) (len x.toArray) (mkS rep) x.toArray (x.toArray.size+1) 0).length<=_;rw[et,hs];exact O.ck [_,_,_] [.le .x1 (.c 1000000),.le .x0 (.m 2 (.a .x1 (.c 1))),.eq .x2 .x1] (.le .x0 (.c 16777216)) 21001 rfl hx hc hs⟩
  exact hsum▸(O.ck [_,_,_,_,_] [.le .x2 (.c 1000000),.le .x0 (.m 2 .x2),.eq .x3 .x2,.eq .x4 .x0] (.le (.a .x0 (.w .x1 0)) (.c 16777216)) 2100001 rfl hx hyl hs hsum)
def bbt:aj ".." = mkS [46,46]:=by rw[j4];rfl
def z8:aj "\r\n" = mkS [13,10]:=by rw[j4];rfl
def a61(x:List Nat)(hx:x.length<=1000000):axw (.str "..") (.str (mkS x))=some (.str (mkS (stf true x))):=by
 refine bbt▸?_;refine axt P.dot _ (fun _ _=>alo) _ x _ (by decide+kernel) hx ?_ (ze x true)
 exact axn x (x.length+1) 0 (O.a0c hx) (g9 _)
def axu(x:List Nat)(hx:x.length<=1000000):anv (.str "\r\n") (.str (mkS x))=some (.str (mkS (crl x))):=by
 refine z8▸?_;refine axt P.brk _ (fun t k=>by delta k5;split<;>decide) _ x _ (by decide+kernel) hx ?_ (aak x)
 exact a6t x (x.length+1) 0 (O.a0c hx) (g9 _)
theorem axy:∀(l:List Nat) (b:Bool) (r:List Nat),(∀c∈l,128<=c)->l≠[]->stf b (l++r)=l++stf false r
 |[],_,_,_,h=>absurd rfl h
 |[c],b,r,h,_=>by
  have:=h c (.head _);show stf b (c::r)=c::stf false r;rw[n6];rw[if_neg (by exact O.o18 this),show(c==10)=false from by simp;exact O.ck [_] [.le (.c 128) .x0] (.n (.eq .x0 (.c 10))) 110 rfl this]
  cases r<;>rfl
 |c::d::l,b,r,h,_=>by
  have:=h c (.head _);show stf b (c::(d::l++r))=c::(d::l++stf false r);rw[n6,if_neg (by exact O.o18 this),axy (d::l) _ r (fun x hx=>h x (er _ hx)) (by simp)]
  rfl
def hi8{n j k:Nat}(hj:j<k)(hn:128<=n:=by decide)(h:n+k<=256:=by decide):128<=(n+j).toUInt8.toNat:=(u8 (i7 (ah1 hj n) h)).symm▸aw hn (kn ..)
variable{c:Nat}
def a5o(h1:128<=c)(h2:c<0xD800):∀x∈(kf c).map (·.toNat),128<=x:=by
 have low:∀r,128<=(128+r % 64).toUInt8.toNat:=fun r=>hi8 (k:=64) (we _ (by decide))
 unfold kf;rw[if_neg (gi.2 h1)]
 if h3:c<0x800 then
  rw[if_pos h3];exact o5.2 ⟨hi8 (k:=32) (ah2 h3),o5.2 ⟨low c,fun _ h=>nomatch h⟩⟩
 else
  rw[if_neg h3,if_pos (ur h2 (by decide))]
  exact o5.2 ⟨hi8 (k:=16) (ah2 (ur h2 (by decide))),o5.2 ⟨low _,o5.2 ⟨low c,fun _ h=>nomatch h⟩⟩⟩
def aw0(h:c<128):kf c=[c.toUInt8]:=by delta kf;rw[if_pos (by assumption)]
def aft(c:Nat)(r:List Nat):ek (c::r)=kf c++ek r:=rfl
theorem anx:∀(l:List Nat) (b:Bool),Low l->stf b ((ek l).map (·.toNat))=(ek (stf b l)).map (·.toNat)
 |[],b,_=>rfl
 |c::r,b,h=>by
  have hr:Low r:=fun x hx=>h x (er _ hx)
  have hc:=h c (.head _);rw[aft,ei];by_cases h1:c<128
  .rw[aw0 h1];show stf b (c.toUInt8.toNat::(ek r).map (·.toNat))=_;rw[u8 (aw (by assumption) (by decide)),n6,n6,anx r _ hr]
   split
   .rw[show([46,46]++stf (c==10) r)=46::46::stf (c==10) r from rfl,aft,aft];rfl
   .rw[show([c]++stf (c==10) r)=c::stf (c==10) r from rfl,aft,aw0 h1,ei];show [c]++_=[c.toUInt8.toNat]++_;rw[u8 (by exact O.ck [_] [.lt .x0 (.c 55296),.lt .x0 (.c 128)] (.lt .x0 (.c 256)) 11 rfl hc h1)]
  .rw[axy _ b _ (a5o (gi.1 (by assumption)) hc) (by
    intro e;have h2:=anm c;have h3:=congrArg pd e;rw[b8]at h3;rw[h3]at h2;simp at h2)]
   rw[anx r _ hr,n6,if_neg (by exact O.ck [_] [.lt .x0 (.c 55296),.n (.lt .x0 (.c 128))] (.n (.an (.h _) (.eq .x0 (.c 46)))) 110 rfl hc h1),show(c==10)=false from beq_eq_false_iff_ne.2 fun e=>h1 (e▸by decide)]
   rw[show([c]++stf false r)=c::stf false r from rfl,aft,ei]
def a3l(l:List (Array UInt8)):(ot l).toList=(l.map (·.toList)).flatten:=by
 have:∀(l:List (Array UInt8)) (a:Array UInt8),(l.foldl (·++·) a).toList=a.toList++(l.map (·.toList)).flatten:=by
  intro l;induction l with
  |nil=>intro a;simp
  |cons x r ih=>intro a;rw[q8,ih];simp
 unfold ot;rw[this];rfl
def bdj(l:List (Array UInt8)):l.foldl (· + ·.size) 0=(ot l).toList.length:=by
 have:∀(l:List (Array UInt8)) (n:Nat),l.foldl (· + ·.size) n=n+((l.map (·.toList)).flatten).length:=by
  intro l;induction l with
  |nil=>intro n;rfl
  |cons x r ih=>intro n;rw[q8,ih];simp;exact O.ck [_,_,_] [] (.eq (.a (.a .x0 .x1) .x2) (.a .x0 (.a .x1 .x2))) 1819 rfl
 rw[this,a3l];exact O.o17
noncomputable def u8s(y:Str):Array UInt8:=y.cps.map (·.toUInt8)
def a0q(l:List UInt8):(l.map (·.toNat)).map (·.toUInt8)=l:=by
 rw[b5];conv=>rhs;rw[<-ado l]
 apply j3;intro a _;simp
def ay5(p:Nat->Bool)(len:Nat->Nat)(rep x:Array UInt8):∀(f s:Nat),tf p len rep x f s=(pcs p len (mkS (rep.toList.map (·.toNat))) (tx x) f s).map u8s:=by
 have hrep:u8s (mkS (rep.toList.map (·.toNat)))=rep:=by
  apply ad4.mp;show(u8s (mkS (rep.toList.map (·.toNat)))).toList=rep.toList;rw[show(u8s (mkS (rep.toList.map (·.toNat)))).toList=(rep.toList.map (·.toNat)).map (·.toUInt8)from by simp[u8s,mkS],a0q]
 intro f;induction f with
 |zero=>intro s;rfl
 |succ f ih=>
  intro s;cases hn:P.nx p ((tx x).size - s) s with
  |none=>rw[show tf p len rep x (f+1) s=_ from P.ab5 hn,show pcs p len (mkS (rep.toList.map (·.toNat))) (tx x) (f+1) s=_ from P.ab5 hn];split<;>rfl
  |some k=>
   rw[show tf p len rep x (f+1) s=_ from P.aey hn,show pcs p len (mkS (rep.toList.map (·.toNat))) (tx x) (f+1) s=_ from P.aey hn];rw[ei,ee,hrep];refine congr (congrArg _ ?_) (congrArg (rep::·) (ih _));split<;>rfl
def aw5(l:List Nat):(tx (enc (mkS l))).toList=(ek l).map (·.toNat):=by simp[tx,enc,gc]
def aw4(l:List Nat):tx (enc (mkS l))=((ek l).map (·.toNat)).toArray:=by rw[<-aw5]
def a60(l:List Nat)(hl:Low l)(hx:l.length<=1000000):axv (.bytes ([46,46]:List UInt8).toArray) (.bytes (enc (mkS l)))=some (.bytes (enc (mkS (stf true l)))):=by
 have hle:=afs l
 let rep:Array UInt8:=([46,46]:List UInt8).toArray
 have hsz:(tx (enc (mkS l))).size=(ek l).length:=by rw[aw4];exact b8 ..
 have hf:=ay3 (dot (tx (enc (mkS l)))) (fun _=>1) (mkS (rep.toList.map (·.toNat))) (tx (enc (mkS l))) (fun _=>alo) ((tx (enc (mkS l))).size+1) 0 (O.ck [_,_] [.eq .x0 .x1] (.lt (.s .x0 (.c 0)) (.a .x0 (.c 1))) 1819 rfl hsz)
 rw[(by rw[gc];rfl:(mkS (rep.toList.map (·.toNat))).cps.toList=[46,46]),aw5,adp]at hf
 have hsw:=axn ((ek l).map (·.toNat)) (((ek l).map (·.toNat)).length+1) 0 (O.o33) (O.ck [_] [] (.le (.c 0) .x0) 1 rfl);rw[<-aw4]at hsw;rw[hsw,al8,show bol (tx (enc (mkS l))) 0=true from rfl,anx l true hl]at hf;have hcat:ot (tf (dot (tx (enc (mkS l)))) (fun _=>1) rep (enc (mkS l)) ((tx (enc (mkS l))).size+1) 0)=enc (mkS (stf true l)):=by
  apply ad4.mp;rw[a3l,ay5,b5];have:((pcs (dot (tx (enc (mkS l)))) (fun _=>1) (mkS (rep.toList.map (·.toNat))) (tx (enc (mkS l))) ((tx (enc (mkS l))).size+1) 0).map ((fun x:Array UInt8=>x.toList) ∘ u8s)).flatten =
    (((pcs (dot (tx (enc (mkS l)))) (fun _=>1) (mkS (rep.toList.map (·.toNat))) (tx (enc (mkS l))) ((tx (enc (mkS l))).size+1) 0).map (·.cps.toList)).flatten).map (·.toUInt8):=by
   rw[List.map_flatten,b5]
   congr 1
   apply j3;intro y _;simp[u8s]
  rw[this,hf,a0q];exact ix _
 have hlen:(enc (mkS (stf true l))).size<=8000000:=by
  simp only[enc,ko,gc];exact O.c0 [_,_,_] [.le .x1 (.c 1000000),.le .x0 (.m 4 .x2),.le .x2 (.m 2 .x1)] (.le .x0 (.c 8000000)) (.l [1,4,1,8]) rfl hx (afs (stf true l)) (ze l true)
 show P.ael P.dot (fun _ _=>1) (.bytes ([46,46]:List UInt8).toArray) (.bytes (enc (mkS l)))=_
 unfold P.ael;simp only;rw[if_pos]
 .exact congrArg (fun z=>some (D.bytes z)) hcat
 .refine⟨by decide+kernel,by rw[hsz,et];exact O.ck [_,_,_] [.le .x1 (.c 1000000),.le .x0 (.m 4 .x1),.eq .x2 .x0] (.le .x0 (.c 16777216)) 41001 rfl hx hle hsz,⟨?_,?_⟩,?_⟩
  .rw[hcat,et];exact O.o37 hlen
  .rw[bdj];rw[hcat,et,l7];exact O.o37 hlen
  .rw[ay5,b8,et];have:=ay4 (dot (tx (enc (mkS l)))) (fun _=>1) (mkS (rep.toList.map (·.toNat))) (tx (enc (mkS l))) ((tx (enc (mkS l))).size+1) 0
   rw[hsz]at this |-;show(pcs (dot (tx (enc (mkS l)))) (fun _=>1) (mkS (rep.toList.map (·.toNat))) (tx (enc (mkS l))) ((ek l).length+1) 0).length<=_
   exact O.c0 [_,_,_,_] [.le .x1 (.c 1000000),.le .x2 (.m 4 .x1),.eq .x3 .x2,.le .x0 (.m 2 (.a .x2 (.c 1)))] (.le .x0 (.c 16777216)) (.l [1,1,0,0,2,8]) rfl hx hle hsz this
end
section
open PySem.Builtin PySem.Builtin.Str
def nn(a:Nat):¬((a:Int)<0):=aa3.mpr (uf a)
def bgc(a n:Nat):max (0:Int) (min (a:Int) n)=((min a n:Nat):Int):=by
 rw[show min (a:Int) n=((min a n:Nat):Int)from(ahb a n).elim (fun h=>(ate (km.2 h)).trans (congrArg _ (adz h).symm)) fun h=>(Int.min_eq_right (km.2 h)).trans (congrArg _ (ad5 h).symm)]
 exact Int.max_eq_right (uf _)
def yc(a n:Nat)(z:Int):(if(1:Int) > 0 then max 0 (min (if(a:Int)<0 then(a:Int)+n else a) n)else z)=((min a n:Nat):Int):=
 (if_pos (by decide)).trans ((if_neg (nn a)).symm▸bgc a n)
def zk(x y:Nat):sliceRange x y 1=(ed (y - x)).map (x + ·):=by
 have e:(if(1:Int) > 0 then(if(x:Int)<y then((y:Int) - x+1 - 1) / 1 else 0)else(if(x:Int) > y then((x:Int) - y - 1 - 1) / (-1)else 0)).toNat=y - x:=by
  rw[if_pos (by decide)]
  if h:x<y then
   rw[if_pos (mx.2 h),ash,abo];exact Int.toNat_sub y x
  else
   rw[if_neg fun c=>h (mx.1 c)];exact(so (ahr h)).symm
 unfold sliceRange;dsimp only;rw[e];exact j3 fun k _=>by rw[Int.one_mul];rfl
def a7m(a b n:Nat):min (b - a) (n - a)=min b n - min a n:=
 (Nat.sub_min_sub_right ..).trans (if ha:a<=n then congrArg _ (adz ha).symm else
  have ha:=amf ha
  (so (aw (aho ..) ha)).trans (show min b n - min a n=0 from(ad5 ha).symm▸so (aho ..)).symm)
variable{α:Type}
def aer(l:List α)(a b:Nat):((ed (min b l.length - min a l.length)).map (min a l.length + ·)).filterMap (l[·]?)=(l.drop a).take (b - a):=by
 rw[StrLaws.picks l _ _ ((ahb (min a l.length) (min b l.length)).elim (fun h=>(Nat.add_sub_of_le h).symm▸aho ..) fun h=>(so h).symm▸aho ..)]
 if ha:a<=l.length then
  rw[adz ha]
  if hb:b<=l.length then rw[adz hb]
  else
   have hb:=amf hb;rw[ad5 hb,<-nz,ad1,am3 (by rw[nz];exact Nat.sub_le_sub_right hb a)]
 else
  have ha:=amf ha;rw[ad5 ha,ad3,rg ha,asp,asp]
def ap9(a b n:Nat):strSliceIndices (some (a:Int)) (some (b:Int)) 1 n=(ed (min b n - min a n)).map (min a n + ·):=by
 rw[<-zk,<-yc a n,<-yc b n];rfl
def bcu(b:Nat)(n:Nat):strSliceIndices none (some (b:Int)) 1 n=strSliceIndices (some ((0:Nat):Int)) (some (b:Int)) 1 n:=by
 rw[ap9,ag9,<-zk,<-yc b n];rfl
def bct(a:Nat)(n:Nat):strSliceIndices (some (a:Int)) none 1 n=strSliceIndices (some (a:Int)) (some (n:Int)) 1 n:=by
 rw[ap9,adq,<-zk,<-yc a n];rfl
def an0(x:List Nat)(a b:Nat):qj (mkS x) (some (a:Int)) (some (b:Int))=mkS ((x.drop a).take (b - a)):=by
 unfold qj;rw[ap9,fe];split
 .rename_i hc;refine congrArg mkS (((List.take_sublist _ _).trans (List.drop_sublist _ _)).eq_of_length ?_).symm;rw[y6,nz,a7m];rw[b8,amn]at hc;exact eq_of_beq hc
 .refine congrArg mkS (.trans (congrArg (as7 · _) (funext fun i=>?_)) (aer x a b))
  rw[<-au6,gc]
def a7o(x:List Nat)(b:Nat):qj (mkS x) none (some (b:Int))=mkS (x.take b):=by
 have:=an0 x 0 b;unfold qj at this |-;rw[bcu,this];rfl
def a7q(x:List Nat)(a:Nat):qj (mkS x) (some (a:Int)) none=mkS (x.drop a):=by
 have:=an0 x a x.length;unfold qj at this |-;rw[bct,show((mkS x).length:Int)=(x.length:Int)from by rw[fe],this]
 rw[am3 (by simp)]
theorem aqz{α β:Type}{b:D->PS->Option PS}{ts:PS->Option Bool}{f:PS->Option β}{σ:PS}(toD:α->D)(p:α->Bool)(o:α->β) :
  ∀{xs:List α},(∀x∈xs,∃σ',b (toD x) σ=some σ'/\ts σ'=some (p x)/\(p x=true->f σ'=some (o x)))->q4 b ts f σ (xs.map toD)=some ((xs.filter p).map o)
 |[],_=>rfl
 |x::xs,h=>by
  obtain⟨σ',h1,h2,h3⟩:=h x (.head _);have ih:=aqz toD p o (xs:=xs) fun y hy=>h y (er _ hy)
  rw[ee,bf4,h1,ar,h2,ar];cases hp:p x with
  |true=>rw[if_pos rfl,h3 hp,ar,ih,List.filter_cons_of_pos hp];rfl
  |false=>rw[if_neg (by decide),ih,List.filter_cons_of_neg (by simp[hp])]
variable{f:PS->Option D}{σ:PS}
def r0{fs:List String}{F:PS->Option (List D)}{b:D->PS->Option PS}{ts:PS->Option Bool}(toD:α->D)(p:α->Bool)(o:α->D){xs:List α}
  (hF:F σ=some (xs.map toD)) (hl:xs.length<=16777216) (h:∀x∈xs,∃σ',b (toD x) (σ.only fs)=some σ'/\ts σ'=some (p x)/\(p x=true->f σ'=some (o x))) :
  a7 fs F b ts f σ=some (.list ((xs.filter p).map o)):=by
 delta a7;rw[hF,ar,if_pos (by rw[et];simpa using hl),aqz toD p o h];rfl
def fw{fs:List String}{F:PS->Option (List D)}{b:D->PS->Option PS}(toD:α->D)(o:α->D){xs:List α}
  (hF:F σ=some (xs.map toD)) (hl:xs.length<=16777216) (h:∀x∈xs,∃σ',b (toD x) (σ.only fs)=some σ'/\f σ'=some (o x)) :
  a7 fs F b tt f σ=some (.list (xs.map o)):=by
 have:=r0 (ts:=tt) toD (fun _=>true) o hF hl fun x hx=>let⟨σ',h1,h2⟩:=h x hx;⟨σ',h1,rfl,fun _=>h2⟩
 rw[this,auf.mpr (by simp)]
def aai(a b:Str):eqD (.str a) (.str b)=some (a==b):=rfl
def nf(a b:List Nat):(mkS a==mkS b)=(a==b):=by
 by_cases h:a=b
 .subst h;rw[beq_self_eq_true,beq_self_eq_true]
 .have:mkS a≠mkS b:=fun e=>h (afd.mp e)
  rw[beq_eq_false_iff_ne.mpr this,beq_eq_false_iff_ne.mpr h]
def lit(s:String):aj s=mkS (s.toList.map adn):=by rw[j4];rfl
noncomputable def dS(x:List Nat):D:=.str (mkS x)
noncomputable def di(r:List Nat):List Nat:=if r.take 1=[46]then 46::r else r
noncomputable def ace(b:Bool):List (List Nat)->List (List Nat)
 |[]=>[]
 |r::rs=>(if b then di r else r)::rs.map di
def aff(l:List (List Nat)):ace true l=l.map di:=by cases l<;>rfl
def a0r(b:Bool)(a:Nat)(l:List (List Nat))(h:l≠[])(z:List Nat):cf z (ace b (pn a l))=(if b=true/\a=46 then [46,46]else [a])++cf z (ace false l):=by
 cases l with
 |nil=>exact absurd rfl h
 |cons p ps=>
  have e:(if b=true then di (a::p)else a::p)=(if b=true/\a=46 then [46,46]else [a])++p:=by
   delta di;cases b with
   |false=>exact ix _
   |true=>
    refine if ha:a=46 then ?_ else ?_
    .subst ha;rfl
    .simp[ha]
  dsimp only[pn,ace];refine e▸?_;cases ps with
  |nil=>rfl
  |cons q r=>simp[tj,ti,r4]
def apj{β:Type}{l:List α}{f:α->β}(h:l≠[]):l.map f≠[]:=by cases l<;>simp_all
def a65:∀(x:List Nat) (b:Bool),cf [13,10] (ace b (dj x))=stf b (crl x):=by
 intro x
 fun_induction dj x with
 |case1=>intro b;cases b<;>rfl
 |case2 r ih=>
  intro b;show cf [13,10] ((if b=true then di []else [])::(dj r).map di)=_
  rw[(by cases b<;>rfl:(if b=true then di []else [])=([]:List Nat)),aaa _ _ _ (apj (qt r)),<-aff,ih true,crl]
  simp[aem,n6]
 |case3 a r hne h ih=>
  intro b;show cf [13,10] ((if b=true then di []else [])::(dj r).map di)=_
  rw[(by cases b<;>rfl:(if b=true then di []else [])=([]:List Nat)),aaa _ _ _ (apj (qt r)),<-aff,ih true,crl]
  .rw[if_pos h];simp[aem,n6]
  .exact hne
 |case4 a r hne h ih=>
  intro b;rw[a0r _ _ _ (qt r),ih false,crl]
  .rw[if_neg h];rw[n6,show(a==10)=false from by simp[(by simpa using h:a≠13/\a≠10).2]]
  .exact hne
theorem anw:∀(x:List Nat) (b:Bool),cf [10] (ace b (jk 10 x))=stf b x
 |[],b=>by cases b<;>rfl
 |a::r,b=>by
  dsimp only[aeq,w9];split
  .rename_i e;subst e;show cf [10] ((if b=true then di []else [])::(jk 10 r).map di)=_
   have e:(if b=true then di []else [])=([]:List Nat):=by cases b<;>rfl
   rw[e,aaa _ _ _ (apj (aep 10 r)),<-aff,anw r true];simp[aem,n6]
  .rename_i e;rw[a0r _ _ _ (aep 10 r),anw r false,n6,show(a==10)=false from by simp[e]]
def a22:∀x:List Nat,(crlf [10] x).length<=x.length:=by
 intro x
 fun_induction crlf [10] x with
 |case1=>exact ay _
 |case2 r ih=>simp only[de,dh,jt];exact O.ck [_,_] [.le .x0 .x1] (.le (.a (.a (.c 0) (.c 1)) .x0) (.a (.a .x1 (.c 1)) (.c 1))) 11 rfl ih
 |case3 a r _ ih=>simp only[dh];exact O.ck [_,_] [.le .x0 .x1] (.le (.a .x0 (.c 1)) (.a .x1 (.c 1))) 11 rfl ih
def a8q:∀x:List Nat,(lr 13 [10] x).length=x.length:=by
 intro x;induction x with
 |nil=>rfl
 |cons a r ih=>
  have:lr 13 [10] (a::r)=(if a=13 then [10]else [a])++lr 13 [10] r:=rfl
  rw[this,de,ih];split<;>exact Nat.add_comm ..<;>exact O.ck [_] [] (.eq (.a (.c 1) .x0) (.a .x0 (.c 1))) 1819 rfl
def ajq:aj "\n" = mkS [10]:=by rw[j4];rfl
def bb7:aj "\r" = mkS [13]:=by rw[j4];rfl
def apv:aj "'" = mkS [39]:=by rw[j4];rfl
def a0z:aj "." = mkS [46]:=by rw[j4];rfl
def apx:aj "\r\n.\r\n" = mkS [13,10,46,13,10]:=by rw[j4];rfl
def vh:aj "" = mkS []:=by rw[j4];rfl
def aw7{x:List Nat}(h:x.length<=1000000):x.length+(x.length+1) * (0+1)<=16777216:=O.ck [_] [.le .x0 (.c 1000000)] (.le (.a .x0 (.w (.a .x0 (.c 1)) 1)) (.c 16777216)) 21 rfl h
def a8l(x:List Nat)(hx:x.length<=1000000):ru "\n" (dS x) (.hstr "\r\n")=some (dS (crlf [10] x)):=by
 show(if((aj "\r\n" == aj "\n")=false/\_)then _ else _)=_
 rw[z8,ajq];rw[if_pos ⟨by decide+kernel,by rw[fe,fe];simp only[dh,jt];exact aw7 hx⟩]
 congr 2
 refine xq ?_;rw[aoh _ _ _ (by decide),gc,gc,gc,fe]
 exact bcb [10] x _ (O.o50)
def a8m(x:List Nat)(hx:x.length<=1000000):ru "\n" (dS x) (.hstr "\r")=some (dS (lr 13 [10] x)):=by
 show(if((aj "\r" == aj "\n")=false/\_)then _ else _)=_
 rw[bb7,ajq];rw[if_pos ⟨by decide+kernel,by rw[fe,fe];simp only[dh,jt];exact aw7 hx⟩]
 congr 2
 refine xq ?_;rw[aoh _ _ _ (by decide),gc,gc,gc,fe,aby 13 x _ (by exact O.o50)]
 exact ap0 13 [10] x
def ax4(y x:List Nat)(hy:1<=y.length)(hk:qh (mkS y)=1)(hx:x.length<=1000000):m7 (dS x) [.str (mkS y)]=some (.list ((spl y 0 (x.length+1) x).map dS)):=by
 show(if _ then _ else _)=_
 rw[if_pos ⟨by rw[fe];exact beq_eq_false_iff_ne.mpr (su (by assumption)),by rw[fe,et];exact O.o51 hx⟩]
 congr 2
 rw[a0p (a7h (mkS x) (mkS y) (by rw[fe];exact hy) hk),gc,gc,fe,b5];rfl
def ax2(x:List Nat)(hx:x.length<=1000000):m7 (dS x) [.str "\n"]=some (.list ((jk 10 x).map dS)):=by
 rw[ajq,ax4 [10] x (by decide) (by decide+kernel) hx,aby 10 x _ (by exact O.o50)]
def a10(x:List Nat)(hx:x.length<=1000000):qy [dS x]=some (.list ((dj x).map dS)):=by
 have h3:=ax2 (lr 13 [10] (crlf [10] x)) (by rw[a8q];exact aw (a22 x) hx)
 rw[a8g]at h3;delta qy fnF ard ag ej b6 bin kD var cq;simp[aa6,(a8l x hx),(a8m (crlf [10] x) (aw (a22 x) hx)),h3,cn,b0,ae1]
def a11(x:List Nat)(hx:x.length<=100000):f_quote [dS x]=some (dS (stf true (crl x))):=by
 have h2:=a61 (crl x) (O.ck [_,_] [.le .x0 (.m 2 .x1),.le .x1 (.c 100000)] (.le .x0 (.c 1000000)) 121 rfl (aak x) hx);delta f_quote fnF are ag ej bin kD var cq;simp[aa6,dS,(axu x (aw hx (by decide))),h2,ae1]
def bdy(x:List Nat)(hx:x.length<=100000):f_eols [dS x]=some (dS (crl x)):=by
 delta f_eols fnF arj ag ej bin kD var cq;simp[aa6,dS,(axu x (aw hx (by decide))),ae1]
def a12(x:List Nat)(hl:Low x)(hx:x.length<=100000):f_periods [.bytes (enc (mkS x))]=some (.bytes (enc (mkS (stf true x)))):=by
 delta f_periods fnF arf ag ej bin kD var cq;simp[aa6,(a60 x hl (aw hx (by decide))),ae1]
def a7j(x:List Nat)(hx:x.length<=1000000):m7 (dS x) [.str "'",.int 2]=some (.list ((spl [39] 0 2 x).map dS)):=by
 show m7 _ [.str (aj "'"),.int 2]=_;rw[apv];show(if _ then _ else _)=_
 rw[if_pos ⟨by decide+kernel,by decide,by decide,by rw[fe,et];exact O.o51 hx⟩]
 congr 2
 rw[a0p (a7i (mkS x) (mkS [39]) 2 (by decide) (by decide+kernel)),gc,gc,b5]
 rfl
theorem abz(y:List Nat):∀(x:List Nat) (s k:Nat),(spl y s k x).length<=k+1
 |[],s,k=>by cases s<;>exact gf _
 |c::r,s+1,k=>abz y r s k
 |c::r,0,k=>by
  dsimp only[w8,w7,rr];split
  .have:=abz y r (y.length - 1) (k - 1);simp only[dh];exact O.ck [_,_] [.an (.lt (.c 0) .x1) (.h _),.le .x0 (.a (.s .x1 (.c 1)) (.c 1))] (.le (.a .x0 (.c 1)) (.a .x1 (.c 1))) 11008119 rfl ‹_› this
  .have:=abz y r 0 k;cases h:spl y 0 k r with
   |nil=>exact gf _
   |cons p ps=>replace this:=h.symm▸this;assumption
noncomputable abbrev eot:List Nat:=[13,10,46,13,10]
def yi(q:List Nat):Prop:=∀c∈q,c≠13/\c≠10
def a8e(x:List Nat):∀q∈dj x,yi q:=by
 fun_induction dj x with
 |case1=>intro q hq;simp at hq;subst hq;intro c hc;cases hc
 |case2 r ih=>
  intro q hq;rcases dt.mp hq with rfl|hq
  .intro c hc;cases hc
  .exact ih q hq
 |case3 a r _ _ ih=>
  intro q hq;rcases dt.mp hq with rfl|hq
  .intro c hc;cases hc
  .exact ih q hq
 |case4 a r _ h ih=>
  intro q hq;have ha:a≠13/\a≠10:=by simpa using h
  cases hr:dj r with
  |nil=>exact absurd hr (qt r)
  |cons p ps=>
   rw[hr]at hq ih;rcases dt.mp hq with rfl|hq
   .intro c hc;rcases dt.mp hc with rfl|hc
    .exact ha
    .exact ih p (.head _) c hc
   .exact ih q (.tail _ (by assumption))
variable{q:List Nat}
def a62(h:yi q):yi (di q):=by
 unfold di;split
 .intro c hc;rcases dt.mp hc with rfl|hc
  .decide
  .exact h c hc
 .exact h
def a63(q:List Nat):di q≠[46]:=by
 unfold di;split
 .rename_i h;intro e;injection e with _ e;subst e;simp at h
 .rename_i h;intro e;subst e;simp at h
def a5v(q:List Nat):(if(di q).take 1=[46]then(di q).drop 1 else di q)=q:=by
 unfold di;refine if h:q.take 1=[46]then ?_ else ?_
 .simp[h]
 .simp[h]
def bed{c:Nat}{r:List Nat}(h:c≠13):eot.isPrefixOf (c::r)=false:=by
 simp[eot,sy];intro e;exact absurd e.symm h
theorem azj:∀(a z:List Nat) (i k:Nat),(∀c∈a,c≠13)->f9 eot 0 i k (a++z)=f9 eot 0 (i+a.length) k z
 |[],z,i,k,_=>rfl
 |c::a,z,i,k,h=>by
  rw[sk,rz,if_neg (by rw[bed (h c (m4))];simp),azj a z _ k fun x hx=>h x (er _ hx)]
  congr 1;simp only[dh];exact O.ck [_,_] [] (.eq (.a (.a .x0 (.c 1)) .x1) (.a .x0 (.a .x1 (.c 1)))) 1819 rfl
def azk{z:List Nat}{i k:Nat}(h:yi q)(hq:q≠[46]):f9 eot 0 i k (13::10::(q++13::10::z))=f9 eot 0 (i+2+q.length) k (13::10::z):=by
 have hp:eot.isPrefixOf (13::10::(q++13::10::z))=false:=by
  induction q with
  |nil=>rfl
  |cons c q=>
   refine if hc:c=46 then ?_ else ?_
   .subst hc;induction q with
    |nil=>exact absurd rfl hq
    |cons d q=>
     have:=(h d (.tail _ (.head _))).1;simp[eot,sy];intro e;exact absurd e.symm this
   .simp[eot,sy];intro e;exact absurd e.symm hc
 rw[rz,if_neg (by rw[hp];simp)]
 have:=azj (10::q) (13::10::z) (i+1) k (by
  intro c hc;rcases dt.mp hc with rfl|hc
  .decide
  .exact(h c hc).1)
 rw[show(10::q)++13::10::z=10::(q++13::10::z)from rfl]at this;rw[this]
 congr 1;simp only[dh];exact O.ck [_,_] [] (.eq (.a (.a .x0 (.c 1)) (.a .x1 (.c 1))) (.a (.a .x0 (.c 2)) .x1)) 1819 rfl
theorem azm(rest:List Nat):∀(Q:List (List Nat)) (i:Nat),Q≠[]->(∀q∈Q,yi q/\q≠[46])->∃t,f9 eot 0 i 1 (13::10::(cf [13,10] Q++eot++rest))=(i+2+(cf [13,10] Q).length)::t
 |[],_,h,_=>absurd rfl h
 |[q],i,_,h=>by
  have:=azk (q:=q) (z:=46::13::10::rest) (i:=i) (k:=1) (h q (.head _)).1 (h q (.head _)).2;refine⟨f9 eot (eot.length - 1) (i+2+q.length+1) (1 - 1) (10::46::13::10::rest),?_⟩;rw[show(13::10::(cf [13,10] [q]++eot++rest))=13::10::(q++13::10::46::13::10::rest)from by simp[tj,ti,r4,eot],this]
  rw[rz,if_pos ⟨by exact ay _,by rfl⟩]
  rfl
 |q::q2::Q,i,_,h=>by
  obtain⟨t,ht⟩:=azm rest (q2::Q) (i+2+q.length) (by simp) fun x hx=>h x (er _ hx)
  refine⟨t,?_⟩;rw[show(13::10::(cf [13,10] (q::q2::Q)++eot++rest))=13::10::(q++13::10::(cf [13,10] (q2::Q)++eot++rest))from by simp[tj,ti,r4],(azk (q:=q) (z:=cf [13,10] (q2::Q)++eot++rest) (i:=i) (k:=1) (h q (.head _)).1 (h q (.head _)).2),ht]
  congr 1
  simp only[tj,ti,r4,de,dh,jt];exact O.ck [_,_,_] [] (.eq (.a (.a (.a (.a .x0 (.c 2)) .x1) (.c 2)) .x2) (.a (.a .x0 (.c 2)) (.a (.a .x1 (.a (.a (.c 0) (.c 1)) (.c 1))) .x2))) 1819 rfl
def a7l:∀(Q:List (List Nat)) (k:Nat),Q≠[]->(∀q∈Q,yi q)->(cf [13,10] Q).length<=k->spl [13,10] 0 k (cf [13,10] Q)=Q:=by
 have skip:∀(q z:List Nat) (k:Nat),yi q->spl [13,10] 0 k (q++z)=rx q (spl [13,10] 0 k z):=by
  intro q;induction q with
  |nil=>intro z k _;obtain⟨p,ps,e⟩:=ph [13,10] z 0 k;rw[ix,e];rfl
  |cons c q ih=>
   intro z k h;rw[sk,rr,if_neg (by
    rintro⟨_,hp⟩;simp[sy]at hp;exact((h c (.head _)).1) hp.1.symm),ih z k fun x hx=>h x (er _ hx)]
   obtain⟨p,ps,e⟩:=ph [13,10] z 0 k;rw[e];rfl
 intro Q;induction Q with
 |nil=>intro k h;exact absurd rfl h
 |cons q Q ih=>
  intro k _ h hk;induction Q with
  |nil=>
   have:=skip q [] k (h q (.head _));rw[fo]at this;show spl [13,10] 0 k q=_;rw[this];simp[w8,w7,rr,rx]
  |cons q2 Q=>
   rw[(by simp[tj,ti,r4]:cf [13,10] (q::q2::Q)=q++(13::10::cf [13,10] (q2::Q)))]at hk |-
   rw[skip q _ k (h q (.head _))];simp only[de,dh]at hk;have e:spl [13,10] 0 k (13::10::cf [13,10] (q2::Q))=[]::spl [13,10] 0 (k - 1) (cf [13,10] (q2::Q)):=by
    rw[rr,if_pos ⟨O.ck [_,_,_] [.le (.a .x1 (.a (.a .x2 (.c 1)) (.c 1))) .x0] (.lt (.c 0) .x0) 11 rfl hk,by rfl⟩];rfl
   rw[e,ih (k - 1) (by simp) (fun x hx=>h x (er _ hx)) (O.ck [_,_,_] [.le (.a .x2 (.a (.a .x0 (.c 1)) (.c 1))) .x1] (.le .x0 (.s .x1 (.c 1))) 11181019 rfl hk)]
   simp[rx]
def bdq(y x:List Nat)(hy:1<=y.length):afo (dS x) [.str (mkS y)]=some (.int (match f9 y 0 0 1 x with|i::_=>(i:Int) |[] => -1)):=by
 show some (D.int (alg (mkS x) (mkS y)))=_;rw[bdp _ _ (by rw[fe];exact hy),gc,gc]
 all_goals (cases f9 y 0 0 1 x<;>rfl)
def afe(l:List (List Nat)):(l.map dS).mapM b7=some (l.map mkS):=by
 rw[aso];induction l with
 |nil=>rfl
 |cons a l ih=>rw[wq,ih];rfl
theorem axq(z:List Nat):∀l:List (List Nat),l≠[]->((l.map mkS).map (·.length)).sum+l.length * z.length=(cf z l).length+z.length
 |[],h=>absurd rfl h
 |[p],_=>by simp[tj,ti,r4,fe]
 |p::q::r,_=>by
  have:=axq z (q::r) (by simp)
  simp only[tj,ti,r4,ee,asn,dh,de,fe,Nat.succ_mul]at this |-;exact O.ck [_,_,_,_,_,_] [.eq (.a (.a .x1 .x2) (.a .x3 .x4)) (.a .x5 .x4)] (.eq (.a (.a .x0 (.a .x1 .x2)) (.a (.a .x3 .x4) .x4)) (.a (.a (.a .x0 .x4) .x5) .x4)) 1181019 rfl this
def ap5(z:List Nat)(l:List (List Nat))(h:l≠[])(hz:(cf z l).length+z.length<=1000000):gw (.str (mkS z)) [.list (l.map dS)]=some (dS (cf z l)):=by
 show((l.map dS).mapM b7).bind _=_;rw[afe,ar,if_pos (ap3 (by rw[b8,fe,axq z l h];exact O.ck [_,_] [.le (.a .x0 .x1) (.c 1000000)] (.le (.a .x0 .x1) (.c 16777216)) 11 rfl hz))]
 congr 2
 refine xq ?_;rw[aju,gc,b5]
 congr 1
 rw[j3 (g:=_root_.id) (fun x _=>by show(mkS x).cps.toList=_;rw[gc];rfl),ado]
def ak2(a b:List Nat)(h:a.length+b.length<=16777216):bb (.str (mkS a)) (dS b)=some (dS (a++b)):=by
 show(if(mkS a).length+(mkS b).length<=sizeLine then some (D.str (mkS a++mkS b))else none)=_
 rw[if_pos (by rw[fe,fe,et];exact h),apg];rfl
def ax7(x:List Nat)(a b:Nat)(h:x.length<=16777216):jl (dS x) (some (a:Int)) (some (b:Int)) none=some (dS ((x.drop a).take (b - a))):=by
 show(if(none:Option Int)=none/\(mkS x).length<=sizeLine then some (D.str (qj (mkS x) _ _))else none)=_
 rw[if_pos ⟨rfl,by rw[fe,et];exact h⟩,an0];rfl
def ax6(x:List Nat)(b:Nat)(h:x.length<=16777216):jl (dS x) none (some (b:Int)) none=some (dS (x.take b)):=by
 show(if(none:Option Int)=none/\(mkS x).length<=sizeLine then some (D.str (qj (mkS x) _ _))else none)=_
 rw[if_pos ⟨rfl,by rw[fe,et];exact h⟩,a7o];rfl
def an2(x:List Nat)(a:Nat)(h:x.length<=16777216):jl (dS x) (some (a:Int)) none none=some (dS (x.drop a)):=by
 show(if(none:Option Int)=none/\(mkS x).length<=sizeLine then some (D.str (qj (mkS x) _ _))else none)=_
 rw[if_pos ⟨rfl,by rw[fe,et];exact h⟩,a7q];rfl
def a2e(x:List Nat):eqD (dS x) (.str ".")=some (x==[46]):=by
 show eqD (.str (mkS x)) (.str (aj "."))=_;rw[aai,a0z,nf]
noncomputable def j5(q:List Nat):List Nat:=if q.take 1=[46]then q.drop 1 else q
theorem aeo(y:List Nat):∀(x:List Nat) (s k:Nat),∀q∈spl y s k x,q.length<=x.length
 |[],s,k,q,h=>by cases s<;>simp[w8,w7,rr]at h<;>simp[h]
 |c::r,s+1,k,q,h=>by have:=aeo y r s k q h;simp;exact gm (by assumption)
 |c::r,0,k,q,h=>by
  unfold spl at h;split at h
  .rcases dt.mp h with rfl|h
   .simp
   .have:=aeo y r _ _ q h;simp;exact gm (by assumption)
  .obtain⟨p,ps,e⟩:=ph y r 0 k;replace h:=e.symm▸h;have ih:=aeo y r 0 k;replace ih:=e.symm▸ih;rcases dt.mp h with rfl|h
   .have:=ih p (.head _);simp;assumption
   .have:=ih q (by simp[h]);simp;exact gm (by assumption)
def m8(σ:PS)(x y:String)(d:D):(σ.set x d).vars y=if y=x then some d else σ.vars y:=rfl
def te(σ:PS)(x y:String)(d:D):(σ.set x d).own y=if y=x then none else σ.own y:=rfl
def ayy(σ:PS)(x y:String)(d:D):(σ.setOwn x d).vars y=if y=x then none else σ.vars y:=rfl
def ab2(σ:PS)(x y:String)(d:D):(σ.setOwn x d).own y=if y=x then some d else σ.own y:=rfl
variable{d:D}{x:String}
def jm{F:PS->Option Out}(h:f σ=some d):ag (b3 x f) F σ=F (σ.set x d):=by simp only[ag,b3,h,bt,ar]
def td{F:PS->Option Out}(h:f σ=some d):ag (c7 x f) F σ=F (σ.setOwn x d):=by simp only[ag,c7,h,bt,ar]
def aip{b:D->PS->Option PS}{F:PS->Option Out}{σ':PS}(h:f σ=some d)(hb:b d σ=some σ'):ag (r8 b f) F σ=F σ':=by simp only[ag,r8,h,hb,bt,ar]
def n7{F:PS->Option Out}(h:f σ=some d):ag (ej f) F σ=some (.ret d):=by simp only[ag,ej,h,bt,ar]
def og{F:PS->Option Out}(h:σ.own x=some d):bw x F σ=F (σ.set x d):=by simp only[bw,PS.freeze,h,atj]
def aio{G:PS->Option (List D)}{b:D->PS->Option PS}{B F:PS->Option Out}{σ':PS}{ds:List D}(h:G σ=some ds)(hl:lz b B ds σ=some (.next σ')):ag (i8 G b B) F σ=F σ':=by simp only[ag,i8,h,hl,ar]
def qs{t:PS->Option Bool}{a b F:PS->Option Out}{c:Bool}(h:t σ=some c):ag (ifF t a b) F σ=ag (if c=true then a else b) F σ:=by cases c<;>simp[ag,ifF,h]
def ayb{F:PS->Option Out}:ag nxt F σ=F σ:=rfl
def aqi(x:List Nat)(hx:x.length<=1000000):f_rfc [dS x]=some (if(spl [39] 0 2 x).length<=2 then .tup [.none,.none,dS x]else .list ((spl [39] 0 2 x).map dS)):=by
 have hl:un cx (aa "parts") ((cq ["s"] [dS x]).set "parts" (.list ((spl [39] 0 2 x).map dS)))=some (.int ((spl [39] 0 2 x).length:Nat)):=by
  show(if((spl [39] 0 2 x).map dS).length<2 ^ 63 then _ else _)=_
  have hlt:(spl [39] 0 2 x).length<2 ^ 63:=O.ck [_] [.le .x0 (.a (.c 2) (.c 1))] (.lt .x0 (.c 9223372036854775808)) 11 rfl (abz [39] x 0 2);rw[b8,if_pos hlt]
 have ht:cmp (j0 fun a b=>decide (a<=b)) (un cx (aa "parts")) (kD (.int 2)) ((cq ["s"] [dS x]).set "parts" (.list ((spl [39] 0 2 x).map dS)))=some (decide ((spl [39] 0 2 x).length<=2)):=
  (congrArg (Option.bind · _) hl).trans (congrArg some (decide_eq_decide.2 (km (n:=2))))
 have key:akr (cq ["s"] [dS x])=some (.ret (if(spl [39] 0 2 x).length<=2 then .tup [.none,.none,dS x]else .list ((spl [39] 0 2 x).map dS))):=by
  unfold akr;rw[jm (d:=.list ((spl [39] 0 2 x).map dS)) (a7j x hx),qs ht]
  if h2:(spl [39] 0 2 x).length<=2 then rw[decide_eq_true h2,if_pos h2];rfl
  else rw[decide_eq_false h2,if_neg h2];rfl
 unfold f_rfc fnF;rw[key];rfl
def a14(st:List Nat)(e:Nat)(t:List Nat)(Q:List (List Nat))(h1:f9 eot 0 0 1 (13::10::st)=e::t)(h2:st.length<=100000)(hQ:spl [13,10] 0 ((st.take (e - 2)).length+1) (st.take (e - 2))=Q)
  (hj:(cf [13,10] (Q.map j5)).length<=900000)  (hd:f_rfc [dS (cf [13,10] (Q.map j5))]=some d):f_first [dS st]=some (.tup [d,dS (st.drop (e+3))]):=by
 have hne:Q≠[]:=by obtain⟨p,ps,e'⟩:=ph [13,10] (st.take (e - 2)) 0 ((st.take (e - 2)).length+1);rw[<-hQ,e'];simp
 have a1:bb (.str "\r\n") (dS st)=some (dS (13::10::st)):=by
  show bb (.str (aj "\r\n")) _=_;rw[z8,ak2 _ _ (aw (qc h2 2) (by decide))];rfl
 have a2:afo (dS (13::10::st)) [.str "\r\n.\r\n"]=some (.int (e:Int)):=by
  show afo _ [.str (aj "\r\n.\r\n")]=_;rw[apx,bdq _ _ (by decide),h1]
 have a3:jl (dS (13::10::st)) (some 2) (some (e:Int)) none=some (dS (st.take (e - 2))):=ax7 _ 2 e (by simp;exact O.ck [_] [.le .x0 (.c 100000)] (.le .x0 (.c 16777214)) 11 rfl h2)
 have hl:(st.take (e - 2)).length<=100000:=aw (by rw[y6];exact O.ck [_,_] [] (.le (.mi (.s .x0 (.c 2)) .x1) .x1) 18198181199 rfl) h2
 have a4:m7 (dS (st.take (e - 2))) [.str "\r\n"]=some (.list (Q.map dS)):=by
  show m7 _ [.str (aj "\r\n")]=_;rw[z8,ax4 [13,10] _ (by decide) (by decide+kernel) (aw (by assumption) (by decide)),hQ]
 have hcount:Q.length<=100002:=by rw[<-hQ];exact aw (abz _ _ _ _) (O.ck [_] [.le .x0 (.c 100000)] (.le (.a (.a .x0 (.c 1)) (.c 1)) (.c 100002)) 11 rfl hl)
 have hmem:∀q∈Q,q.length<=100000:=fun q hq=>aw (aeo _ _ _ _ q (hQ▸hq)) hl
 have a5:gw (.str "\r\n") [.list ((Q.map j5).map dS)]=some (dS (cf [13,10] (Q.map j5))):=by
  show gw (.str (aj "\r\n")) _=_;rw[z8,ap5 _ _ (by simpa using hne) (by simp only[dh,jt];exact O.ck [_] [.le .x0 (.c 900000)] (.le (.a .x0 (.a (.a (.c 0) (.c 1)) (.c 1))) (.c 1000000)) 11 rfl hj)]
 have a6:jl (dS st) (some ((e:Int)+3)) none none=some (dS (st.drop (e+3))):=by
  have:=an2 st (e+3) (aw (by assumption) (by decide))
  rw[show(((e+3:Nat)):Int)=(e:Int)+3 from by rfl]at this
  exact this
 have c1:∀σ:PS,σ.vars "stream" = some (dS st)->σ.vars "end" = some (.int e)->a7 [] (au (b6 m7 (sl (bin bb (kD (.str "\r\n")) (var "stream")) (pI (kD (.int 2))) (pI (var "end")) pN) [(kD (.str "\r\n"))])) (ax "row") tt (ife (cmp eqD (sl (aa "row") pN (pI (kD (.int 1))) pN) (kD (.str "."))) (sl (aa "row") (pI (kD (.int 1))) pN pN) (var "row")) σ=some (.list ((Q.map j5).map dS)):=by
  intro σ hs he;rw[b5];refine fw dS (fun q=>dS (j5 q)) (xs:=Q) ?_ (O.ck [_] [.le .x0 (.c 100002)] (.le .x0 (.c 16777216)) 11 rfl hcount) ?_
  .simp only[au,b6,sl,bin,kD,var,pI,sa,pN,hs,he,a1,a3,a4,cn,b0,ar,bt];rfl
  .intro q hq;have hq':=hmem q hq;have b1:jl (dS q) none (some 1) none=some (dS (q.take 1)):=ax6 q 1 (aw (by assumption) (by decide))
   have b2:jl (dS q) (some 1) none none=some (dS (q.drop 1)):=an2 q 1 (aw (by assumption) (by decide))
   refine⟨_,rfl,?_⟩;simp only[ife,cmp,sl,aa,var,kD,pI,sa,pN,m8,te,if_true,adu,ar,b1,b2,a2e,bt];dsimp only[j5];by_cases h:q.take 1=[46]
   .rw[h,if_pos rfl,if_pos (by decide)]
   .rw[beq_eq_false_iff_ne.mpr h,if_neg h,if_neg (by decide)]
 have key:aku f_rfc (cq ["stream"] [dS st])=some (.ret (.tup [d,dS (st.drop (e+3))])):=by
  dsimp only[aku];have v0:(cq ["stream"] [dS st]).vars "stream" = some (dS st):=rfl;have v1:(cq ["stream"] [dS st]).own "stream" = none:=rfl;generalize cq ["stream"] [dS st]=σ at v0 v1;rw[jm (d:=.int e) (by simp only[b6,bin,kD,var,v0,a1,a2,cn,b0,ar,bt])]
  rw[td (c1 _ (by rw[m8,if_neg (by decide)];exact v0) (by rw[m8,if_pos rfl]))]
  rw[og (by rw[ab2,if_pos rfl])]
  refine n7 ?_;have w1:((((σ.set "end" (.int e)).setOwn "rows" (.list ((Q.map j5).map dS))).set "rows" (.list ((Q.map j5).map dS)))).vars "rows" = some (.list ((Q.map j5).map dS)):=rfl;have w2:((((σ.set "end" (.int e)).setOwn "rows" (.list ((Q.map j5).map dS))).set "rows" (.list ((Q.map j5).map dS)))).vars "end" = some (.int e):=rfl;have w3:((((σ.set "end" (.int e)).setOwn "rows" (.list ((Q.map j5).map dS))).set "rows" (.list ((Q.map j5).map dS)))).vars "stream" = some (dS st):=v0;have w4:((((σ.set "end" (.int e)).setOwn "rows" (.list ((Q.map j5).map dS))).set "rows" (.list ((Q.map j5).map dS)))).own "stream" = none:=v1;generalize(((σ.set "end" (.int e)).setOwn "rows" (.list ((Q.map j5).map dS))).set "rows" (.list ((Q.map j5).map dS)))=τ at w1 w2 w3 w4;simp only[tup,cn,b0,ao,b6,var,kD,sl,aa,pI,sa,pN,bin,w1,w2,w3,w4,a5,hd,ar,bt,adu,bb,a6]
 dsimp only[f_first,fnF];rw[key];rfl
def bdo(x rest:List Nat)(h:(cf [13,10] ((dj x).map di)++eot++rest).length<=100000)(hx:x.length<=100000)(hd:f_rfc [dS (crl x)]=some d) :
  f_first [dS (cf [13,10] ((dj x).map di)++eot++rest)]=some (.tup [d,dS rest]):=by
 have hQ:∀q∈(dj x).map di,yi q/\q≠[46]:=fun q hq=>by
  obtain⟨r,hr,rfl⟩:=ia.mp hq;exact⟨a62 (a8e x r hr),a63 r⟩
 have hne:(dj x).map di≠[]:=by simpa using qt x
 obtain⟨t,ht⟩:=azm rest ((dj x).map di) 0 hne hQ;have hu:((dj x).map di).map j5=dj x:=by
  rw[b5];conv=>rhs;rw[<-ado (dj x)]
  apply j3;intro q _;exact a5v q
 have htake:(cf [13,10] ((dj x).map di)++eot++rest).take (0+2+(cf [13,10] ((dj x).map di)).length - 2)=cf [13,10] ((dj x).map di):=by
  rw[show 0+2+(cf [13,10] ((dj x).map di)).length - 2=(cf [13,10] ((dj x).map di)).length from O.ck [_] [] (.eq (.s (.a (.a (.c 0) (.c 2)) .x0) (.c 2)) .x0) 10819818199 rfl,gj,amb];rfl
 have:=a14 _ _ t ((dj x).map di) ht h (by rw[htake];exact a7l _ _ hne (fun q hq=>(hQ q hq).1) (fm _)) (by rw[hu,ajt];exact O.ck [_,_] [.le .x1 (.c 100000),.le .x0 (.m 2 .x1)] (.le .x0 (.c 900000)) 211 rfl hx (aak x)) (d:=d) (by rw[hu,ajt];exact hd)
 rw[this]
 congr 3
 rw[show 0+2+(cf [13,10] ((dj x).map di)).length+3=(cf [13,10] ((dj x).map di)++eot).length from by simp[eot];exact O.ck [_] [] (.eq (.a (.c 2) .x0) (.a .x0 (.c 2))) 1819 rfl,ata]
 rfl
def bdn(rest:List Nat)(h:(46::13::10::rest).length<=100000):f_first [dS (46::13::10::rest)]=some (.tup [.tup [.none,.none,dS []],dS rest]):=by
 have ho:f9 eot 0 0 1 (13::10::46::13::10::rest)=0::f9 eot (eot.length - 1) (0+1) (1 - 1) (10::46::13::10::rest):=by
  rw[rz,if_pos ⟨by exact ay _,rfl⟩]
 exact a14 _ 0 _ [[]] ho h (rfl) (by decide) (aqi [] (by decide))
end
end Mine.L
namespace Mine.A
def c3{P:Fin 3->Prop}(a:P 0)(b:P 1)(c:P 2):∀h,P h:=aaz a (aaz b (aaz c fun h=>h.elim0))
def c6{P:Fin 6->Prop}(a:P 0)(b:P 1)(c:P 2)(d:P 3)(e:P 4)(f:P 5):∀h,P h:=
 aaz a (aaz b (aaz c (c3 (P:=fun h=>P h.succ.succ.succ) d e f)))
section
variable {K V:Type} [DecidableEq K]
noncomputable def look:List (K×V)->K->Option V
 |[],_=>none
 |(k,d)::r,x=>if k=x then some d else look r x
def lx{z0:K}:look ([]:List (K×V)) z0=none:=rfl
def j8{k x:K}{d:V}{r:List (K×V)}:look ((k,d)::r) x=if k=x then some d else look r x:=rfl
noncomputable def put(l:List (K×V))(k:K)(d:V):List (K×V):=
 if l.any (fun kv=>decide (kv.1=k))then l.map (fun kv=>if kv.1=k then(kv.1,d)else kv)else l++[(k,d)]
def look_none{l:List (K×V)}{k:K}:look l k=none↔l.any (fun kv=>decide (kv.1=k))=false:=by
 induction l with
 |nil=>simp[lx,j8]
 |cons a r ih=>
  obtain⟨x,y⟩:=a;dsimp only[lx,j8,asv];refine if h:x=k then ?_ else ?_
  .simp[h]
  .simp[h,ih]
def bbl{l m:List (K×V)}{k:K}:look (l++m) k=(look l k).or (look m k):=by
 induction l with
 |nil=>rfl
 |cons a r ih=>
  obtain⟨x,y⟩:=a;dsimp only[sk,lx,j8];split
  .rfl
  .exact ih
def bbj{l:List (K×V)}{k x:K}{d:V}:look (l.map (fun kv=>if kv.1=k then(kv.1,d)else kv)) x=if x=k then(look l x).map (fun _=>d)else look l x:=by
 induction l with
 |nil=>simp[lx,j8]
 |cons a r ih=>
  obtain⟨y,z⟩:=a;simp only[ee,lx,j8];by_cases h:y=k
  .subst h;by_cases h':y=x
   .subst h';simp[lx,j8]
   .simp only[if_true,lx,j8,if_neg h',ih]
  .simp only[if_neg h,lx,j8];refine if h':y=x then ?_ else ?_
   .subst h';simp[h]
   .simp only[if_neg h',ih]
def aps{l:List (K×V)}{k x:K}{d:V}:look (put l k d) x=if x=k then some d else look l x:=by
 delta put;split
 .rename_i h;rw[bbj];split
  .rename_i e;subst e;cases q:look l x with
   |none=>rw[look_none.mp q]at h;exact nomatch h
   |some v=>rfl
  .rfl
 .rename_i h;rw[bbl];split
  .rename_i e;subst e;rw[look_none.mpr (Bool.not_eq_true _▸h)];exact if_pos rfl
  .rename_i e;have:look [(k,d)] x=none:=by simp[lx,j8,g7 e]
   rw[this];simp
def ajs{l:List (K×V)}{k:K}{d:V}(h:(l.map (·.1)).Nodup):((put l k d).map (·.1)).Nodup:=by
 delta put;split
 .have:(l.map (fun kv=>if kv.1=k then(kv.1,d)else kv)).map (·.1)=l.map (·.1):=by
   rw[b5];apply j3;intro a _;simp only[al1];split<;>rfl
  exact this▸h
 .rename_i hk;rw[ei,ahs];refine⟨h,by simp,?_⟩
  intro a ha b hb e;simp at hb;subst hb;subst e;obtain⟨x,hx,rfl⟩:=ia.mp ha;exact hk (ati.mpr ⟨x,hx,if_pos rfl⟩)
def ayw{l:List (K×V)}{k:K}{d:V}(h:k∉l.map (·.1)):put l k d=l++[(k,d)]:=by
 delta put;rw[if_neg];intro q;obtain⟨x,hx,e⟩:=ati.mp q;exact h (ia.mpr ⟨x,hx,beq_iff_eq.1 (by assumption)⟩)
def aji{l:List (K×V)}{k:K}:k∈l.map (·.1)↔look l k≠none:=by
 rw[Ne,look_none];simp
noncomputable def puts(l m:List (K×V)):List (K×V):=m.foldl (fun t kv=>put t kv.1 kv.2) l
def a83{m:List (K×V)}:∀{l:List (K×V)},((l++m).map (·.1)).Nodup->puts l m=l++m:=by
 induction m with
 |nil=>intro l _;simp[puts]
 |cons a r ih=>
  intro l h;show puts (put l a.1 a.2) r=_;have hk:a.1∉l.map (·.1):=by
   intro hm;rw[ei,ahs]at h;exact h.2.2 _ hm a.1 (.head _) rfl
  rw[ayw hk,ih (by simpa using h)]
  exact gj ..
def zo{m:List (K×V)}(h:(m.map (·.1)).Nodup):puts [] m=m:=by rw[a83 h];rfl
noncomputable def vq(op:V->V->V)(t:List (K×V))(kv:K×V):List (K×V):=match look t kv.1 with
 |some v=>put t kv.1 (op v kv.2)
 |none=>put t kv.1 kv.2
noncomputable def addT(op:V->V->V)(a b:List (K×V)):List (K×V):=b.foldl (vq op) (puts [] a)
noncomputable def aan(op:V->V->V):Option V->Option V->Option V
 |some x,some y=>some (op x y)
 |some x,none=>some x
 |none,y=>y
def bbm{op:V->V->V}{t:List (K×V)}{kv:K×V}{x:K}:look (vq op t kv) x=if x=kv.1 then aan op (look t x) (some kv.2)else look t x:=by
 delta vq;cases h:look t kv.1 with
 |none=>
  simp only[aps];split
  .rename_i e;subst e;rw[h];rfl
  .rfl
 |some v=>
  simp only[aps];split
  .rename_i e;subst e;rw[h];rfl
  .rfl
def bb8{op:V->V->V}{t:List (K×V)}{kv:K×V}(h:(t.map (·.1)).Nodup):((vq op t kv).map (·.1)).Nodup:=by
 delta vq;split<;>exact ajs h
def bbn{op:V->V->V}{b:List (K×V)}:∀{t:List (K×V)} {x:K},(b.map (·.1)).Nodup->look (b.foldl (vq op) t) x=aan op (look t x) (look b x):=by
 induction b with
 |nil=>intro t x _;simp only[as0,lx,j8];cases look t x<;>rfl
 |cons a r ih=>
  intro t x h;rw[ee,wu]at h;rw[q8,ih h.2,bbm];obtain⟨k,v⟩:=a;simp only[lx,j8];by_cases e:x=k
  .subst e;simp only[if_true];have:look r x=none:=by
    cases q:look r x with
    |none=>rfl
    |some y=>exact absurd (aji.mpr (by rw[q];exact aef _)) h.1
   rw[this];cases look t x<;>rfl
  .rw[if_neg e,if_neg (g7 e)]
def bb9{op:V->V->V}{b:List (K×V)}:∀{t:List (K×V)},(t.map (·.1)).Nodup->((b.foldl (vq op) t).map (·.1)).Nodup:=by
 induction b with
 |nil=>intro t h;exact h
 |cons a r ih=>intro t h;exact ih (bb8 h)
def ajl{op:V->V->V}{a b:List (K×V)}{x:K}(ha:(a.map (·.1)).Nodup)(hb:(b.map (·.1)).Nodup):look (addT op a b) x=aan op (look a x) (look b x):=by
 unfold addT;rw[zo ha,bbn hb]
def a03{op:V->V->V}{a b:List (K×V)}(ha:(a.map (·.1)).Nodup):((addT op a b).map (·.1)).Nodup:=by
 delta addT;exact(zo ha).symm▸(bb9 ha)
def aye{l m:List (K×V)}(hl:(l.map (·.1)).Nodup)(hm:(m.map (·.1)).Nodup)(h:∀k,look l k=look m k):l.length=m.length:=by
 have:(l.map (·.1)).Perm (m.map (·.1)):=(ane hl hm).mpr fun k=>by rw[aji,aji,h]
 simpa using this.length_eq
end
noncomputable abbrev Hd:=Fin 3
noncomputable abbrev Pl:=Fin 6
noncomputable def g(p:Pl):Hd:=([0,0,1,1,2,2]:List Hd)[p.1]'p.2
noncomputable def t(p:Pl):Hd:=([1,2,0,2,0,1]:List Hd)[p.1]'p.2
def aqf:∀p:Pl,g p≠t p:=by decide
def ay1:∀p q:Pl,g p=g q->t p=t q->p=q:=by decide
structure Row where
 snd:Bool
 p:Pl
 m:Nat
 pre:Bool
noncomputable def Row.hand(r:Row):Hd:=if r.snd then g r.p else t r.p
structure Bk where
 n:Int
 m:Int
 s:Int
 t:Int
 tb:List (Hd×Int)
noncomputable def aew(a b:Int):Int:=a+b
noncomputable def pf(target source:Bk):Bk:=⟨source.n+target.n,source.m+target.m,source.s+target.s,source.t+target.t,addT aew target.tb source.tb⟩
noncomputable def c9(s:Nat->Int)(X:List Row):Int:=(X.map fun r=>s r.m).sum
variable{X Y:List Row}
def aij{s:Nat->Int}:c9 s (X++Y)=c9 s X+c9 s Y:=by simp[c9]
def ak4{a b c d:Int}:a+b+(c+d)=a+c+(b+d):=by rw[my,ad8 b,<-my]
def a9i{l m:List Int}(h:l.Perm m):l.sum=m.sum:=by
 induction h with
 |nil=>rfl
 |cons x _ ih=>simp[ih]
 |swap x y l=>exact ad8 ..
 |trans _ _ a b=>exact a.trans b
def aii{s:Nat->Int}(h:X.Perm Y):c9 s X=c9 s Y:=a9i (h.map _)
noncomputable def ups(X:List Row):List Row:=X.filter (·.snd)
noncomputable def bq(X:List Row):List Row:=X.filter (!·.snd)
noncomputable def dk(X:List Row)(h:Hd):List Row:=X.filter fun r=>!r.snd && decide (g r.p=h)
noncomputable def n5(s:Nat->Int)(X:List Row)(h:Hd):Option Int:=if(dk X h).isEmpty then none else some (c9 s (dk X h))
structure Bks(held:Int)(w:Nat->Int)(X:List Row)(b:Bk):Prop where
 n:b.n=(ups X).length
 m:b.m=(bq X).length
 s:b.s=held - c9 w (ups X)+c9 w (bq X)
 t:b.t=c9 w (bq X)
 keys:(b.tb.map (·.1)).Nodup
 tab:∀h,look b.tb h=n5 w X h
variable{h:Hd}
def a6k{s:Nat->Int}:n5 s (X++Y) h=aan aew (n5 s X h) (n5 s Y h):=by
 delta n5;refine(by simp[dk]:dk (X++Y) h=dk X h++dk Y h)▸aij▸?_
 cases hx:dk X h<;>cases hy:dk Y h<;>simp[aan,aew,c9]
variable{c:Bk}{h1:Int}
def Bks.add{h2:Int}{s:Nat->Int}{b:Bk}(x:Bks h1 s X b)(y:Bks h2 s Y c):Bks (h1+h2) s (X++Y) (pf b c) where
 n:=by rw[ups,abn,de,ahk];exact(congr (congrArg _ y.n) x.n).trans (qm ..)
 m:=by rw[bq,abn,de,ahk];exact(congr (congrArg _ y.m) x.m).trans (qm ..)
 s:=by
  show c.s+b.s=_;rw[y.s,x.s,show ups (X++Y)=ups X++ups Y from abn ..,show bq (X++Y)=bq X++bq Y from abn ..,aij,aij,abm,abm,abm,Int.neg_add,qm h1 h2,qm (-c9 s (ups X)) (-c9 s (ups Y)),qm (c9 s (bq X)) (c9 s (bq Y))];exact ak4.trans (congrArg (·+_) ak4)
 t:=by
  rw[bq,abn,aij];exact(congr (congrArg _ y.t) x.t).trans (qm ..)
 keys:=a03 x.keys
 tab:=fun h=>by
  show look (addT aew b.tb c.tb) h=_;rw[ajl x.keys y.keys,x.tab,y.tab,a6k]
def aw1(h:X.Perm Y):(ups X).Perm (ups Y):=h.filter _
def aqt(h:X.Perm Y):(bq X).Perm (bq Y):=h.filter _
def bdi(h:X.Perm Y)(k:Hd):(dk X k).Perm (dk Y k):=h.filter _
def Bks.perm{s:Nat->Int}{b:Bk}(h:X.Perm Y)(x:Bks h1 s X b):Bks h1 s Y b where
 n:=by rw[x.n,(aw1 h).length_eq]
 m:=by rw[x.m,(aqt h).length_eq]
 s:=by rw[x.s,aii (aw1 h),aii (aqt h)]
 t:=by rw[x.t,aii (aqt h)]
 keys:=x.keys
 tab:=fun k=>by
  have hp:=bdi h k;rw[x.tab];unfold n5;rw[aii hp];have:(dk X k).isEmpty=(dk Y k).isEmpty:=by
   have:=hp.length_eq;cases h1:dk X k<;>cases h2:dk Y k<;>simp[h1,h2]at this |-
  rw[this]
def Bks.add'{h2:Int}{s:Nat->Int}{b:Bk}(x:Bks h1 s X b)(y:Bks h2 s Y c):Bks (h1+h2) s (X++Y) (pf c b):=by
 exact(qm h1 h2)▸((y.add x).perm List.perm_append_comm)
def Bks.nil{h:Int}{s:Nat->Int}:Bks h s [] ⟨0,0,h,0,[]⟩:=⟨rfl,rfl,by simp[c9,ups,bq],rfl,qb,fun _=>rfl⟩
noncomputable def zi(s:Nat->Int)(m:Nat):Bk:=⟨1,0,-s m,0,[]⟩
noncomputable def u0(s:Nat->Int)(p:Pl)(m:Nat):Bk:=⟨0,1,s m,s m,[(g p,s m)]⟩
noncomputable def entry(s:Nat->Int)(r:Row):Bk:=if r.snd then zi s r.m else u0 s r.p r.m
variable{r:Row}
def a2k{s:Nat->Int}:Bks 0 s [r] (entry s r):=by
 obtain⟨d,p,m,pre⟩:=r;induction d with
 |true=>exact⟨rfl,rfl,by simp[entry,zi,ups,bq,c9],rfl,by simp[entry,zi],fun h=>rfl⟩
 |false=>
  refine⟨rfl,rfl,by simp[entry,u0,ups,bq,c9],by simp[entry,u0,bq,c9],by simp[entry,u0],fun h=>?_⟩
  refine if e:g p=h then ?_ else ?_
  .simp[entry,u0,n5,dk,lx,j8,e,c9]
  .simp[entry,u0,n5,dk,lx,j8,e]
structure ago(b c:Bk):Prop where
 n:b.n=c.n
 m:b.m=c.m
 s:b.s=c.s
 t:b.t=c.t
 kb:(b.tb.map (·.1)).Nodup
 kc:(c.tb.map (·.1)).Nodup
 tab:∀h,look b.tb h=look c.tb h
def Bks.eq{s:Nat->Int}{b:Bk}(x:Bks h1 s X b)(y:Bks h1 s X c):ago b c:=
 ⟨x.n.trans y.n.symm,x.m.trans y.m.symm,x.s.trans y.s.symm,x.t.trans y.t.symm,x.keys,y.keys,fun h=>(x.tab h).trans (y.tab h).symm⟩
noncomputable def tot(f:Hd->Option Int):Int:=(f 0).getD 0+(f 1).getD 0+(f 2).getD 0
def aw9{f g:Hd->Int}{v:Int}:∀k:Hd,(∀h,f h=if k=h then v+g h else g h)->f 0+f 1+f 2=v+(g 0+g 1+g 2):=
 c3 (fun e=>by rw[e,e,e];show v+g 0+g 1+g 2=_;rw[my,my,<-my (g 0)])
  (fun e=>by rw[e,e,e];show g 0+(v+g 1)+g 2=_;rw[ad8,my])
  (fun e=>by rw[e,e,e];show g 0+g 1+(v+g 2)=_;rw[ad8])
def a59{l:List (Hd×Int)}(h:(l.map (·.1)).Nodup):(l.map (·.2)).sum=tot (look l):=by
 induction l with
 |nil=>rfl
 |cons a r ih=>
  obtain⟨k,v⟩:=a;rw[ee,wu]at h;have hk:look r k=none:=by
   cases q:look r k with
   |none=>rfl
   |some y=>exact absurd (aji.mpr (by rw[q];exact aef _)) h.1
  rw[ee,asn,ih h.2];refine(aw9 (f:=fun h=>(look ((k,v)::r) h).getD 0) (g:=fun h=>(look r h).getD 0) (v:=v) k fun h=>?_).symm
  rw[j8];by_cases e:k=h
  .subst e;rw[if_pos rfl,if_pos rfl,hk];exact(yz v).symm
  .rw[if_neg e,if_neg e]
def a58{s:Nat->Int}:tot (n5 s X)=c9 s (bq X):=by
 have key:∀h,(n5 s X h).getD 0=c9 s (dk X h):=fun h=>by
  delta n5;cases dk X h<;>rfl
 delta tot;rw[key,key,key];clear key;induction X with
 |nil=>rfl
 |cons r X ih=>
  obtain⟨d,p,m,pre⟩:=r;induction d with
  |true=>assumption
  |false=>
   have e:bq (⟨false,p,m,pre⟩::X)=⟨false,p,m,pre⟩::bq X:=rfl;have f:∀h,dk (⟨false,p,m,pre⟩::X) h=if g p=h then⟨false,p,m,pre⟩::dk X h else dk X h:=fun h=>by
    by_cases q:g p=h<;>simp[dk,q]
   rw[e,f,f,f];have c:∀Y,c9 s (⟨false,p,m,pre⟩::Y)=s m+c9 s Y:=fun Y=>rfl
   rw[c,<-ih];refine aw9 (f:=fun h=>c9 s (if g p=h then⟨false,p,m,pre⟩::dk X h else dk X h)) (g:=fun h=>c9 s (dk X h)) (v:=s m) (g p) fun h=>?_
   by_cases e:g p=h
   .rw[if_pos e,if_pos e,c]
   .rw[if_neg e,if_neg e]
def Bks.count{s:Nat->Int}{b:Bk}(x:Bks h1 s X b):(b.tb.map (·.2)).sum=b.t:=by
 refine(a59 x.keys)▸x.t▸a58.symm▸?_;delta tot;rw[x.tab,x.tab,x.tab]
inductive cv where
 |send (p:Pl) (m:Nat)
 |take (p:Pl) (x:Nat)
 |note (h:Hd)
noncomputable def Row.deed(r:Row):cv:=if r.snd then .send r.p r.m else .take r.p r.m
noncomputable abbrev It:=Option Nat
set_option genInjectivity true in
structure uc where
 a:Int
 b:Int
 c:Int
 d:Int
noncomputable def qplus(o n:uc):uc:=⟨n.a+o.a,n.b+o.b,n.c+o.c,n.d+o.d⟩
structure St where
 bk:Hd->Bk
 q:Pl->List It
 nt:List Hd
 nb:Hd->Bk
 ad:Hd->List (Hd×uc)
 sh:List Pl
 lg:List Row
variable{V:Type}
noncomputable def upd{K:Type}[DecidableEq K](f:K->V)(k:K)(v:V):K->V:=fun x=>if x=k then v else f x
def ic{K:Type}[DecidableEq K]{f:K->V}{k:K}{v:V}:upd f k v k=v:=if_pos rfl
def jd{K:Type}[DecidableEq K]{f:K->V}{k x:K}{v:V}(h:x≠k):upd f k v x=f x:=if_neg (by assumption)
noncomputable def note(h:Hd)(st:St):St:=if h∈st.nt then st else
 {st with nt:=st.nt++[h],nb:=upd st.nb h (st.bk h),ad:=upd st.ad h [],q:=fun p=>if g p=h then st.q p++[none]else st.q p}
noncomputable def pr(onto:Bool)(st:St)(h:Hd)(e:Bk):Hd->Bk:=upd st.bk h (if onto then pf (st.bk h) e else pf e (st.bk h))
noncomputable def aside1(s:Nat->Int)(p:Pl)(m:Nat):List (Hd×uc):=[(g p,⟨1,m,s m,-s m⟩)]
noncomputable def tkN(st:St)(p:Pl)(r:List It):St:=note (t p) {st with q:=upd st.q p r,sh:=st.sh++[p]}
noncomputable def tkS(onto:Bool)(s:Nat->Int)(st:St)(p:Pl)(m:Nat)(r:List It):St:=
 {st with q:=upd st.q p r,bk:=pr onto st (t p) (u0 s p m),lg:=st.lg++[⟨false,p,m,decide (t p∉st.nt)⟩],ad:=if t p∈st.nt/\p∉st.sh then upd st.ad (t p) (addT qplus (st.ad (t p)) (aside1 s p m))else st.ad}
noncomputable def tk(onto:Bool)(s:Nat->Int)(st:St)(p:Pl)(l:List It):St:=l.casesOn st fun i r=>i.casesOn (tkN st p r) fun m=>tkS onto s st p m r
noncomputable def step(onto:Bool)(s:Nat->Int)(st:St)(d:cv):St:=d.casesOn
 (fun p m=>{st with q:=upd st.q p (st.q p++[some m]),bk:=pr onto st (g p) (zi s m),lg:=st.lg++[⟨true,p,m,decide (g p∉st.nt)⟩]})
 (fun p _=>tk onto s st p (st.q p)) fun h=>note h st
section
variable {onto:Bool} {s:Nat->Int} {st:St} {p:Pl} {y m:Nat} {r:List It}
def u7(h:st.q p=[]):step onto s st (.take p y)=st:=congrArg (tk onto s st p) h
def step_none(h:st.q p=none::r):step onto s st (.take p y)=tkN st p r:=congrArg (tk onto s st p) h
def s9(h:st.q p=some m::r):step onto s st (.take p y)=tkS onto s st p m r:=congrArg (tk onto s st p) h
end
noncomputable def pres(X:List Row):List Row:=X.filter (·.pre)
noncomputable def posts(X:List Row):List Row:=X.filter (!·.pre)
noncomputable def hand(h:Hd)(X:List Row):List Row:=X.filter fun r=>decide (r.hand=h)
noncomputable def S(X:List Row)(p:Pl):List Nat:=(X.filter fun r=>r.snd && decide (r.p=p)).map (·.m)
noncomputable def T(X:List Row)(p:Pl):List Nat:=(X.filter fun r=>!r.snd && decide (r.p=p)).map (·.m)
variable{p:Pl}
def pz:S (X++Y) p=S X p++S Y p:=by simp[S]
def px:T (X++Y) p=T X p++T Y p:=by simp[T]
def vw:S [r] p=if r.snd=true/\r.p=p then [r.m]else []:=by
 obtain⟨d,q,m,e⟩:=r;cases d<;>by_cases h:q=p<;>simp[S,h]
def vu:T [r] p=if r.snd=false/\r.p=p then [r.m]else []:=by
 obtain⟨d,q,m,e⟩:=r;cases d<;>by_cases h:q=p<;>simp[T,h]
def a85:pres (X++Y)=pres X++pres Y:=by simp[pres]
def a89:posts (X++Y)=posts X++posts Y:=by simp[posts]
def aqa:hand h (X++Y)=hand h X++hand h Y:=by simp[hand]
def nu(u:Pl->List Nat)(X:List Row):Prop:=∀Y,Y <+: X->∀p,T Y p <+: u p++S Y p
variable{u:Pl->List Nat}
def nu.snoc(h:nu u X)(k:∀p,T (X++[r]) p <+: u p++S (X++[r]) p):nu u (X++[r]):=fun Y hY p=>by
 rcases List.prefix_concat_iff.mp hY with rfl|hY
 .exact k p
 .exact h Y hY p
def nu.nil:nu u []:=fun Y hY p=>by
 have:Y=[]:=ama.mp hY;subst this;simp[T]
def bh5(h:Y <+: X)(p:Pl):T Y p <+: T X p:=by
 refine oE h fun Z ez1=>?_;clear h;subst ez1;exact px▸(wx _ _)
def bh7(h:Y <+: X)(p:Pl):S Y p <+: S X p:=by
 refine oE h fun Z ez1=>?_;clear h;subst ez1;exact pz▸(wx _ _)
noncomputable def zm(s:Nat->Int)(L:List Nat):Option uc:=if L.isEmpty then none else some ⟨L.length,(L.map fun m:Nat=>(m:Int)).sum,(L.map s).sum,-(L.map s).sum⟩
def a8v{s:Nat->Int}{L:List Nat}{m:Nat}:aan qplus (zm s L) (some ⟨1,m,s m,-s m⟩)=zm s (L++[m]):=by
 induction L with
 |nil=>exact congrArg some (by rw[ix];simp[List.sum_singleton])
 |cons a l=>
  refine congrArg some ?_;dsimp only[qplus];rw[ei,ei,ady,ady,de,Int.neg_add,ahk,qm 1,qm (m:Int),qm (s m),qm (-s m)];simp
noncomputable def mk(b:Bool):List It:=if b then [none]else []
structure aga(s:Nat->Int)(st:St)(p:Pl)(A B L U:List Nat):Prop where
 s1:S (pres st.lg) p=T (pres st.lg) p++L++A
 t2:T (posts st.lg) p=L++U
 s2:S (posts st.lg) p=U++B
 q:st.q p=A.map some++mk (decide (g p∈st.nt/\p∉st.sh))++B.map some
 gn:g p∉st.nt->B=[]/\U=[]/\p∉st.sh
 ns:p∉st.sh->U=[]
 sh:p∈st.sh->A=[]
 tn:t p∉st.nt->L=[]/\U=[]
 ad:t p∈st.nt->look (st.ad (t p)) (g p)=zm s L
noncomputable def under(X:List Row)(p:Pl):List Nat:=(S (pres X) p).drop (T (pres X) p).length
structure Inv0(held:Hd->Int)(s:Nat->Int)(st:St):Prop where
 wire:∀p,∃A B L U,aga s st p A B L U
 nd:st.nt.Nodup
 pre:∀r∈st.lg,r.hand∉st.nt->r.pre=true
 bk:∀h,Bks (held h) s (hand h st.lg) (st.bk h)
 nb:∀h∈st.nt,Bks (held h) s (hand h (pres st.lg)) (st.nb h)
 adk:∀h∈st.nt,((st.ad h).map (·.1)).Nodup/\look (st.ad h) h=none
 f1:nu (fun _=>[]) (pres st.lg)
 f2:nu (under st.lg) (posts st.lg)
structure Inv(held:Hd->Int)(s:Nat->Int)(st:St):Prop extends Inv0 held s st where
 shn:∀p∈st.sh,t p∈st.nt
section
variable {held:Hd->Int} {s:Nat->Int} {st:St}
variable{X:List Row}{h:Hd}
def bc1(k:∀r∈X,r.hand=h->r.pre=true):hand h (pres X)=hand h X:=by
 delta hand pres;refine ad9▸?_;apply abg;intro r hr;refine if e:r.hand=h then ?_ else ?_
 .simp[e,k r hr e]
 .simp[e]
def a0g(I:Inv0 held s st)(hs:∀p∈st.sh,t p∈st.nt\/t p=h):Inv held s (note h st):=by
 unfold note;by_cases hn:h∈st.nt
 .rw[if_pos hn];exact{I with shn:=fun p hp=>(hs p hp).elim id fun e=>e▸hn}
 .rw[if_neg hn];exact{
   wire:=fun p=>by
    obtain⟨A,B,L,U,W⟩:=I.wire p;by_cases hg:g p=h
    .obtain⟨hB,hU,hsh⟩:=W.gn (hg▸hn);subst hB;subst hU;refine⟨A,[],L,[],⟨W.s1,W.t2,W.s2,?_,fun q=>?_,fun _=>rfl,W.sh,fun q=>W.tn ?_,fun q=>?_⟩⟩
     .have:=W.q;simp only[if_pos hg,this];simp[mk,hg,hn,hsh]
     .simp[hg]at q
     .intro x;exact q (abr _ x)
     .have ht:t p≠h:=fun e=>aqf p (hg.trans e.symm)
      show look (upd st.ad h [] (t p)) (g p)=_;rw[jd ht];exact W.ad (by simpa[ht]using q)
    .refine⟨A,B,L,U,⟨W.s1,W.t2,W.s2,?_,fun q=>W.gn ?_,W.ns,W.sh,fun q=>W.tn ?_,fun q=>?_⟩⟩
     .dsimp only[if_neg hg];refine W.q▸?_;simp[hg]
     .intro x;exact q (abr _ x)
     .intro x;exact q (abr _ x)
     .show look (upd st.ad h [] (t p)) (g p)=_;refine if ht:t p=h then ?_ else ?_
      .rw[ht,ic];refine oA (W.tn (ht▸hn)) fun hL _=>?_
       subst hL;rfl
      .exact(jd ht)▸(W.ad (by simpa[ht]using q))
   nd:=by
    rw[ahs];refine⟨I.nd,by simp,?_⟩
    intro a ha b hb e;simp at hb;subst hb;subst e;exact hn ha
   pre:=fun r hr q=>I.pre r hr fun x=>q (abr _ x)
   bk:=I.bk
   nb:=fun k hk=>by
    show Bks (held k) s (hand k (pres st.lg)) (upd st.nb h (st.bk h) k);by_cases e:k=h
    .subst e;rw[ic,bc1 fun r hr e=>I.pre r hr (e▸hn)]
     exact I.bk k
    .exact(jd e)▸(I.nb k (by simpa[e]using hk))
   adk:=fun k hk=>by
    show((upd st.ad h [] k).map (·.1)).Nodup/\look (upd st.ad h [] k) k=none;by_cases e:k=h
    .subst e;rw[ic];exact⟨qb,rfl⟩
    .exact(jd e)▸(I.adk k (by simpa[e]using hk))
   f1:=I.f1
   f2:=I.f2
   shn:=fun p hp=>by
    refine iy (hs p hp) (fun x=>?_) fun x=>?_<;>simp[x]}
variable{r:Row}
def arb{onto:Bool}{b:Hd->Bk}(h:∀k,Bks (held k) s (hand k X) (b k))(st:St)(hb:st.bk=b)(k:Hd) :
  Bks (held k) s (hand k (X++[r])) (pr onto st r.hand (entry s r) k):=by
 subst hb;rw[aqa];unfold pr;by_cases e:k=r.hand
 .subst e;rw[ic];have:hand r.hand [r]=[r]:=by simp[hand]
  rw[this];rw[(yz (held r.hand)).symm];split
  .exact(h _).add a2k
  .exact(h _).add' a2k
 .rw[jd e];have:hand k [r]=[]:=by simp[hand,g7 e]
  rw[this,fo];exact h k
def vf:pres (X++[r])=if r.pre=true then pres X++[r]else pres X:=by
 rw[a85];cases h:r.pre<;>simp[pres,h]
def ab3:posts (X++[r])=if r.pre=true then posts X else posts X++[r]:=by
 rw[a89];cases h:r.pre<;>simp[posts,h]
variable {X:List Row} {r:Row} {p:Pl}
def aop(h:r.pre=true):pres (X++[r])=pres X++[r]:=vf.trans (if_pos h)
def aiz(h:r.pre=false):pres (X++[r])=pres X:=vf.trans (if_neg (h▸wy))
def ai1(h:r.pre=true):posts (X++[r])=posts X:=ab3.trans (if_pos h)
def ab4(h:r.pre=false):posts (X++[r])=posts X++[r]:=ab3.trans (if_neg (h▸wy))
def a4b(h:r.snd=true):S (X++[r]) r.p=S X r.p++[r.m]:=pz.trans (congrArg _ (vw.trans (if_pos ⟨h,rfl⟩)))
def agd(h:¬(r.snd=true/\r.p=p)):S (X++[r]) p=S X p:=pz.trans ((congrArg _ (vw.trans (if_neg h))).trans (fo _))
def aru(h:r.snd=false):T (X++[r]) r.p=T X r.p++[r.m]:=px.trans (congrArg _ (vu.trans (if_pos ⟨h,rfl⟩)))
def ak5(h:¬(r.snd=false/\r.p=p)):T (X++[r]) p=T X p:=px.trans ((congrArg _ (vu.trans (if_neg h))).trans (fo _))
def a38(h:¬r.p=p):S (pres (X++[r])) p=S (pres X) p:=by rw[vf];split;exact agd fun k=>h k.2;rfl
def a36(h:¬r.p=p):T (pres (X++[r])) p=T (pres X) p:=by rw[vf];split;exact ak5 fun k=>h k.2;rfl
def a39(h:¬r.p=p):S (posts (X++[r])) p=S (posts X) p:=by rw[ab3];split;rfl;exact agd fun k=>h k.2
def a37(h:¬r.p=p):T (posts (X++[r])) p=T (posts X) p:=by rw[ab3];split;rfl;exact ak5 fun k=>h k.2
end
section
variable {held:Hd->Int} {s:Nat->Int} {st:St}
variable{p:Pl}
def awr{A B L U:List Nat}(W:aga s st p A B L U):T (pres st.lg) p <+: S (pres st.lg) p:=by
 rw[W.s1,gj];exact wx _ _
def awq{A B L U:List Nat}(W:aga s st p A B L U):under st.lg p=L++A:=by
 unfold under;rw[W.s1,gj];simp
def a5i{A B L U:List Nat}(W:aga s st p A B L U):T (posts st.lg) p <+: under st.lg p++S (posts st.lg) p:=by
 rw[awq W,W.t2,W.s2];by_cases h:p∈st.sh
 .rw[W.sh h];exact⟨B,by simp⟩
 .rw[W.ns h];exact⟨A++B,by simp⟩
variable{onto:Bool}
def aym{st':St}{r:Row}(I:Inv held s st)(hl:st'.lg=st.lg++[r])(hpre:r.pre=decide (r.hand∉st.nt))(hn:st'.nt=st.nt)(hb:st'.bk=pr onto st r.hand (entry s r))(hnb:st'.nb=st.nb)
  (hsh:st'.sh=st.sh) (hw:∀p,∃A B L U,aga s st' p A B L U) (hadk:∀h∈st.nt,((st'.ad h).map (·.1)).Nodup/\look (st'.ad h) h=none):Inv held s st' where
 wire:=hw
 nd:=by rw[hn];exact I.nd
 pre:=fun x hx q=>by
  rw[hl]at hx;rw[hn]at q;rcases ji.mp hx with h|h
  .exact I.pre x h q
  .simp at h;subst h;rw[hpre];exact decide_eq_true q
 bk:=fun k=>by rw[hl,hb];exact arb I.bk st rfl k
 nb:=fun k hk=>by
  rw[hn]at hk;rw[hl,hnb,vf];split
  .rename_i h;rw[hpre]at h;have:r.hand≠k:=fun e=>of_decide_eq_true h (e▸hk)
   rw[aqa];have:hand k [r]=[]:=by simp[hand,this]
   rw[this,fo];exact I.nb k hk
  .exact I.nb k hk
 adk:=fun h hh=>hadk h (hn▸hh)
 f1:=by
  have key:∀p,T (pres st'.lg) p <+: []++S (pres st'.lg) p:=fun p=>by
   obtain⟨A,B,L,U,W⟩:=hw p;exact awr W
  rw[hl,vf]at key |-;split at key
  .rename_i h;rw[if_pos h];exact I.f1.snoc key
  .rename_i h;rw[if_neg h];exact I.f1
 f2:=by
  have key:∀p,T (posts st'.lg) p <+: under st'.lg p++S (posts st'.lg) p:=fun p=>by
   obtain⟨A,B,L,U,W⟩:=hw p;exact a5i W
  rw[hl]at key |-;rw[ab3]at key |-;by_cases h:r.pre=true
  .rw[if_pos h];intro Y hY p;have hr:r.hand∉st.nt:=by rw[hpre]at h;exact of_decide_eq_true h
   obtain⟨A,B,L,U,W⟩:=I.wire p;have old:=I.f2 Y hY p;unfold under at old |-;rw[vf,if_pos h,pz,px,vw,vu];obtain⟨d,q,m,e⟩:=r;induction d with
   |true=>
    by_cases hq:q=p
    .subst hq;obtain⟨hB,hU,_⟩:=W.gn hr;subst hB;subst hU;have hS:S Y q=[]:=ama.mp (by have:=bh7 hY q;rw[W.s2]at this;exact this)
     rw[hS]at old |-;simp only[at5,false_and,if_false,true_and,if_true,fo]at old |-;rw[anh ((awr W).length_le:(T (pres st.lg) q).length<=(S (pres st.lg) q).length)];exact old.trans (wx _ _)
    .simp only[hq,and_false,if_false,fo];exact old
   |false=>
    by_cases hq:q=p
    .subst hq;obtain⟨hL,hU⟩:=W.tn hr;subst hL;subst hU;have hT:T Y q=[]:=ama.mp (by have:=bh5 hY q;rw[W.t2]at this;exact this)
     rw[hT];exact List.nil_prefix
    .simp only[hq,and_false,if_false,fo];exact old
  .rw[if_neg h]at key |-;have hu:under (st.lg++[r])=under st.lg:=by
    funext p;unfold under;rw[vf,if_neg h]
   rw[hu]at key |-;exact I.f2.snoc key
 shn:=fun p hp=>by rw[hn];rw[hsh]at hp;exact I.shn p hp
variable{m:Nat}
def a7v(I:Inv held s st):Inv held s (step onto s st (.send p m)):=by
 refine aym (onto:=onto) (r:=⟨true,p,m,decide (g p∉st.nt)⟩) I rfl rfl rfl rfl rfl rfl (fun x=>?_) I.adk
 obtain⟨A,B,L,U,W⟩:=I.wire x;by_cases hx:p=x
 .subst hx;by_cases hg:g p∈st.nt
  .have hf:decide (g p∉st.nt)=false:=decide_eq_false (not_not_intro hg);refine⟨A,B++[m],L,U,⟨?_,?_,?_,?_,fun h=>absurd hg h,W.ns,W.sh,W.tn,W.ad⟩⟩
   .exact(congrArg (S · p) (aiz hf)).trans (W.s1.trans (congrArg (T · p++L++A) (aiz hf)).symm)
   .exact(congrArg (T · p) (ab4 hf)).trans ((ak5 (fun h=>ad0 (h.1:true=false))).trans W.t2)
   .exact(congrArg (S · p) (ab4 hf)).trans ((a4b rfl).trans ((congrArg (·++[m]) W.s2).trans (gj ..)))
   .refine(ic ..).trans ((congrArg (·++[some m]) W.q).trans ?_);rw[ei];exact gj ..
  .obtain⟨hB,hU,hsh⟩:=W.gn hg;subst hB;subst hU;have ht:decide (g p∉st.nt)=true:=decide_eq_true hg;refine⟨A++[m],[],L,[],⟨?_,?_,?_,?_,fun _=>⟨rfl,rfl,hsh⟩,fun _=>rfl,fun h=>absurd h hsh,fun h=>⟨(W.tn h).1,rfl⟩,W.ad⟩⟩
   .refine(congrArg (S · p) (aop ht)).trans ((a4b rfl).trans ((congrArg (·++[m]) W.s1).trans ((gj ..).trans ?_)));exact congrArg (·++L++(A++[m])) ((ak5 (fun h=>ad0 (h.1:true=false))).symm.trans (congrArg (T · p) (aop ht).symm))
   .exact(congrArg (T · p) (ai1 ht)).trans W.t2
   .exact(congrArg (S · p) (ai1 ht)).trans W.s2
   .have hm:mk (decide (g p∈st.nt/\p∉st.sh))=[]:=by rw[decide_eq_false (fun h=>hg h.1)];rfl
    refine(ic ..).trans ((congrArg (·++[some m]) W.q).trans ?_);show A.map some++mk (decide (g p∈st.nt/\p∉st.sh))++[]++[some m]=(A++[m]).map some++mk (decide (g p∈st.nt/\p∉st.sh))++[];rw[hm,ei];simp only[fo];rfl
 .refine⟨A,B,L,U,⟨?_,?_,?_,?_,W.gn,W.ns,W.sh,W.tn,W.ad⟩⟩
  .exact(a38 hx).trans (W.s1.trans (congrArg (·++L++A) (a36 hx).symm))
  .exact(a37 hx).trans W.t2
  .exact(a39 hx).trans W.s2
  .show upd _ p _ x=_;rw[jd (g7 hx)];exact W.q
variable{r:List It}
def bay{b:Bool}{A B:List Nat}(h:none::r=A.map some++mk b++B.map some):A=[]/\b=true/\r=B.map some:=by
 induction A with
 |cons a A=>simp at h
 |nil=>
  induction b with
  |true=>simp[mk]at h;exact⟨rfl,rfl,h⟩
  |false=>
   induction B with
   |nil=>simp[mk]at h
   |cons b B=>simp[mk]at h
def bax{b:Bool}{A B:List Nat}(h:some m::r=A.map some++mk b++B.map some) :
  (∃A',A=m::A'/\r=A'.map some++mk b++B.map some)\/(A=[]/\b=false/\∃B',B=m::B'/\r=B'.map some):=by
 induction A with
 |cons a A=>
  simp only[ee,sk,adv,ahx]at h;exact .inl ⟨A,by rw[h.1],h.2⟩
 |nil=>
  induction b with
  |true=>simp[mk]at h
  |false=>
   induction B with
   |nil=>simp[mk]at h
   |cons b B=>
    simp only[mk,wj,ix,ee,adv,ahx,ue,if_false]at h;exact .inr ⟨rfl,rfl,B,by rw[h.1],h.2⟩
def ba7(I:Inv held s st)(hq:st.q p=none::r):Inv held s (note (t p) {st with q:=upd st.q p r,sh:=st.sh++[p]}):=by
 refine a0g {I with wire:=fun x=>?_} ?_
 .obtain⟨A,B,L,U,W⟩:=I.wire x;by_cases hx:x=p
  .subst hx;obtain⟨hA,hb,hr⟩:=bay (hq.symm.trans W.q);obtain⟨hg,hsh⟩:=of_decide_eq_true hb;subst hA;refine⟨[],B,L,U,⟨W.s1,W.t2,W.s2,?_,fun h=>absurd hg h,fun h=>absurd (abu _ (.head _)) h,fun _=>rfl,W.tn,W.ad⟩⟩
   show upd st.q x r x=_;rw[ic,hr];simp[mk]
  .have e:∀y,y∈st.sh++[p]↔y∈st.sh\/y=p:=fun y=>by simp
   have e':x∈st.sh++[p]↔x∈st.sh:=by rw[e];simp[hx]
   refine⟨A,B,L,U,⟨W.s1,W.t2,W.s2,?_,fun h=>?_,fun h=>W.ns (fun k=>h (e'.mpr k)),fun h=>W.sh (e'.mp h),W.tn,W.ad⟩⟩
   .show upd st.q p r x=_;rw[jd hx,W.q];simp only[e']
   .have:=W.gn h;exact⟨this.1,this.2.1,fun k=>this.2.2 (e'.mp k)⟩
 .intro x hx;rcases ji.mp hx with h|h
  .exact .inl (I.shn x h)
  .simp at h;subst h;exact .inr rfl
variable{y:Nat}
def bbe(I:Inv held s st)(hq:st.q p=some m::r):Inv held s (step onto s st (.take p y)):=by
 rw[s9 hq,tkS];refine aym (onto:=onto) (r:=⟨false,p,m,decide (t p∉st.nt)⟩) I rfl rfl rfl rfl rfl rfl (fun x=>?_) (fun h hh=>?_)
 .have adx:∀x,x≠p->t x∈st.nt->look ((if t p∈st.nt/\p∉st.sh then upd st.ad (t p) (addT qplus (st.ad (t p)) (aside1 s p m))else st.ad) (t x)) (g x)=look (st.ad (t x)) (g x):=fun x hx hn=>by
   split
   .by_cases e:t x=t p
    .rw[e,ic,ajl (I.adk _ (e▸hn)).1 (by simp[aside1])]
     have:g p≠g x:=fun k=>hx (ay1 x p k.symm e)
     simp only[aside1,lx,j8,if_neg this];cases look (st.ad (t p)) (g x)<;>rfl
    .rw[jd e]
   .rfl
  obtain⟨A,B,L,U,W⟩:=I.wire x;by_cases hx:x=p
  .subst hx;rcases bax (hq.symm.trans W.q)with⟨A',hA,hr⟩|⟨hA,hb,B',hB,hr⟩
   .subst hA;have hsh:x∉st.sh:=fun h=>by have:=W.sh h;exact nomatch this
    have hU:=W.ns hsh;subst hU;by_cases hn:t x∈st.nt
    .have hf:decide (t x∉st.nt)=false:=decide_eq_false (not_not_intro hn);refine⟨A',B,L++[m],[],⟨?_,?_,?_,?_,W.gn,fun _=>rfl,fun h=>absurd h hsh,fun h=>absurd hn h,fun h=>?_⟩⟩
     .rw[aiz hf,W.s1,<-gj,gj _ [m]];rfl
     .rw[ab4 hf,aru rfl,W.t2,fo,fo]
     .rw[ab4 hf];exact(agd fun h=>ad0 (h.1:false=true)).trans W.s2
     .show upd st.q x r x=_;rw[ic,hr]
     .show look ((if t x∈st.nt/\x∉st.sh then upd st.ad (t x) (addT qplus (st.ad (t x)) (aside1 s x m))else st.ad) (t x)) (g x)=_
      rw[if_pos ⟨hn,hsh⟩,ic,ajl (I.adk _ hn).1 (by simp[aside1]),W.ad hn]
      simp only[aside1,lx,j8,if_true];exact a8v
    .obtain⟨hL,_⟩:=W.tn hn;subst hL;have ht:decide (t x∉st.nt)=true:=decide_eq_true hn;refine⟨A',B,[],[],⟨?_,?_,?_,?_,W.gn,fun _=>rfl,fun h=>absurd h hsh,fun _=>⟨rfl,rfl⟩,fun h=>absurd h hn⟩⟩
     .rw[aop ht,aru rfl];refine(agd fun h=>ad0 (h.1:false=true)).trans (W.s1.trans ?_);simp only[fo,gj];rfl
     .rw[ai1 ht,W.t2]
     .rw[ai1 ht,W.s2]
     .show upd st.q x r x=_;rw[ic,hr]
   .subst hA;subst hB;have hg:g x∈st.nt:=uj fun h=>by have:=(W.gn h).1;exact nomatch this
    have hsh:x∈st.sh:=uj fun h=>by rw[decide_eq_true ⟨hg,h⟩]at hb;exact nomatch hb
    have hn:=I.shn x hsh;have hf:decide (t x∉st.nt)=false:=decide_eq_false (not_not_intro hn);refine⟨[],B',L,U++[m],⟨?_,?_,?_,?_,fun h=>absurd hg h,fun h=>absurd hsh h,fun _=>rfl,fun h=>absurd hn h,fun h=>?_⟩⟩
    .rw[aiz hf,W.s1]
    .rw[ab4 hf,aru rfl,W.t2,gj]
    .rw[ab4 hf];exact(agd fun h=>ad0 (h.1:false=true)).trans (W.s2.trans (gj _ [m] _).symm)
    .show upd st.q x r x=_;rw[ic,hr];simp[mk,hsh]
    .show look ((if t x∈st.nt/\x∉st.sh then upd st.ad (t x) (addT qplus (st.ad (t x)) (aside1 s x m))else st.ad) (t x)) (g x)=_
     rw[if_neg fun k=>k.2 hsh];exact W.ad hn
  .refine⟨A,B,L,U,⟨?_,?_,?_,?_,W.gn,W.ns,W.sh,W.tn,fun h=>?_⟩⟩
   .exact(a38 (g7 hx)).trans (W.s1.trans (congrArg (·++L++A) (a36 (g7 hx)).symm))
   .exact(a37 (g7 hx)).trans W.t2
   .exact(a39 (g7 hx)).trans W.s2
   .show upd st.q p r x=_;rw[jd hx];exact W.q
   .exact(adx x hx h).trans (W.ad h)
 .show(((if t p∈st.nt/\p∉st.sh then upd st.ad (t p) (addT qplus (st.ad (t p)) (aside1 s p m))else st.ad) h).map (·.1)).Nodup/\look ((if t p∈st.nt/\p∉st.sh then upd st.ad (t p) (addT qplus (st.ad (t p)) (aside1 s p m))else st.ad) h) h=none
  split
  .by_cases e:h=t p
   .subst e;rw[ic];refine⟨a03 (I.adk _ hh).1,?_⟩;rw[ajl (I.adk _ hh).1 (by simp[aside1]),(I.adk _ hh).2]
    simp[aside1,lx,j8,aan,aqf p]
   .rw[jd e];exact I.adk h hh
  .exact I.adk h hh
variable{d:cv}
def ax0(I:Inv held s st):Inv held s (step onto s st d):=by
 induction d with
 |send p m=>exact a7v I
 |note h=>exact a0g I.toInv0 fun p hp=>.inl (I.shn p hp)
 |take p y=>
  cases hq:st.q p with
  |nil=>rw[u7 hq];exact I
  |cons x r=>
   induction x with
   |none=>rw[step_none hq];exact ba7 I hq
   |some m=>exact bbe I hq
noncomputable def run(onto:Bool)(s:Nat->Int)(st:St)(ds:List cv):St:=ds.foldl (step onto s) st
noncomputable def init(held:Hd->Int)(u:Pl->List Nat):St:=⟨fun h=>⟨0,0,held h,0,[]⟩,fun p=>(u p).map some,[],fun _=>⟨0,0,0,0,[]⟩,fun _=>[],[],[]⟩
def a1c:Inv held s (init held fun _=>[]) where
 wire:=fun p=>⟨[],[],[],[],⟨rfl,rfl,rfl,rfl,fun _=>⟨rfl,rfl,nofun⟩,fun _=>rfl,fun _=>rfl,fun _=>⟨rfl,rfl⟩,fun h=>by simp[init]at h⟩⟩
 nd:=qb
 pre:=fun r hr=>by simp[init]at hr
 bk:=fun h=>Bks.nil
 nb:=fun h hh=>by simp[init]at hh
 adk:=fun h hh=>by simp[init]at hh
 f1:=nu.nil
 f2:=nu.nil
 shn:=fun p hp=>by simp[init]at hp
variable{ds:List cv}
def aob:∀{st:St},Inv held s st->Inv held s (run onto s st ds):=by
 induction ds with
 |nil=>intro st I;exact I
 |cons d ds ih=>intro st I;exact ih (ax0 I)
variable {onto:Bool}
noncomputable def phi(st:St)(p:Pl):Nat:=(st.q p).length+if g p∈st.nt then 0 else 1
variable{h:Hd}
def ape{x:Hd}:x∈(note h st).nt↔x∈st.nt\/x=h:=by
 delta note;split
 .rename_i hh;exact⟨.inl,fun k=>k.elim id fun e=>e▸hh⟩
 .simp
def ajf:phi (note h st) p=phi st p:=by
 unfold phi;by_cases hh:h∈st.nt
 .simp only[note,if_pos hh]
 .simp only[note,if_neg hh];by_cases e:g p=h
  .rw[e];simp[hh]
  .simp[e]
def axz{x:Hd}(h:x∈st.nt):x∈(step onto s st d).nt:=by
 induction d with
 |send p m=>exact h
 |note k=>exact ape.mpr (.inl h)
 |take p y=>
  cases hq:st.q p with
  |nil=>rw[u7 hq];exact h
  |cons i r=>induction i with
   |none=>rw[step_none hq];exact ape.mpr (.inl h)
   |some m=>rw[s9 hq];exact h
variable{x:Pl}
def axj(h:x≠p):phi (step onto s st (.take p y)) x=phi st x:=by
 cases hq:st.q p with
 |nil=>rw[u7 hq]
 |cons i r=>induction i with
  |none=>
   rw[step_none hq,tkN,ajf];simp only[phi,jd h]
  |some m=>rw[s9 hq];simp only[tkS,phi,jd h];rfl
def anr(h:st.q p≠[]):phi (step onto s st (.take p y)) p+1=phi st p:=by
 cases hq:st.q p with
 |nil=>exact absurd hq h
 |cons i r=>induction i with
  |none=>
   rw[step_none hq,tkN,ajf];simp only[phi,ic,hq,dh];exact O.a0b
  |some m=>rw[s9 hq];simp only[tkS,phi,ic,hq,dh];exact O.a0b
def aie(h:st.q p=[]):step onto s st (.take p y)=st:=u7 h
def ant:phi (step onto s st (.take p y)) x<=phi st x:=by
 refine if h:x=p then ?_ else ?_
 .subst h;refine if hq:st.q x=[]then ?_ else ?_
  .exact(aie hq).symm▸(ay _)
  .have:=anr (onto:=onto) (s:=s) (y:=y) hq;exact O.ck [_,_] [.eq (.a .x0 (.c 1)) .x1] (.le .x0 .x1) 101 rfl this
 .exact(axj h).symm▸(ay _)
def a7u:phi (step onto s st (.send p m)) x<=phi st x+1:=by
 show(upd st.q p (st.q p++[some m]) x).length+(if g x∈st.nt then 0 else 1)<=(st.q x).length+(if g x∈st.nt then 0 else 1)+1
 by_cases h:x=p
 .subst h;rw[ic,de,qg];exact O.ck [_,_] [] (.le (.a (.a .x0 (.c 1)) .x1) (.a (.a .x0 .x1) (.c 1))) 1 rfl
 .rw[jd h];exact O.ck [_,_] [] (.le (.a .x0 .x1) (.a (.a .x0 .x1) (.c 1))) 1 rfl
def a68:phi (step onto s st d) x<=phi st x+1:=by
 induction d with
 |send p m=>exact a7u
 |take p y=>exact aw ant (fm _)
 |note h=>show phi (note h st) x<=_;exact ajf.symm▸(fm _)
def a8a:∀{st:St} {x:Pl},phi (run onto s st ds) x<=phi st x+ds.length:=by
 induction ds with
 |nil=>intro st x;exact ay _
 |cons d ds ih=>intro st x;have:=ih (st:=step onto s st d) (x:=x);have:=a68 (onto:=onto) (s:=s) (st:=st) (d:=d) (x:=x);show phi (run onto s (step onto s st d) ds) x<=_;simp only[dh];exact O.apc ‹_› this
def run_nt{x:Hd}:∀{st:St},x∈st.nt->x∈(run onto s st ds).nt:=by
 induction ds with
 |nil=>intro st h;exact h
 |cons d ds ih=>intro st h;exact ih (axz h)
def xe{a b:List cv}:run onto s st (a++b)=run onto s (run onto s st a) b:=abj
noncomputable def tks(l:List Pl):List cv:=l.map fun p=>.take p 0
variable{l:List Pl}
def anq:∀{st:St} {x:Pl},phi (run onto s st (tks l)) x<=phi st x:=by
 induction l with
 |nil=>intro st x;exact ay _
 |cons p l ih=>intro st x;exact aw ih ant
variable{n:Nat}
def a6b(hn:1<=n)(hx:x∈l):∀{st:St},phi st x<=n+1->phi (run onto s st (tks l)) x<=n:=by
 induction l with
 |nil=>cases hx
 |cons p l ih=>
  intro st h;show phi (run onto s (step onto s st (.take p 0)) (tks l)) x<=n;by_cases e:p=x
  .subst e;refine aw anq ?_;by_cases hq:st.q p=[]
   .rw[aie hq];have:phi st p<=1:=by unfold phi;rw[hq];simp only[jt];split<;>decide
    exact O.ck [_,_] [.le (.c 1) .x1,.le .x0 (.a .x1 (.c 1)),.le .x0 (.c 1)] (.le .x0 .x1) 1011 rfl hn h this
   .have:=anr (onto:=onto) (s:=s) (y:=0) hq;exact O.ck [_,_,_] [.le .x2 (.a .x1 (.c 1)),.eq (.a .x0 (.c 1)) .x2] (.le .x0 .x1) 1101 rfl h this
  .exact ih ((dt.mp hx).resolve_left (g7 e)) (aw ant h)
def axd(hx:x∈l):∀{st:St},g x∈st.nt->phi (run onto s st (tks l)) x<=phi st x - 1:=by
 induction l with
 |nil=>cases hx
 |cons p l ih=>
  intro st h;show phi (run onto s (step onto s st (.take p 0)) (tks l)) x<=_;by_cases e:p=x
  .subst e;refine aw anq ?_;by_cases hq:st.q p=[]
   .rw[aie hq];have:phi st p=0:=by delta phi;rw[hq,if_pos h];rfl
    exact O.ck [_] [.eq .x0 (.c 0)] (.le .x0 (.s .x0 (.c 1))) 11810109 rfl this
   .have:=anr (onto:=onto) (s:=s) (y:=0) hq;exact O.ck [_,_] [.eq (.a .x0 (.c 1)) .x1] (.le .x0 (.s .x1 (.c 1))) 1011810019 rfl this
  .have:=ih ((dt.mp hx).resolve_left (g7 e)) (st:=step onto s st (.take p 0)) (axz h);replace this:=(axj (g7 e))▸this;exact this
noncomputable def ff(l:List Pl)(n:Nat):List cv:=tks (k9 n l).flatten
def ajp:ff l (n+1)=ff l n++tks l:=by
 delta ff tks;rw[List.replicate_succ',ah0];simp
def bb0(hl:∀p,p∈l):∀j,j<=n->phi st x<=n+1->phi (run onto s st (ff l j)) x<=n+1 - j:=by
 intro j;induction j with
 |zero=>intro _ h;exact h
 |succ j ih=>
  intro hj h;have:=ih (O.o85 hj) h;refine ajp▸xe▸?_;have:=a6b (onto:=onto) (s:=s) (n:=n - j) (O.ck [_,_] [.le (.a .x1 (.c 1)) .x0] (.le (.c 1) (.s .x0 .x1)) 11081019 rfl hj) (hl x) (st:=run onto s st (ff l j)) (O.ck [_,_,_] [.le (.a .x2 (.c 1)) .x1,.le .x0 (.s (.a .x1 (.c 1)) .x2)] (.le .x0 (.a (.s .x1 .x2) (.c 1))) 101810109810010810199 rfl hj this);exact O.ck [_,_,_] [.le (.a .x2 (.c 1)) .x1,.le .x0 (.s .x1 .x2)] (.le .x0 (.s (.a .x1 (.c 1)) (.a .x2 (.c 1)))) 10181010981010810199 rfl hj this
def bb1(hl:∀p,p∈l)(hx:g x∈st.nt):∀j,phi (run onto s st (ff l j)) x<=phi st x - j:=by
 intro j;induction j with
 |zero=>exact ay _
 |succ j ih=>
  refine ajp▸xe▸?_;have:=axd (onto:=onto) (s:=s) (hl x) (run_nt (ds:=ff l j) (onto:=onto) (s:=s) hx);exact O.ck [_,_,_,_] [.le .x3 (.s .x1 .x2),.le .x0 (.s .x3 (.c 1))] (.le .x0 (.s .x1 (.a .x2 (.c 1)))) 10181000109811000810001099810181119811010810101999 rfl ih this
def bho:∀h x:Hd,x≠h->∃p:Pl,g p=h/\t p=x:=by decide
def beo(hl:∀p,p∈l)(I:Inv held s st)(hh:h∈st.nt)(hb:∀p,phi st p<=13) :
  (∀p,(run onto s st (ff l 14)).q p=[])/\∀x,x∈(run onto s st (ff l 14)).nt:=by
 have J:=aob (onto:=onto) (ds:=ff l 13) I;have n13:∀x,x∈(run onto s st (ff l 13)).nt:=fun x=>by
  by_cases e:x=h
  .subst e;exact run_nt hh
  .obtain⟨p,hg,ht⟩:=bho h x e;have hgn:g p∈st.nt:=hg▸hh;have h0:phi (run onto s st (ff l 13)) p<=0:=by
    have:=bb1 (onto:=onto) (s:=s) hl hgn 13;have:=hb p;exact O.ck [_,_] [.le .x0 (.s .x1 (.c 13)),.le .x1 (.c 13)] (.le .x0 (.c 0)) 10181119 rfl ‹_› this
   have hq:(run onto s st (ff l 13)).q p=[]:=by
    have:((run onto s st (ff l 13)).q p).length=0:=by unfold phi at h0;exact O.ck [_,_] [.le (.a .x0 .x1) (.c 0)] (.eq .x0 (.c 0)) 18119 rfl h0
    exact uk this
   obtain⟨A,B,L,U,W⟩:=J.wire p;have hw:=W.q;rw[hq]at hw;have hsh:p∈(run onto s st (ff l 13)).sh:=uj fun k=>by
    rw[decide_eq_true ⟨(run_nt hgn:g p∈(run onto s st (ff l 13)).nt),k⟩]at hw;have:=congrArg pd hw;simp[mk]at this
   exact ht▸J.shn p hsh
 rw[ajp (n:=13),xe];refine⟨fun p=>?_,fun x=>run_nt (n13 x)⟩
 have h2:phi (run onto s st (ff l 13)) p<=1:=by rw[ajp (n:=12),xe];exact aw anq (by have:=bb0 (onto:=onto) (s:=s) hl (x:=p) (n:=12) 12 (ay _) (hb p);assumption:phi (run onto s st (ff l 12)) p<=1)
 have h3:=axd (onto:=onto) (s:=s) (hl p) (n13 (g p));have:((run onto s (run onto s st (ff l 13)) (tks l)).q p).length=0:=by unfold phi at h2 h3;exact O.ck [_,_,_,_] [.le (.a .x1 .x2) (.c 1),.le (.a .x0 .x3) (.s (.a .x1 .x2) (.c 1))] (.eq .x0 (.c 0)) 18119818101199 rfl h2 h3
 exact uk this
def Ord(st:St):Prop:=∀p,S st.lg p=S (pres st.lg) p++S (posts st.lg) p/\T st.lg p=T (pres st.lg) p++T (posts st.lg) p
variable{r:Row}
def aze(I:Inv held s st)(O:Ord st)(hpre:r.pre=decide (r.hand∉st.nt))(p:Pl) :
  S (st.lg++[r]) p=S (pres (st.lg++[r])) p++S (posts (st.lg++[r])) p/\T (st.lg++[r]) p=T (pres (st.lg++[r])) p++T (posts (st.lg++[r])) p:=by
 refine oA (O p) fun h1 h2=>?_
 refine azn (I.wire p) fun A B L U W=>?_
 refine vf▸ab3▸?_;refine if h:r.pre=true then ?_ else ?_
 .rw[if_pos h,if_pos h,pz,px,pz,px,vw,vu,h1,h2];replace h:=hpre.symm▸h;have hr:=of_decide_eq_true h;constructor
  .split
   .rename_i hc;refine oAA (W.gn (by unfold Row.hand at hr;rw[if_pos hc.1,hc.2]at hr;exact hr:g p∉st.nt)) fun hB hU _=>?_
    rw[W.s2,hB,hU];simp
   .simp
  .split
   .rename_i hc;refine oA (W.tn (by unfold Row.hand at hr;rw[if_neg (by rw[hc.1];decide),hc.2]at hr;exact hr:t p∉st.nt)) fun hL hU=>?_
    rw[W.t2,hL,hU];simp
   .simp
 .rw[if_neg h,if_neg h,pz,px,pz,px,h1,h2];simp
def acb:(note h st).lg=st.lg:=by delta note;split<;>rfl
def a9u(I:Inv held s st)(O:Ord st):Ord (step onto s st d):=by
 induction d with
 |send p m=>exact fun x=>aze (r:=⟨true,p,m,decide (g p∉st.nt)⟩) I O rfl x
 |note h=>intro x;show S (note h st).lg x=_/\_;simp only[step,acb];exact O x
 |take p y=>
  cases hq:st.q p with
  |nil=>rw[u7 hq];exact O
  |cons i r=>
   induction i with
   |none=>intro x;rw[step_none hq];simp only[tkS,tkN,acb];exact O x
   |some m=>intro x;rw[s9 hq];exact aze (r:=⟨false,p,m,decide (t p∉st.nt)⟩) I O rfl x
def azd:∀{st:St},Inv held s st->Ord st->Ord (run onto s st ds):=by
 induction ds with
 |nil=>intro st _ O;exact O
 |cons d ds ih=>intro st I O;exact ih (ax0 I) (a9u I O)
structure alc(held:Hd->Int)(s:Nat->Int)(st:St):Prop where
 inv:Inv held s st
 law:∀p,S st.lg p=T st.lg p
 und:∀p,S (pres st.lg) p=T (pres st.lg) p++under st.lg p
 ad:∀p,look (st.ad (t p)) (g p)=zm s (under st.lg p)
 all:∀x,x∈st.nt
def bet(I:Inv held s st)(O:Ord st)(hq:∀p,st.q p=[])(hn:∀x,x∈st.nt):alc held s st:=by
 have key:∀p,∃L U,S (pres st.lg) p=T (pres st.lg) p++L/\T (posts st.lg) p=L++U/\S (posts st.lg) p=U/\under st.lg p=L/\look (st.ad (t p)) (g p)=zm s L:=fun p=>by
  refine azn (I.wire p) fun A B L U W=>?_
  have hw:=W.q;replace hw:=(hq p).symm▸hw;have hA:A=[]:=by cases A<;>simp at hw;rfl
  refine⟨L,U,by rw[W.s1,hA];exact fo _,W.t2,by rw[W.s2,(by cases B<;>simp at hw;rfl:B=[])];exact fo _,by rw[awq W,hA];exact fo _,W.ad (hn _)⟩
 refine⟨I,fun p=>?_,fun p=>?_,fun p=>?_,hn⟩
 .refine ab9 (key p) fun L U h1 h2 h3 h4 h5=>?_
  rw[(O p).1,(O p).2,h1,h2,h3];exact gj ..
 .refine ab9 (key p) fun L U h1 h2 h3 h4 h5=>?_
  exact h4▸h1
 .refine ab9 (key p) fun L U h1 h2 h3 h4 h5=>?_
  exact h4▸h5
structure yr(held:Hd->Int)(s:Nat->Int)(u:Pl->List Nat)(X:List Row)(st:St):Prop where
 nt:st.nt=[]
 sh:st.sh=[]
 q:∀p,st.q p=((u p++S X p).drop (T X p).length).map some
 bk:∀h,Bks (held h) s (hand h X) (st.bk h)
variable{X:List Row}{u:Pl->List Nat}
def bhs(J:yr held s u X st)(F:nu u (X++[r])):yr held s u (X++[r]) (step onto s st r.deed):=by
 obtain⟨d,p,m,e⟩:=r;induction d with
 |true=>
  refine⟨J.nt,J.sh,fun x=>?_,fun k=>arb (r:=⟨true,p,m,e⟩) J.bk st rfl k⟩
  show upd st.q p (st.q p++[some m]) x=_;rw[pz,px,vw,vu];by_cases hx:x=p
  .subst hx;rw[ic,J.q];simp only[and_self,if_true,at5,false_and,if_false,fo];rw[<-gj,anh ((fun p=>(F X (wx _ _) p).length_le:∀p,(T X p).length<=(u p++S X p).length) x)];simp
  .rw[jd hx,J.q];simp[g7 hx]
 |false=>
  have hp:=F (X++[⟨false,p,m,e⟩]) (List.prefix_refl _) p;rw[pz,px,vw,vu]at hp;simp only[and_self,if_true,ue,false_and,if_false,fo]at hp;obtain⟨z,hz⟩:=hp;have hq:st.q p=some m::z.map some:=by
   rw[J.q,<-hz,gj];simp
  have hst:step onto s st (Row.deed ⟨false,p,m,e⟩)=tkS onto s st p m (z.map some):=s9 hq;refine hst▸?_;refine⟨J.nt,J.sh,fun x=>?_,fun k=>arb (r:=⟨false,p,m,e⟩) J.bk st rfl k⟩
  show upd st.q p (z.map some) x=_;rw[pz,px,vw,vu];by_cases hx:x=p
  .subst hx;rw[ic];simp only[and_self,if_true,ue,false_and,if_false,fo];rw[<-hz];simp
  .rw[jd hx,J.q];simp[g7 hx]
variable{Z:List Row}
def bht:∀{X:List Row} {st:St},yr held s u X st->nu u (X++Z)->yr held s u (X++Z) (run onto s st (Z.map Row.deed)):=by
 induction Z with
 |nil=>intro X st J _;rw[fo];exact J
 |cons r Z ih=>
  intro X st J F;have F':nu u ((X++[r])++Z):=by simpa using F
  have:=ih (bhs (onto:=onto) J fun Y hY=>F' Y (hY.trans (wx _ _))) F'
  show yr held s u (X++r::Z) (run onto s (step onto s st r.deed) (Z.map Row.deed));simpa using this
def again(F:nu u X):yr held s u X (run onto s (init held u) (X.map Row.deed)):=by
 have:=bht (onto:=onto) (held:=held) (s:=s) (u:=u) (X:=[]) (Z:=X) (st:=init held u) ⟨rfl,rfl,fun p=>by simp[init,S,T],fun h=>Bks.nil⟩ F
 assumption
noncomputable def bal:Nat->List Bool->Option Nat
 |d,[]=>some d
 |d,true::l=>bal (d+1) l
 |0,false::_=>none
 |d+1,false::l=>bal d l
def ac4{d:_}:bal d []=some d:=rfl
def ac3{d l:_}:bal d (true::l)=bal (d+1) l:=rfl
def ac2{zz}:bal 0 (false::zz)=none:=rfl
def ac1{d l:_}:bal (d+1) (false::l)=bal d l:=rfl
def a3o{a b:List Bool}:∀{d:Nat},bal d (a++b)=(bal d a).bind fun d=>bal d b:=by
 induction a with
 |nil=>intro d;rfl
 |cons x a ih=>
  intro d;induction x with
  |true=>simpa[ac4,ac3,ac2,ac1]using ih
  |false=>induction d with
   |zero=>rfl
   |succ d=>simpa[ac4,ac3,ac2,ac1]using ih
noncomputable def sgn(X:List Row)(p:Pl):List Bool:=(X.filter fun r=>decide (r.p=p)).map (·.snd)
def bgz:∀{X:List Row},bal 0 (sgn X p)=some ((S X p).length - (T X p).length)->nu (fun _=>[]) (X++Z)->bal 0 (sgn (X++Z) p)=some ((S (X++Z) p).length - (T (X++Z) p).length):=by
 induction Z with
 |nil=>intro X h _;rw[fo];exact h
 |cons r Z ih=>
  intro X h F;have e:X++r::Z=(X++[r])++Z:=by simp
  rw[e];refine ih ?_ (e▸F);have h1:=(F X (wx _ _) p).length_le;have h2:=(F (X++[r]) (by rw[e];exact wx _ _) p).length_le
  have hs:sgn (X++[r]) p=sgn X p++if r.p=p then [r.snd]else []:=by
   unfold sgn;rw[abn,ei];by_cases hp:r.p=p<;>simp[hp]
  rw[hs,a3o,h];rw[pz,px,vw,vu]at h2 |-;obtain⟨d,q,m,e'⟩:=r;by_cases hp:q=p
  .induction d with
   |true=>simp[hp,ac4,ac3,ac2,ac1]at h1 h2 |-;exact O.ck [_,_] [.le .x1 .x0] (.eq (.a (.s .x0 .x1) (.c 1)) (.s (.a .x0 (.c 1)) .x1)) 181010981018100199810181198181999 rfl h1
   |false=>
    simp[hp]at h1 h2 |-;obtain⟨k,hk⟩:∃k,(S X p).length - (T X p).length=k+1:=⟨(S X p).length - (T X p).length - 1,O.a97 h2⟩;rw[hk];simp[ac4,ac3,ac2,ac1];exact O.ck [_,_,_] [.le (.a .x2 (.c 1)) .x1,.eq (.s .x1 .x2) (.a .x0 (.c 1))] (.eq .x0 (.s .x1 (.a .x2 (.c 1)))) 18100981008100998181000109810018101999 rfl h2 hk
  .simp[hp,ac4,ac3,ac2,ac1]
def bgy(F:nu (fun _=>[]) X):bal 0 (sgn X p)=some ((S X p).length - (T X p).length):=by
 have:=bgz (p:=p) (X:=[]) (Z:=X) rfl F
 assumption
def bg0:∀d,bal d (k9 n false)=if n<=d then some (d - n)else none:=by
 induction n with
 |zero=>intro d;rfl
 |succ n ih=>
  intro d;induction d with
  |zero=>rfl
  |succ d=>simp only[abq,ac4,ac3,ac2,ac1,ih];simp
def bc0(X:List Row):(hand 0 X++hand 1 X++hand 2 X).Perm X:=by
 induction X with
 |nil=>exact .refl _
 |cons r X ih=>
  have c:∀h,hand h (r::X)=if r.hand=h then r::hand h X else hand h X:=fun h=>by
   by_cases e:r.hand=h<;>simp[hand,e]
  rw[c,c,c];clear c;generalize r.hand=k;refine c3 (P:=fun k=>((if k=0 then r::hand 0 X else hand 0 X)++(if k=1 then r::hand 1 X else hand 1 X)++(if k=2 then r::hand 2 X else hand 2 X)).Perm (r::X)) ?_ ?_ ?_ k
  .exact ih.cons r
  .refine .trans ?_ (ih.cons r);show(hand 0 X++r::hand 1 X++hand 2 X).Perm _;rw[gj,gj];exact ath
  .exact(ath (l₁:=hand 0 X++hand 1 X) (l₂:=hand 2 X) (a:=r)).trans (ih.cons r)
def a7g(X:List Row)(h:Hd):(hand h (pres X)++hand h (posts X)).Perm (hand h X):=by
 refine aqa.symm▸?_;have:(pres X++posts X).Perm X:=avh _ _;exact this.filter _
end
section
open Mine.L
noncomputable def hl:Hd->List Nat|0=>[97]|1=>[98]|2=>[99]
noncomputable def pl:Pl->List Nat|0=>[97,98]|1=>[97,99]|2=>[98,97]|3=>[98,99]|4=>[99,97]|5=>[99,98]
noncomputable def hs(h:Hd):Str:=mkS (hl h)
noncomputable def ps(p:Pl):Str:=mkS (pl p)
def a1h:∀a b:Hd,hl a=hl b->a=b:=by decide
def aos:∀a b:Pl,pl a=pl b->a=b:=by decide
def ku{a b:Hd}:hs a=hs b↔a=b:=⟨fun h=>a1h a b (afd.mp h),fun h=>by rw[h]⟩
def aiy{a b:Pl}:ps a=ps b↔a=b:=⟨fun h=>aos a b (afd.mp h),fun h=>by rw[h]⟩
variable {K V:Type} [DecidableEq K] {e:K->Str} {f:V->D}
noncomputable def a8(e:K->Str)(f:V->D)(l:List (K×V)):List (Str×D):=l.map fun p=>(e p.1,f p.2)
noncomputable def dT(e:K->Str)(f:V->D)(l:List (K×V)):D:=.dict (a8 e f l)
def acw(he:∀{a b},e a=e b↔a=b){l:List (K×V)}{k:K}:jq (a8 e f l) (e k)=(look l k).map f:=by
 induction l with
 |nil=>rfl
 |cons a r ih=>
  obtain⟨x,y⟩:=a;show(if e x=e k then some (f y)else jq (a8 e f r) (e k))=(if x=k then some y else look r k).map f
  by_cases h:x=k
  .rw[if_pos (he.mpr h),if_pos h];rfl
  .rw[if_neg fun q=>h (he.mp q),if_neg h,ih]
def acs(he:∀{a b},e a=e b↔a=b){l:List (K×V)}{k:K}{v:V}:fx (a8 e f l) (e k) (f v)=a8 e f (put l k v):=by
 have hany:(a8 e f l).any (fun kv=>decide (kv.1=e k))=l.any (fun kv=>decide (kv.1=k)):=by
  unfold a8;rw[List.any_map];congr 1;funext a;simp only[al1];by_cases h:a.1=k
  .rw[decide_eq_true h,decide_eq_true (he.mpr h)]
  .rw[decide_eq_false h,decide_eq_false fun q=>h (he.mp q)]
 unfold fx put;rw[hany];split
 .unfold a8;rw[b5,b5];apply j3;intro a _;simp only[al1];by_cases h:a.1=k
  .rw[if_pos h,if_pos (he.mpr h)]
  .rw[if_neg h,if_neg fun q=>h (he.mp q)]
 .simp[a8]
end
section
open Mine.L
def axf{l:List Hd}(h:l.Nodup):l.length<=3:=by
 have p:l.Perm (([0,1,2]:List Hd).filter fun x=>decide (x∈l)):=(ane h (a4t _ (by decide))).mpr fun a=>by
  rw[q7];exact⟨fun ha=>⟨(by decide:∀a:Hd,a∈([0,1,2]:List Hd)) a,decide_eq_true ha⟩,fun h=>of_decide_eq_true h.2⟩
 rw[p.length_eq];exact jv _ _
def axe{V:Type}{l:List (Hd×V)}(h:(l.map (·.1)).Nodup):l.length<=3:=by have:=axf h;simpa using this
inductive bh (r:Option Out) (P:PS->Prop):Prop
 |mk (σ':PS) (h:r=some (.next σ')) (p:P σ')
theorem afn{α S:Type}{b:D->PS->Option PS}{body:PS->Option Out}(toD:α->D)(At:PS->S->Prop)(step:S->α->S):∀{xs:List α},(∀σ s a,a∈xs->At σ s->∃σ1,b (toD a) σ=some σ1/\bh (body σ1) fun σ2=>At σ2 (step s a)) ->
  ∀{σ:PS} {s:S},At σ s->bh (lz b body (xs.map toD) σ) fun σ'=>At σ' (xs.foldl step s)
 |[],_,σ,s,h=>⟨σ,rfl,h⟩
 |x::xs,H,σ,s,h=>by
  obtain⟨σ1,h1,σ2,h2,h3⟩:=H σ s x (.head _) h;obtain⟨σ',h4,h5⟩:=afn toD At step (fun σ s a ha=>H σ s a (er _ ha)) h3
  refine⟨σ',?_,h5⟩;rw[ee,a1t,h1,ar,h2,ar];exact h4
def mh(x y:String)(a b:D)(σ:PS):cz [x,y] (.tup [a,b]) σ=some ((σ.set x a).set y b):=rfl
def af7(x:Str):b7 (.hstr x)=some x:=rfl
variable{d:D}{f:PS->Option D}{k:Str}{kvs:List (Str×D)}{x:String}{σ:PS}
def zg{fi:PS->Option D}{F:PS->Option Out}{kd:D}(ho:σ.own x=some (.dict kvs))(hd:f σ=some d)(hk:fi σ=some kd)(hs:b7 kd=some k)(hz:kvs.length<=sizeLine) :
  ag (jj x fi f) F σ=F (σ.setOwn x (.dict (fx kvs k d))):=by
 simp only[ag,jj,hd,hk,hs,ho,ar,mn];rw[if_pos hz];rfl
variable{op:D->D->Option D}
def an4{fi:PS->Option D}{F:PS->Option Out}{kd a r:D}(ho:σ.own x=some (.dict kvs))(hk:fi σ=some kd)(hs:b7 kd=some k)(ha:jq kvs k=some a)(hd:f σ=some d)(hr:op a d=some r)(hz:kvs.length<=sizeLine) :
  ag (m6 x op fi f) F σ=F (σ.setOwn x (.dict (fx kvs k r))):=by
 simp only[ag,m6,hd,hk,hs,ho,ha,hr,ar,mn];rw[if_pos hz];rfl
def vc{F:PS->Option Out}{l:List D}(ho:σ.own x=some (.list l))(hd:f σ=some d)(hz:l.length<sizeLine) :
  ag (jr x f) F σ=F (σ.setOwn x (.list (l++[d]))):=by
 simp only[ag,jr,hd,ho,ar,jg];rw[if_pos hz];rfl
def an5{F:PS->Option Out}{a r:D}(ha:σ.vars x=some a)(hd:f σ=some d)(hr:op a d=some r):ag (r9 x op f) F σ=F (σ.set x r):=by
 simp only[ag,r9,ha,hd,hr,ar,bt]
def aes{xs:List String}{fs:List (PS->Option fc)}{F:PS->Option Out}{ds:List fc}(h:evM fs σ=some ds)(hl:ds.length=xs.length):ag (f7 xs fs) F σ=F (σ.puts (xs.zip ds)):=by
 simp only[ag,f7,h,ar,hl,if_true]
def c5{f₁ f₂:PS->Option D}{k:D}(h1:f₁ σ=some d)(h2:f₂ σ=some k):sub f₁ f₂ σ=g8 d k:=by simp only[sub,bin,h1,h2,ar]
variable {V:Type} {f:V->D} {op:V->V->V}
noncomputable abbrev dH(f:V->D)(l:List (Hd×V)):D:=dT hs f l
def azb(f:V->D)(l:List (Hd×V)):th (a8 hs f l)=l.map fun p=>D.tup [.str (hs p.1),f p.2]:=by unfold th a8;rw[b5];rfl
def a16(H:∀o n,(aab (f n)=some true/\anp (f n) (f o)=some (f (op o n)))\/(aab (f n)=some false/\jo (f o) (f n)=some (f (op o n))))(A B:List (Hd×V)) :
  oh [dH f A,dH f B]=some (dH f (addT op A B)):=by
 have key:akx (cq ["target", "source"] [dH f A,dH f B])=some (.ret (dH f (addT op A B))):=by
  unfold akx;have v0:(cq ["target", "source"] [dH f A,dH f B]).vars "target" = some (dH f A):=rfl;have v1:(cq ["target", "source"] [dH f A,dH f B]).vars "source" = some (dH f B):=rfl;generalize cq ["target", "source"] [dH f A,dH f B]=σ at v0 v1;rw[td (d:=.dict []) rfl]
  let At:PS->List (Hd×V)->Prop:=fun σ T=>σ.own "new_callers" = some (.dict (a8 hs f T))/\(T.map (·.1)).Nodup/\σ.vars "source" = some (dH f B)
  have szT:∀{T:List (Hd×V)},(T.map (·.1)).Nodup->(a8 hs f T).length<=sizeLine:=fun h=>by
   rw[et];unfold a8;rw[b8];exact aw (axe h) (by decide)
  have put_step:∀(σ:PS) (T:List (Hd×V)) (k:Hd) (v:V),At σ T->At (σ.setOwn "new_callers" (.dict (fx (a8 hs f T) (hs k) (f v)))) (put T k v):=fun σ T k v ⟨ha,hk,hs'⟩=>
   ⟨by rw[ab2,if_pos rfl,acs ku],ajs hk,hs'⟩
  have set_step:∀(σ:PS) (T:List (Hd×V)) (a b:D),At σ T->At ((σ.set "func" a).set "caller" b) T:=fun σ T a b ⟨ha,hk,hs'⟩=>⟨ha,hk,hs'⟩
  obtain⟨σ1,h1,A1⟩:=afn (b:=cz ["func", "caller"]) (body:=ag (jj "new_callers" (var "func") (var "caller")) nxt) (fun p:Hd×V=>D.tup [.str (hs p.1),f p.2]) At (fun T p=>put T p.1 p.2) (xs:=A)
   (fun σ T p _ a0=>by
    have a1:=set_step σ T (.str (hs p.1)) (f p.2) a0;exact⟨_,mh _ _ _ _ _,_,zg (k:=hs p.1) (d:=f p.2) a1.1 rfl rfl rfl (szT a1.2.1),put_step _ T p.1 p.2 a1⟩) (σ:=σ.setOwn "new_callers" (.dict [])) (s:=[]) ⟨rfl,qb,v1⟩
  rw[aio (ds:=A.map fun p=>D.tup [.str (hs p.1),f p.2]) (by
   show(σ.vars "target").bind aky=_;rw[v0];exact congrArg some (azb f A)) h1]
  obtain⟨σ2,h2,A2⟩:=afn (b:=cz ["func", "caller"]) (body:=ag (ifF (cmp inD (var "func") (aa "new_callers")) (ag (ifF (toB (ofB (tst aab (var "caller")))) (ag (jj "new_callers" (var "func") (zc (var "caller") (sub (aa "new_callers") (var "func")))) nxt) (ag (m6 "new_callers" jo (var "func") (var "caller")) nxt)) nxt) (ag (jj "new_callers" (var "func") (var "caller")) nxt)) nxt)
   (fun p:Hd×V=>D.tup [.str (hs p.1),f p.2]) At (vq op) (xs:=B)
   (fun σ T p _ a0=>by
    have a1:=set_step σ T (.str (hs p.1)) (f p.2) a0;have w1:((σ.set "func" (.str (hs p.1))).set "caller" (f p.2)).vars "func" = some (.str (hs p.1)):=rfl;have w2:((σ.set "func" (.str (hs p.1))).set "caller" (f p.2)).vars "caller" = some (f p.2):=rfl;have hb:=mh "func" "caller" (.str (hs p.1)) (f p.2) σ;refine⟨(σ.set "func" (.str (hs p.1))).set "caller" (f p.2),?_⟩;generalize(σ.set "func" (.str (hs p.1))).set "caller" (f p.2)=τ at a1 w1 w2 hb |-;have hin:cmp inD (var "func") (aa "new_callers") τ=some (look T p.1).isSome:=by
     simp only[cmp,var,aa,w1,a1.1,ar,asz];exact(congrArg (fun o:Option D=>some o.isSome) (acw ku)).trans (congrArg some Option.isSome_map)
    unfold vq;cases hl:look T p.1 with
    |none=>
     rw[hl]at hin;refine⟨hb,_,?_,put_step _ T p.1 p.2 a1⟩;rw[qs hin,if_neg (by simp)]
     show(ag (ag (jj _ _ _) nxt) nxt τ)=_;unfold ag at *;have:=zg (F:=nxt) (k:=hs p.1) (d:=f p.2) (fi:=var "func") (f:=var "caller") a1.1 w2 w1 rfl (szT a1.2.1);unfold ag at this;rw[this];rfl
    |some v=>
     rw[hl]at hin;refine⟨hb,_,?_,put_step _ T p.1 (op v p.2) a1⟩;rw[qs hin,if_pos (by rfl)]
     rcases H v p.2 with⟨t1,t2⟩|⟨t1,t2⟩
     .have ht:toB (ofB (tst aab (var "caller"))) τ=some true:=by simp only[toB,ofB,tst,var,w2,ar,t1,bt]
      have hs1:zc (var "caller") (sub (aa "new_callers") (var "func")) τ=some (f (op v p.2)):=by
       have hg:g8 (.dict (a8 hs f T)) (.str (hs p.1))=some (f v):=(acw ku).trans (congrArg (o9 f) hl);simp only[zc,bin,var,sub,aa,w1,w2,a1.1,ar,asz,hg,t2]
      have:=zg (F:=nxt) (k:=hs p.1) (fi:=var "func") a1.1 hs1 w1 rfl (szT a1.2.1);have e2:=qs (a:=ag (jj "new_callers" (var "func") (zc (var "caller") (sub (aa "new_callers") (var "func")))) nxt) (b:=ag (m6 "new_callers" jo (var "func") (var "caller")) nxt) (F:=nxt) ht;rw[if_pos rfl]at e2;unfold ag at *;rw[e2,this];rfl
     .have ht:toB (ofB (tst aab (var "caller"))) τ=some false:=by simp only[toB,ofB,tst,var,w2,ar,t1,bt]
      have:=an4 (F:=nxt) (k:=hs p.1) (fi:=var "func") (f:=var "caller") (op:=jo) (a:=f v) (r:=f (op v p.2)) a1.1 w1 rfl (by rw[acw ku,hl];rfl) w2 t2 (szT a1.2.1)
      have e2:=qs (a:=ag (jj "new_callers" (var "func") (zc (var "caller") (sub (aa "new_callers") (var "func")))) nxt) (b:=ag (m6 "new_callers" jo (var "func") (var "caller")) nxt) (F:=nxt) ht;rw[if_neg (by decide)]at e2
      unfold ag at *;rw[e2,this];rfl) (σ:=σ1) (s:=A.foldl (fun T p=>put T p.1 p.2) []) A1
  rw[aio (ds:=B.map fun p=>D.tup [.str (hs p.1),f p.2]) (by
   show(σ1.vars "source").bind aky=_;rw[A1.2.2];exact congrArg some (azb f B)) h2]
  rw[og A2.1];exact n7 rfl
 unfold oh fnF;rw[key];rfl
end
section
open Mine.L
noncomputable def bkD(b:Bk):D:=.tup [.int b.n,.int b.m,.int b.s,.int b.t,dH .int b.tb]
noncomputable def qD(q:uc):D:=.tup [.int q.a,.int q.b,.int q.c,.int q.d]
def bhx(A B:List (Hd×Int)):oh [dH .int A,dH .int B]=some (dH .int (addT aew A B)):=a16 (fun _ _=>.inr ⟨rfl,rfl⟩) A B
def bhw(A B:List (Hd×uc)):oh [dH qD A,dH qD B]=some (dH qD (addT qplus A B)):=a16 (fun _ _=>.inl ⟨rfl,rfl⟩) A B
def arc(x1 x2 x3 x4 x5:String)(a b c d e:D)(σ:PS):cz [x1,x2,x3,x4,x5] (.tup [a,b,c,d,e]) σ=some (((((σ.set x1 a).set x2 b).set x3 c).set x4 d).set x5 e):=rfl
variable{a:D}{σ:PS}
def aw8{f g h i j:PS->Option D}{b c d e:D}(h1:f σ=some a)(h2:g σ=some b)(h3:h σ=some c)(h4:i σ=some d)(h5:j σ=some e):tup [f,g,h,i,j] σ=some (.tup [a,b,c,d,e]):=by
 simp only[tup,cn,b0,h1,h2,h3,h4,h5];rfl
def aj4(x y:Bk):f_stats [bkD x,bkD y]=some (bkD (pf x y)):=by
 have key:akp oh (cq ["target", "source"] [bkD x,bkD y])=some (.ret (bkD (pf x y))):=by
  unfold akp;rw[aip (d:=bkD y) rfl (arc _ _ _ _ _ _ _ _ _ _ _),aip (d:=bkD x) rfl (arc _ _ _ _ _ _ _ _ _ _ _)];refine n7 ?_;exact aw8 rfl rfl rfl rfl (bhx x.tb y.tb)
 unfold f_stats fnF;rw[key];rfl
def bdz(T:List (Hd×Int)):f_count [dH .int T]=some (.int ((T.map (·.2)).sum)):=by
 have key:akv (cq ["callers"] [dH .int T])=some (.ret (.int ((T.map (·.2)).sum))):=by
  unfold akv;have v0:(cq ["callers"] [dH .int T]).vars "callers" = some (dH .int T):=rfl;generalize cq ["callers"] [dH .int T]=σ at v0;rw[jm (d:=.int 0) rfl];obtain⟨σ',h1,h2⟩:=afn (b:=ax "calls") (body:=ag (r9 "nc" jo (var "calls")) nxt) (fun p:Hd×Int=>D.int p.2) (fun σ n=>σ.vars "nc" = some (.int n)) (fun n p=>n+p.2) (xs:=T)
   (fun σ n p _ h=>⟨_,rfl,_,an5 (a:=.int n) (d:=.int p.2) (r:=.int (n+p.2)) h rfl rfl,rfl⟩) (σ:=σ.set "nc" (.int 0)) (s:=0) rfl
  rw[aio (ds:=T.map fun p=>D.int p.2) (by
   show(σ.vars "callers").bind a3x=_;rw[v0];show some ((a8 hs D.int T).map (·.2))=_;unfold a8;rw[b5];rfl) h1]
  have e:∀(T:List (Hd×Int)) (n:Int),T.foldl (fun n p=>n+p.2) n=n+(T.map (·.2)).sum:=by
   intro T;induction T with
   |nil=>intro n;simp
   |cons a T ih=>intro n;rw[q8,ih];simp;exact my ..
  rw[e,aa7]at h2;exact n7 h2
 unfold f_count fnF;rw[key];rfl
noncomputable def kL:Bool->List Nat|true=>[115,101,110,100]|false=>[116,97,107,101]
def ach:aj "send" = mkS (kL true):=by rw[j4];rfl
def z9:aj "take" = mkS (kL false):=by rw[j4];rfl
noncomputable def bz(b:Bool)(r:Row):D:=.tup (dS (kL r.snd)::dS (pl r.p)::.int r.m::if b then [.bool r.pre]else [])
noncomputable def pls:List Pl:=[0,1,2,3,4,5]
noncomputable def d8(m:Nat):D:=.int (m:Int)
def afg(a b:Bool):(kL a==kL b)=(a==b):=by cases a<;>cases b<;>rfl
def ay2(a b:Pl):(pl a==pl b)=decide (a=b):=by
 by_cases h:a=b
 .subst h;simp
 .rw[decide_eq_false h,beq_eq_false_iff_ne];exact fun e=>h (aos a b e)
def afj(a b:Hd):(hl a==hl b)=decide (a=b):=by
 by_cases h:a=b
 .subst h;simp
 .rw[decide_eq_false h,beq_eq_false_iff_ne];exact fun e=>h (a1h a b e)
def afq(a b:List Nat):eqD (dS a) (dS b)=some (a==b):=by show eqD (.str _) (.str _)=_;rw[aai,nf]
def beb(a b c d:List Nat):eqD (.tup [dS a,dS b]) (.tup [dS c,dS d])=some (a==c && b==d):=by
 show some ((mkS a==mkS c && (mkS b==mkS d && true)) && true)=_;rw[nf,nf];simp
def a8i(b:Bool)(r:Row):jl (bz b r) none (some 2) none=some (.tup [dS (kL r.snd),dS (pl r.p)]):=by
 cases b<;>rfl
def n8(b:Bool)(r:Row):g8 (bz b r) (.int 0)=some (dS (kL r.snd))/\g8 (bz b r) (.int 1)=some (dS (pl r.p))/\g8 (bz b r) (.int 2)=some (d8 r.m):=by
 cases b<;>exact⟨rfl,rfl,rfl⟩
def a0w:∀σ,lst [(kD (.str "ab")),(kD (.str "ac")),(kD (.str "ba")),(kD (.str "bc")),(kD (.str "ca")),(kD (.str "cb"))] σ=some (.list (pls.map fun p=>dS (pl p))):=fun σ=>by
 show some (D.list [.str (aj "ab"),.str (aj "ac"),.str (aj "ba"),.str (aj "bc"),.str (aj "ca"),.str (aj "cb")])=_;rw[lit "ab",lit "ac",lit "ba",lit "bc",lit "ca",lit "cb"];rfl
noncomputable def onL(k:Bool)(X:List Row)(p:Pl):List Nat:=if k then S X p else T X p
def a13(b k:Bool)(X:List Row)(hX:X.length<=100000):f_on [.list (X.map (bz b)),dS (kL k)]=some (.list (pls.map fun p=>.list ((onL k X p).map d8))):=by
 have key:akt (cq ["log", "kind"] [.list (X.map (bz b)),dS (kL k)])=some (.ret (.list (pls.map fun p=>.list ((onL k X p).map d8)))):=by
  unfold akt;refine n7 ?_;refine fw (fun p=>dS (pl p)) (fun p=>.list ((onL k X p).map d8)) (xs:=pls) (by unfold au;rw[a0w];rfl) (by decide) fun p _=>⟨_,rfl,?_⟩
  have h:=r0 (fs:=["kind", "place"]) (b:=ax "row") (f:=sub (aa "row") (kD (.int 2))) (ts:=cmp eqD (sl (aa "row") pN (pI (kD (.int 2))) pN) (tup [(var "kind"),(var "place")])) (F:=au (var "log"))
   (σ:=((cq ["log", "kind"] [.list (X.map (bz b)),dS (kL k)]).only ["log", "kind"]).set "place" (dS (pl p))) (bz b) (fun r=>r.snd==k && decide (r.p=p)) (fun r=>d8 r.m) (xs:=X) rfl (aw (by assumption) (by decide)) (fun r _=>⟨_,rfl,?_,fun _=>?_⟩)
  .rw[h]
   congr 2
   have e:(X.filter (fun r=>r.snd==k && decide (r.p=p))).map (·.m)=onL k X p:=by
    unfold onL S T;cases k<;>simp
   rw[<-e,b5];rfl
  .have e:sl (aa "row") pN (pI (kD (.int 2))) pN (((((cq ["log", "kind"] [.list (X.map (bz b)),dS (kL k)]).only ["log", "kind"]).set "place" (dS (pl p))).only ["kind", "place"]).set "row" (bz b r))=some (.tup [dS (kL r.snd),dS (pl r.p)]):=a8i b r;unfold cmp;rw[e,ar];show eqD (.tup [dS (kL r.snd),dS (pl r.p)]) (.tup [dS (kL k),dS (pl p)])=_;rw[beb,afg,ay2]
  .exact(n8 b r).2.2
 unfold f_on fnF;rw[key];rfl
def ajm:iu (aj "abc")=([0,1,2]:List Hd).map fun h=>dS (hl h):=by rw[lit "abc"];rfl
variable{V:Type}
def xt{K:Type}[DecidableEq K]{e:K->Str}{f:V->D}(he:∀{a b},e a=e b↔a=b)(l:List (K×V)):xu (a8 e f l)=a8 e f (puts [] l):=by
 have:∀(l:List (K×V)) (m:List (K×V)),(a8 e f l).foldl (fun kvs p=>fx kvs p.1 p.2) (a8 e f m)=a8 e f (puts m l):=by
  intro l;induction l with
  |nil=>intro m;rfl
  |cons a l ih=>
   intro m;show(a8 e f l).foldl (fun kvs p=>fx kvs p.1 p.2) (fx (a8 e f m) (e a.1) (f a.2))=_
   rw[acs he,ih];rfl
 exact this l []
variable{α:Type}
def apr{K:Type}[DecidableEq K](key:α->K)(F:K->V)(k:K):∀(l:List α) (m:List (K×V)),look (puts m (l.map fun a=>(key a,F (key a)))) k=if k∈l.map key then some (F k)else look m k:=by
 intro l;induction l with
 |nil=>intro m;rfl
 |cons a l ih=>
  intro m;show look (puts (put m (key a) (F (key a))) (l.map fun a=>(key a,F (key a)))) k=_
  rw[ih,aps];by_cases h1:k∈l.map key
  .rw[if_pos h1,if_pos (by simp at h1 |-;exact .inr h1)]
  .rw[if_neg h1];by_cases h2:k=key a
   .rw[if_pos h2,if_pos (by simp[h2]),h2]
   .rw[if_neg h2,if_neg];intro h;simp at h1 h;rcases h with h|h
    .exact h2 h
    .obtain⟨x,hx,e⟩:=h;exact h1 x hx e
def apz{K:Type}[DecidableEq K]:∀(l m:List (K×V)),(m.map (·.1)).Nodup->((puts m l).map (·.1)).Nodup:=by
 intro l;induction l with
 |nil=>intro m h;exact h
 |cons a l ih=>intro m h;exact ih _ (ajs h)
def vg:∀p:Pl,g8 (dS (pl p)) (.int 0)=some (.hstr (hs (g p)))/\g8 (dS (pl p)) (.int 1)=some (.hstr (hs (t p)))/\g8 (dS (pl p)) (.int (-1))=some (.hstr (hs (t p)))
 |0=>⟨rfl,rfl,rfl⟩|1=>⟨rfl,rfl,rfl⟩|2=>⟨rfl,rfl,rfl⟩|3=>⟨rfl,rfl,rfl⟩|4=>⟨rfl,rfl,rfl⟩|5=>⟨rfl,rfl,rfl⟩
noncomputable def sOf(L:List Int)(m:Nat):Int:=(L[m]?).getD 0
variable{m:Nat}
def afl{l:List D}{d:D}(h:l[m]?=some d)(hz:m<1000000):g8 (.list l) (.int (m:Int))=some d:=by
 unfold g8;rw[if_pos (by unfold ae3;exact decide_eq_true (aud (mx.2 hz) (by decide+kernel):(m:Int)<2 ^ 63):ae3 (.int (m:Int))=true)]
 show(if(0:Int)<=(m:Int)then l[(m:Int).toNat]? else none)=_
 rw[if_pos (uf _),abl,h]
def aih(L:List Int)(m:Nat)(h:m<L.length)(h2:L.length<=1000):g8 (.list (L.map .int)) (d8 m)=some (.int (sOf L m)):=by
 refine afl ?_ (O.az4 h h2);rw[abk];delta sOf;rw[gq h];rfl
def bcl(xs:List Int):tl (xs.map .int)=some xs:=by
 induction xs with
 |nil=>rfl
 |cons x xs ih=>show(tl (xs.map .int)).map (x::·)=_;rw[ih];rfl
def rq(xs:List Int):eg [.list (xs.map .int)]=some (.int xs.sum):=by show(tl _).map _=_;rw[bcl];rfl
def iw{t u:PS->Option Bool}{a b:Bool}(h1:t σ=some a)(h2:u σ=some b):bx t u σ=some (a && b):=by
 delta bx;rw[h1,ar];cases a<;>simp[h2]
variable{c:Bool}
def cmp_at{F:D->D->Option Bool}{f₁ f₂:PS->Option D}{b:D}(h1:f₁ σ=some a)(h2:f₂ σ=some b)(h:F a b=some c):cmp F f₁ f₂ σ=some c:=by
 delta cmp;rw[h1,ar,h2,ar,h]
def xv{fs:List String}{F:PS->Option (List D)}{b:D->PS->Option PS}{ts:PS->Option Bool}{fk fv:PS->Option D}(toD:α->D)(p:α->Bool)(k:α->Str)(o:α->D){xs:List α}
  (hF:F σ=some (xs.map toD)) (hl:xs.length<=16777216) (h:∀x∈xs,∃σ',b (toD x) (σ.only fs)=some σ'/\ts σ'=some (p x)/\(p x=true->∃kd,fk σ'=some kd/\b7 kd=some (k x)/\fv σ'=some (o x))) :
  i4 fs F b ts fk fv σ=some (.dict (xu ((xs.filter p).map fun x=>(k x,o x)))):=by
 delta i4;rw[hF,ar,if_pos (by rw[et];simpa using hl)]
 rw[aqz toD p (fun x=>(k x,o x)) fun x hx=>by
  obtain⟨σ',h1,h2,h3⟩:=h x hx;refine⟨σ',h1,h2,fun hp=>?_⟩
  obtain⟨kd,k1,k2,k3⟩:=h3 hp;delta aow;rw[k1,ar,k2,ar,k3];rfl]
 rfl
def xp(l:List α):l.filter (fun _=>true)=l:=auf.mpr (by simp)
def zh{G:PS->Option (List D)}{b:D->PS->Option PS}{B F:PS->Option Out}{ds:List D}{P:PS->Prop}{r:Option Out}(h:G σ=some ds)(H:bh (lz b B ds σ) P)(k:∀σ',P σ'->F σ'=r):ag (i8 G b B) F σ=r:=by
 obtain⟨σ',h1,h2⟩:=H;exact(aio h h1)▸(k σ' h2)
noncomputable def kz(s:Nat->Int)(r:Row):D:=.tup [.hstr (hs (g r.p)),.int (s r.m)]
noncomputable def tB(s:Nat->Int)(held:Hd->Int)(X:List Row)(h:Hd):Bk:=
 ⟨(ups (hand h X)).length,(bq (hand h X)).length,held h - c9 s (ups (hand h X))+c9 s (bq (hand h X)),c9 s (bq (hand h X)),
  puts [] ((bq (hand h X)).map fun r=>(g r.p,c9 s (dk (hand h X) (g r.p))))⟩
def axm(s:Nat->Int)(held:Hd->Int)(X:List Row)(h:Hd):Bks (held h) s (hand h X) (tB s held X h) where
 n:=rfl
 m:=rfl
 s:=rfl
 t:=rfl
 keys:=apz _ _ qb
 tab:=fun k=>by
  show look (puts [] _) k=_;rw[apr (fun r:Row=>g r.p) (fun k=>c9 s (dk (hand h X) k)) k]
  delta n5;have:k∈(bq (hand h X)).map (fun r=>g r.p)↔(dk (hand h X) k).isEmpty=false:=by
   delta bq dk;generalize hand h X=Y;induction Y with
   |nil=>simp
   |cons r Y ih=>
    refine if h1:r.snd=true then ?_ else ?_
    .simpa[h1]using ih
    .refine if h2:g r.p=k then ?_ else ?_
     .simp[h1,h2]
     .simp[h1,h2,g7 h2]at ih |-;exact ih
  refine if hk:k∈(bq (hand h X)).map (fun r=>g r.p)then ?_ else ?_
  .rw[if_pos hk,this.mp hk];rfl
  .refine(if_neg hk)▸?_;have:(dk (hand h X) k).isEmpty=true:=by
    cases hq:(dk (hand h X) k).isEmpty with
    |true=>rfl
    |false=>exact absurd (this.mpr hq) hk
   rw[this];rfl
noncomputable def told(s:Nat->Int)(held:Hd->Int)(X:List Row):List (Hd×Bk):=([0,1,2]:List Hd).map fun h=>(h,tB s held X h)
noncomputable def fg(held:Hd->Int):D:=.list (([0,1,2]:List Hd).map fun h=>.int (held h))
def ben{p s c:Int}{L:List D}(h1:σ.vars "purse" = some (.int p))(h2:σ.vars "gone" = some (.list L))(h3:eg [.list L]=some (.int s))(h4:σ.vars "came" = some (.int c)) :
  bin bb (bin subD (var "purse") (ao eg [(var "gone")])) (var "came") σ=some (.int (p - s+c)):=by
 simp only[bin,ao,cn,b0,var,h1,h2,h3,h4,ar,bt];rfl
def a1z(b:Bool)(L:List Int)(hL:L.length<=1000)(held:Hd->Int)(X:List Row)(hX:X.length<=100000)(hm:∀r∈X,r.m<L.length) :
  f_told [.list (X.map (bz b)),fg held,.list (L.map .int)]=some (dH bkD (told (sOf L) held X)):=by
 have key:akn (cq ["log", "held", "sums"] [.list (X.map (bz b)),fg held,.list (L.map .int)])=some (.ret (dH bkD (told (sOf L) held X))):=by
  delta akn;have v0:(cq ["log", "held", "sums"] [.list (X.map (bz b)),fg held,.list (L.map .int)]).vars "log" = some (.list (X.map (bz b))):=rfl;have v1:(cq ["log", "held", "sums"] [.list (X.map (bz b)),fg held,.list (L.map .int)]).vars "held" = some (fg held):=rfl;have v2:(cq ["log", "held", "sums"] [.list (X.map (bz b)),fg held,.list (L.map .int)]).vars "sums" = some (.list (L.map .int)):=rfl;generalize cq ["log", "held", "sums"] [.list (X.map (bz b)),fg held,.list (L.map .int)]=σ at v0 v1 v2;rw[td (d:=.dict []) rfl]
  let At:PS->List (Hd×Bk)->Prop:=fun σ T=>σ.own "books" = some (.dict (a8 hs bkD T))/\(T.map (·.1)).Nodup/\σ.vars "log" = some (.list (X.map (bz b)))/\σ.vars "sums" = some (.list (L.map .int))
  have szT:∀{T:List (Hd×Bk)},(T.map (·.1)).Nodup->(a8 hs bkD T).length<=sizeLine:=fun h=>by
   rw[et];delta a8;rw[b8];exact aw (axe h) (by decide)
  refine zh (P:=fun σ=>At σ (([0,1,2]:List Hd).foldl (fun T h=>put T h (tB (sOf L) held X h)) [])) (ds:=([0,1,2]:List Hd).map fun h=>D.tup [dS (hl h),.int (held h)]) ?_ (afn (fun h:Hd=>D.tup [dS (hl h),.int (held h)]) At (fun T h=>put T h (tB (sOf L) held X h)) (fun σ T h _ a0=>?_) ⟨rfl,qb,v0,v2⟩) ?_
  .show((σ.vars "held").bind jg).bind _=_;refine v1▸?_;show(if(aj "abc").cps.all (·<128)=true/\(iu (aj "abc")).length=_ then some (ro (iu (aj "abc")) _)else none)=_
   rw[ajm,if_pos ⟨by decide+kernel,rfl⟩];rfl
  rotate_left
  .intro σ' A1;exact(og A1.1)▸(n7 rfl)
  .
   obtain⟨a1,a2,a3,a4⟩:=a0;have sm:∀r∈X,g8 (.list (L.map .int)) (d8 r.m)=some (.int (sOf L r.m)):=fun r hr=>aih L r.m (hm r hr) hL
   refine⟨_,mh _ _ _ _ _,?_⟩
   .have g1:∀σ:PS,σ.vars "log" = some (.list (X.map (bz b)))->σ.vars "sums" = some (.list (L.map .int))->σ.vars "hand" = some (dS (hl h)) ->
      a7 ["hand", "sums"] (au (var "log")) (ax "row") (bx (cmp eqD (sub (aa "row") (kD (.int 0))) (kD (.str "send"))) (bx (cmp eqD (sub (sub (aa "row") (kD (.int 1))) (kD (.int 0))) (aa "hand")) tt)) (sub (aa "sums") (sub (aa "row") (kD (.int 2)))) σ=some (.list ((ups (hand h X)).map fun r=>.int (sOf L r.m))):=by
     intro σ s1 s2 s3;have e:ups (hand h X)=X.filter fun r=>(r.snd==true && (decide (g r.p=h) && true)):=by
      delta ups hand;refine ad9.symm▸?_;apply abg;intro r _;delta Row.hand;cases r.snd<;>simp
     refine e▸?_;refine r0 (bz b) _ (fun r=>.int (sOf L r.m)) (by delta au var;rw[s1];rfl) (aw (by assumption) (by decide)) fun r hr=>⟨_,rfl,?_,fun _=>?_⟩
     .refine iw (cmp_at (c5 rfl rfl |>.trans (n8 b r).1) rfl ?_) (iw (cmp_at ((c5 (c5 rfl rfl |>.trans (n8 b r).2.1) rfl).trans (vg r.p).1) (b:=dS (hl h)) ?_ ?_) rfl)
      .show eqD (dS _) (.str (aj "send"))=_;exact ach▸((afq _ _).trans (by rw[afg]))
      .exact s3
      .show some (mkS (hl (g r.p))==mkS (hl h))=_;rw[nf,afj]
     .refine(c5 (d:=.list (L.map .int)) (k:=d8 r.m) ?_ ((c5 rfl rfl).trans (n8 b r).2.2)).trans (sm r hr);exact s2
    have g2:∀σ:PS,σ.vars "log" = some (.list (X.map (bz b)))->σ.vars "sums" = some (.list (L.map .int))->σ.vars "hand" = some (dS (hl h)) ->
      a7 ["hand", "sums"] (au (var "log")) (ax "row") (bx (cmp eqD (sub (aa "row") (kD (.int 0))) (kD (.str "take"))) (bx (cmp eqD (sub (sub (aa "row") (kD (.int 1))) (kD (.int 1))) (aa "hand")) tt)) (tup [(sub (sub (aa "row") (kD (.int 1))) (kD (.int 0))),(sub (aa "sums") (sub (aa "row") (kD (.int 2))))]) σ=some (.list ((bq (hand h X)).map (kz (sOf L)))):=by
     intro σ s1 s2 s3;have e:bq (hand h X)=X.filter fun r=>(r.snd==false && (decide (t r.p=h) && true)):=by
      delta bq hand;refine ad9.symm▸?_;apply abg;intro r _;delta Row.hand;cases r.snd<;>simp
     refine e▸?_;refine r0 (bz b) _ (kz (sOf L)) (by delta au var;rw[s1];rfl) (aw (by assumption) (by decide)) fun r hr=>⟨_,rfl,?_,fun _=>?_⟩
     .refine iw (cmp_at (c5 rfl rfl |>.trans (n8 b r).1) rfl ?_) (iw (cmp_at ((c5 (c5 rfl rfl |>.trans (n8 b r).2.1) rfl).trans (vg r.p).2.1) (b:=dS (hl h)) ?_ ?_) rfl)
      .show eqD (dS _) (.str (aj "take"))=_;exact z9▸((afq _ _).trans (by rw[afg]))
      .exact s3
      .show some (mkS (hl (t r.p))==mkS (hl h))=_;rw[nf,afj]
     .have x1:=(c5 (f₁:=sub (aa "row") (kD (.int 1))) (f₂:=kD (.int 0)) (σ:=(σ.only ["hand", "sums"]).set "row" (bz b r)) (c5 rfl rfl |>.trans (n8 b r).2.1) rfl).trans (vg r.p).1;have x2:sub (aa "sums") (sub (aa "row") (kD (.int 2))) ((σ.only ["hand", "sums"]).set "row" (bz b r))=some (.int (sOf L r.m)):=by
       refine(c5 (d:=.list (L.map .int)) (k:=d8 r.m) ?_ ((c5 rfl rfl).trans (n8 b r).2.2)).trans (sm r hr);exact s2
      simp only[tup,cn,b0,x1,x2,ar,bt];rfl
    have g3:∀σ:PS,σ.vars "come" = some (.list ((bq (hand h X)).map (kz (sOf L))))->ao eg [(a7 [] (au (var "come")) (ax "row") tt (sub (aa "row") (kD (.int 1))))] σ=some (.int (c9 (sOf L) (bq (hand h X)))):=by
     intro σ s1;have e:=fw (fs:=[]) (F:=au (var "come")) (b:=ax "row") (f:=sub (aa "row") (kD (.int 1))) (σ:=σ) (kz (sOf L)) (fun r=>.int (sOf L r.m)) (xs:=bq (hand h X)) (by delta au var;rw[s1];rfl) (by
      have:(bq (hand h X)).length<=X.length:=aw (jv _ _) (jv _ _);exact aw this (aw hX (by decide))) fun r _=>⟨_,rfl,rfl⟩
     simp only[ao,cn,b0,e,ar,bt];have:=rq ((bq (hand h X)).map fun r=>sOf L r.m)
     rw[b5]at this;exact this
    have g4:∀σ:PS,σ.vars "come" = some (.list ((bq (hand h X)).map (kz (sOf L))))->i4 ["come"] (au (var "come")) (cz ["giver", "one"]) tt (var "giver") (ao eg [(a7 ["giver"] (au (var "come")) (ax "row") (cmp eqD (sub (aa "row") (kD (.int 0))) (aa "giver")) (sub (aa "row") (kD (.int 1))))]) σ=some (dH .int (tB (sOf L) held X h).tb):=by
     intro σ s1;have hlen:(bq (hand h X)).length<=X.length:=aw (jv _ _) (jv _ _);rw[xv (kz (sOf L)) (fun _=>true) (fun r=>hs (g r.p)) (fun r=>D.int (c9 (sOf L) (dk (hand h X) (g r.p)))) (xs:=bq (hand h X)) (by delta au var;rw[s1];rfl) (aw hlen (aw hX (by decide)))
      fun r _=>⟨_,mh _ _ _ _ _,rfl,fun _=>⟨_,rfl,rfl,?_⟩⟩]
     .rw[xp];have:((bq (hand h X)).map fun r=>(hs (g r.p),D.int (c9 (sOf L) (dk (hand h X) (g r.p)))))=a8 hs D.int ((bq (hand h X)).map fun r=>(g r.p,c9 (sOf L) (dk (hand h X) (g r.p)))):=by delta a8;rw[b5];rfl
      rw[this,xt ku];rfl
     .have e:=r0 (fs:=["giver"]) (F:=au (var "come")) (b:=ax "row") (ts:=cmp eqD (sub (aa "row") (kD (.int 0))) (aa "giver")) (f:=sub (aa "row") (kD (.int 1))) (σ:=((σ.only ["come"]).set "giver" (.hstr (hs (g r.p)))).set "one" (.int (sOf L r.m))) (kz (sOf L)) (fun q=>decide (g q.p=g r.p)) (fun r=>.int (sOf L r.m)) (xs:=bq (hand h X))
       (by show(σ.vars "come").bind _=_;rw[s1];rfl) (aw hlen (aw hX (by decide))) fun q _=>⟨_,rfl,by
        show some (mkS (hl (g q.p))==mkS (hl (g r.p)))=_;rw[nf,afj],fun _=>rfl⟩
      simp only[ao,cn,b0,e,ar,bt];have:=rq (((bq (hand h X)).filter fun q=>decide (g q.p=g r.p)).map fun r=>sOf L r.m)
      rw[b5]at this;refine aay this ?_;have e2:(bq (hand h X)).filter (fun q=>decide (g q.p=g r.p))=dk (hand h X) (g r.p):=by
       delta bq dk;rw[ad9];apply abg;intro q _;rw[asm]
      rw[e2];rfl
    rw[td (d:=.list ((ups (hand h X)).map fun r=>.int (sOf L r.m))),og (d:=.list ((ups (hand h X)).map fun r=>.int (sOf L r.m))),jm (d:=.list ((bq (hand h X)).map (kz (sOf L)))),jm (d:=.int (c9 (sOf L) (bq (hand h X)))),
     td (d:=dH .int (tB (sOf L) held X h).tb),og (d:=dH .int (tB (sOf L) held X h).tb),zg (k:=hs h) (kd:=dS (hl h)) (d:=bkD (tB (sOf L) held X h)) (kvs:=a8 hs bkD T)]
    .exact⟨_,rfl,by rw[ab2,if_pos rfl,acs ku],ajs a2,a3,a4⟩
    .exact a1
    .have n1:eg [.list ((ups (hand h X)).map fun r=>D.int (sOf L r.m))]=some (.int (c9 (sOf L) (ups (hand h X)))):=by
      have:=rq ((ups (hand h X)).map fun r=>sOf L r.m)
      replace this:=b5▸this;exact this
     have n2:cx (.list ((ups (hand h X)).map fun r=>D.int (sOf L r.m)))=some (.int (ups (hand h X)).length):=by
      show(if((ups (hand h X)).map _).length<2 ^ 63 then _ else _)=_
      rw[b8,if_pos (rf (aw (jv _ _) (jv _ _)) (O.az3 hX):(ups (hand h X)).length<2 ^ 63)]
     have n3:cx (.list ((bq (hand h X)).map (kz (sOf L))))=some (.int (bq (hand h X)).length):=by
      show(if((bq (hand h X)).map _).length<2 ^ 63 then _ else _)=_
      rw[b8,if_pos (rf (aw (jv _ _) (jv _ _)) (O.az3 hX):(bq (hand h X)).length<2 ^ 63)]
     exact aw8 n2 n3 (ben rfl rfl n1 rfl) rfl rfl
    all_goals first|exact szT a2|exact g1 _ a3 a4 rfl|exact g2 _ a3 a4 rfl|exact g3 _ rfl|exact g4 _ rfl|rfl
 delta f_told fnF;rw[key];rfl
structure fh where
 M:Nat
 x:Nat->List Nat
 du:Nat->List (List Nat)
structure MOK(ml:fh):Prop where
 few:ml.M<=100
 len:∀m,m<ml.M->(ml.x m).length<=40
 rfc:∀m,m<ml.M->spl [39] 0 2 (crl (ml.x m))=ml.du m/\(ml.du m).length=3
 inj:∀m k,m<ml.M->k<ml.M->ml.du m=ml.du k->m=k
noncomputable def j9(x:List Nat):List Nat:=cf [13,10] ((dj x).map di)
noncomputable def itL(ml:fh):It->List Nat
 |some m=>j9 (ml.x m)++eot
 |none=>[46,13,10]
noncomputable def encQ(ml:fh)(q:List It):List Nat:=q.flatMap (itL ml)
noncomputable def i0(ml:fh):D:=.list ((ed ml.M).map fun m=>dS (itL ml (some m)))
noncomputable def ew(l:List (List Nat)):D:=.list (l.map dS)
noncomputable def je(ml:fh):D:=.list ((ed ml.M).map fun m=>ew (ml.du m))
def aqs(x:List Nat):j9 x=stf true (crl x):=by unfold j9;rw[<-aff,a65]
def aj6(x:List Nat):(j9 x).length<=4 * x.length:=by
 rw[aqs];have:=ze (crl x) true;have:=aak x;exact O.ck [_,_,_] [.le .x0 (.m 2 .x2),.le .x2 (.m 2 .x1)] (.le .x0 (.m 4 .x1)) 121 rfl ‹_› this
variable{i:It}{ml:fh}
def a09(K:MOK ml)(h:∀m,i=some m->m<ml.M):(itL ml i).length<=200:=by
 induction i with
 |none=>exact oy ..
 |some m=>
  simp only[itL,de,dh,jt];exact O.ck [_,_] [.le .x0 (.m 4 .x1),.le .x1 (.c 40)] (.le (.a .x0 (.a (.a (.a (.a (.a (.c 0) (.c 1)) (.c 1)) (.c 1)) (.c 1)) (.c 1))) (.c 200)) 141 rfl (aj6 (ml.x m)) (K.len m (h m rfl))
def ja(ml:fh)(q:List It):Prop:=∀m,some m∈q->m<ml.M
theorem afr{ml:fh}(K:MOK ml):∀{q:List It},ja ml q->(encQ ml q).length<=200 * q.length
 |[],_=>ay _
 |i::q,h=>by
  show(itL ml i++encQ ml q).length<=_;simp only[de,dh];exact O.ck [_,_,_] [.le .x0 (.c 200),.le .x1 (.m 200 .x2)] (.le (.a .x0 .x1) (.m 200 (.a .x2 (.c 1)))) 111 rfl (a09 K (i:=i) fun m e=>h m (by simp[e])) (afr K (q:=q) fun m hm=>h m (er _ hm))
variable{q:List It}
def aqq:encQ ml (q++[i])=encQ ml q++itL ml i:=by simp[encQ]
def bel:(encQ ml q).isEmpty=q.isEmpty:=by
 induction q with
 |nil=>rfl
 |cons i q=>cases i<;>simp[encQ,itL]
variable{r:List It}
def bdl(K:MOK ml)(h:ja ml (some m::r))(hz:(some m::r:List It).length<=500):f_first [dS (encQ ml (some m::r))]=some (.tup [ew (ml.du m),dS (encQ ml r)]):=by
 have hm:=h m (.head _);have hl:=afr K h;have hx:=K.len m hm;obtain⟨h1,h2⟩:=K.rfc m hm;have hd:f_rfc [dS (crl (ml.x m))]=some (ew (ml.du m)):=by
  have hc:=aak (ml.x m);rw[aqi _ (O.ck [_,_] [.le .x0 (.m 2 .x1),.le .x1 (.c 40)] (.le .x0 (.c 1000000)) 121 rfl hc hx),h1,if_neg (by exact O.ck [_] [.eq .x0 (.c 3)] (.n (.le .x0 (.c 2))) 11 rfl h2)];rfl
 rw[(rfl:encQ ml (some m::r)=cf [13,10] ((dj (ml.x m)).map di)++eot++encQ ml r)]at hl |-;exact bdo (ml.x m) (encQ ml r) (O.az2 hz hl) (O.az9 hx) hd
def bdm(K:MOK ml)(h:ja ml (none::r))(hz:(none::r:List It).length<=500):f_first [dS (encQ ml (none::r))]=some (.tup [.tup [.none,.none,dS []],dS (encQ ml r)]):=by
 have hl:=afr K h;rw[(rfl:encQ ml (none::r)=46::13::10::encQ ml r)]at hl |-;exact bdn (encQ ml r) (O.az2 hz hl)
def bba{l:List (List (List Nat))}:(l.map ew).mapM aao=some (l.map fun p=>p.map mkS):=by
 rw[aso];induction l with
 |nil=>rfl
 |cons a l ih=>
  rw[wq,ih];show((a.map dS).mapM b7).bind _=_;rw[afe];rfl
theorem a0o:∀{a b:List (List Nat)},a.map mkS=b.map mkS->a=b
 |[],[],_=>rfl
 |x::a,y::b,h=>by
  rw[ee,ee,adv]at h;rw[afd.mp h.1,a0o h.2]
 |[],_::_,h=>by simp at h
 |_::_,[],h=>by simp at h
def bcs(K:MOK ml)(hm:m<ml.M):acn (je ml) [ew (ml.du m)]=some (d8 m):=by
 show((((ed ml.M).map fun m=>ew (ml.du m)).mapM aao).bind _)=_
 have e2:aao (ew (ml.du m))=some ((ml.du m).map mkS):=afe _;rw[(by rw[b5];rfl:((ed ml.M).map fun m=>ew (ml.du m))=((ed ml.M).map ml.du).map ew),bba,ar,e2,ar,if_pos (by
  have:=K.few;simp;exact O.ck [_] [.le .x0 (.c 100)] (.lt .x0 (.c 1000)) 11 rfl this)]
 have:(((ed ml.M).map ml.du).map fun p=>p.map mkS).findIdx? (·==(ml.du m).map mkS)=some m:=by
  rw[awg];refine⟨by simpa using hm,by simp,fun j hj=>?_⟩
  simp only[aba,ahy,beq_iff_eq];intro h;have:=K.inj j m (O.ck [_,_,_] [.lt .x2 .x1,.lt .x0 .x2] (.lt .x0 .x1) 111 rfl hm hj) hm (a0o h);exact absurd hj (this▸adt _)
 rw[this];rfl
noncomputable def hds:List Hd:=[0,1,2]
noncomputable def br(l:List Hd)(f:Hd->V):List (Hd×V):=l.map fun h=>(h,f h)
noncomputable def ir(f:Pl->V):List (Pl×V):=pls.map fun p=>(p,f p)
def apt{K:Type}[DecidableEq K]{l:List K}{f:K->V}{k:K}:look (l.map fun h=>(h,f h)) k=if k∈l then some (f k)else none:=by
 induction l with
 |nil=>rfl
 |cons a l ih=>
  simp only[ee,lx,j8];by_cases h:a=k
  .subst h;simp
  .rw[if_neg h,ih];simp[g7 h]
def ayv{K:Type}[DecidableEq K]{l:List K}{f:K->V}{k:K}{v:V}(h:k∈l):put (l.map fun h=>(h,f h)) k v=l.map fun h=>(h,upd f k v h):=by
 unfold put;rw[if_pos (by simp[h]),b5]
 apply j3;intro a _;by_cases e:a=k
 .subst e;simp[upd]
 .simp[upd,e]
def a84{K:Type}[DecidableEq K]{l:List K}{f:K->V}{k:K}{v:V}(h:k∉l):put (l.map fun h=>(h,f h)) k v=(l++[k]).map fun h=>(h,upd f k v h):=by
 rw[ayw (by rw[b5];simpa using h),ei]
 congr 1
 .apply j3;intro a ha;have:a≠k:=fun e=>h (e▸ha)
  simp[upd,this]
 .simp[upd]
def xl:∀h:Hd,h∈hds:=by decide
def api:∀p:Pl,p∈pls:=by decide
structure At(ml:fh)(L:List Int)(onto:Bool)(σ:PS)(st:St):Prop where
 bk:σ.own "books" = some (.dict (a8 hs bkD (br hds st.bk)))
 wi:σ.own "wires" = some (.dict (a8 ps dS (ir fun p=>encQ ml (st.q p))))
 no:σ.own "noted" = some (.dict (a8 hs bkD (br st.nt st.nb)))
 as:σ.own "aside" = some (.dict (a8 hs (dH qD) (br st.nt st.ad)))
 sh:σ.own "shut" = some (.list (st.sh.map fun p=>dS (pl p)))
 lg:σ.own "log" = some (.list (st.lg.map (bz true)))
 sums:σ.vars "sums" = some (.list (L.map .int))
 sent:σ.vars "sent" = some (i0 ml)
 dues:σ.vars "dues" = some (je ml)
 onto:σ.vars "onto" = some (.bool onto)
 o1:σ.own "sums" = none
 o2:σ.own "sent" = none
 o3:σ.own "dues" = none
noncomputable def names:List String:=["books", "wires", "noted", "aside", "shut", "log", "sums", "sent", "dues", "onto"]
theorem At.set{ml:fh}{L:List Int}{onto:Bool}{σ:PS}{st:St}(A:At ml L onto σ st){x:String}{d:D}(hx:x∉names):At ml L onto (σ.set x d) st:=by
 have ne:∀y∈names,y≠x:=fun y hy e=>hx (e▸hy)
 have o:∀y∈names,(σ.set x d).own y=σ.own y:=fun y hy=>by rw[te,if_neg (ne y hy)]
 have v:∀y∈names,(σ.set x d).vars y=σ.vars y:=fun y hy=>by rw[m8,if_neg (ne y hy)]
 exact⟨(o _ (by decide)).trans A.bk,(o _ (by decide)).trans A.wi,(o _ (by decide)).trans A.no,(o _ (by decide)).trans A.as,(o _ (by decide)).trans A.sh,(o _ (by decide)).trans A.lg,
  (v _ (by decide)).trans A.sums,(v _ (by decide)).trans A.sent,(v _ (by decide)).trans A.dues,(v _ (by decide)).trans A.onto,(o _ (by decide)).trans A.o1,(o _ (by decide)).trans A.o2,(o _ (by decide)).trans A.o3⟩
structure Sz(ml:fh)(n:Nat)(st:St):Prop where
 nd:st.nt.Nodup
 q:∀p,(st.q p).length<=n
 lg:st.lg.length<=n
 sh:st.sh.length<=n
 good:∀p,ja ml (st.q p)
def sf(ml:fh):cv->Prop
 |.send _ m=>m<ml.M
 |_=>True
variable{h:Hd}{n:Nat}
def a0e{st:St}(Z:Sz ml n st):Sz ml (n+1) (note h st):=by
 unfold note;split
 .exact⟨Z.nd,fun p=>gm (Z.q p),gm Z.lg,gm Z.sh,Z.good⟩
 .rename_i hn;refine⟨?_,fun p=>?_,gm Z.lg,gm Z.sh,fun p m hm=>?_⟩
  .rw[ahs];refine⟨Z.nd,by simp,?_⟩
   intro a ha b hb e;simp at hb;subst hb;subst e;exact hn ha
  .have:=Z.q p;dsimp only;split<;>simp
   .exact this
   .exact gm this
  .dsimp only at hm;split at hm
   .rcases ji.mp hm with h|h
    .exact Z.good p m h
    .simp at h
   .exact Z.good p m hm
variable{l:List It}{p:Pl}{q:Pl->List It}
def upd_len{x:Pl}(h:∀p,(q p).length<=n)(hl:l.length<=n+1):(upd q p l x).length<=n+1:=by
 by_cases e:x=p
 .subst e;rw[ic];exact hl
 .rw[jd e];exact gm (h x)
def upd_good{x:Pl}(h:∀p,ja ml (q p))(hl:ja ml l):ja ml (upd q p l x):=by
 by_cases e:x=p
 .subst e;rw[ic];exact hl
 .rw[jd e];exact h x
variable{d:cv}
def a66{st:St}{onto:Bool}{s:Nat->Int}(Z:Sz ml n st)(hd:sf ml d):Sz ml (n+2) (step onto s st d):=by
 have up:Sz ml (n+1) st:=⟨Z.nd,fun p=>gm (Z.q p),gm Z.lg,gm Z.sh,Z.good⟩
 induction d with
 |note h=>exact a0e up
 |send p m=>
  refine⟨Z.nd,fun x=>gm (upd_len Z.q (by have:=Z.q p;simp;assumption)),by have:=Z.lg;simp[step];exact gm (by assumption),by have:=Z.sh;simp[step];exact O.az1 this,fun x=>upd_good Z.good fun k hk=>?_⟩
  rcases ji.mp hk with h|h
  .exact Z.good p k h
  .simp at h;subst h;exact hd
 |take p y=>
  cases hq:st.q p with
  |nil=>rw[u7 hq];exact⟨up.nd,fun p=>gm (up.q p),gm up.lg,gm up.sh,up.good⟩
  |cons i r=>
   have h1:=Z.q p;have h2:=Z.good p;rw[hq]at h1 h2;have h3:ja ml r:=fun m hm=>h2 m (er _ hm)
   induction i with
   |none=>
    rw[step_none hq,tkN];refine a0e ⟨Z.nd,fun x=>upd_len Z.q (by simp at h1;exact O.az0 h1),gm Z.lg,by have:=Z.sh;simp;assumption,fun x=>upd_good Z.good h3⟩
   |some m=>
    rw[s9 hq,tkS];exact⟨Z.nd,fun x=>gm (upd_len Z.q (by simp at h1;exact O.az0 h1)),by have:=Z.lg;simp;exact gm (by assumption),by have:=Z.sh;simp;exact O.az1 this,fun x=>upd_good Z.good h3⟩
noncomputable def P0:List (PS->Option fc):=[(shI (sub (aa "place") (un fq (kD (.int 1))))),(shI (ofB (cmp eqD (var "kind") (kD (.str "note"))))),(shI (tup []))]
noncomputable def ars:PS->Option Bool:=(cmp eqD (var "kind") (kD (.str "send")))
noncomputable def ald:PS->Option Out:=(ag (f7 ["hand", "entry"] [(shI (sub (aa "place") (kD (.int 0)))),(shI (tup [(kD (.int 1)),(kD (.int 0)),(un fq (sub (aa "sums") (var "mail"))),(kD (.int 0)),r6]))]) (ag (m6 "wires" jo (var "place") (sub (aa "sent") (var "mail"))) nxt))
noncomputable def agb:PS->Option Bool:=(bx (cmp eqD (var "kind") (kD (.str "take"))) (bx (cmp neD (sub (aa "wires") (var "place")) (kD (.str ""))) tt))
noncomputable def agn:PS->Option Out:=(ag (r8 (cz ["parts", "rest"]) (ao f_first [(sub (aa "wires") (var "place"))])) (ag (jj "wires" (var "place") (var "rest")) (ag (b3 "noting" (ofB (cmp eqD (var "parts") (tup [(kD .none),(kD .none),(kD (.str ""))])))) (ag (ifF (toB (var "noting")) (ag (jr "shut" (var "place")) nxt) (ag (b3 "mail" (b6 acn (aa "dues") [(var "parts")])) (ag (b3 "entry" (tup [(kD (.int 0)),(kD (.int 1)),(sub (aa "sums") (var "mail")),(sub (aa "sums") (var "mail")),(tw (sub (aa "place") (kD (.int 0))) (sub (aa "sums") (var "mail")))])) (ag (ifF (bx (cmp inD (var "hand") (aa "noted")) (bx (cmp od (var "place") (aa "shut")) tt)) (ag (jj "aside" (var "hand") (ao oh [(sub (aa "aside") (var "hand")),(tw (sub (aa "place") (kD (.int 0))) (tup [(kD (.int 1)),(var "mail"),(sub (aa "sums") (var "mail")),(un fq (sub (aa "sums") (var "mail")))]))])) nxt) nxt) nxt)))) nxt))))
noncomputable def agc:PS->Option Bool:=(cmp neD (var "entry") (tup []))
noncomputable def ade:PS->Option Out:=(ag (jj "books" (var "hand") (ife (toB (var "onto")) (ao f_stats [(sub (aa "books") (var "hand")),(var "entry")]) (ao f_stats [(var "entry"),(sub (aa "books") (var "hand"))]))) (ag (jr "log" (tup [(var "kind"),(var "place"),(var "mail"),(ofB (cmp od (var "hand") (aa "noted")))])) nxt))
noncomputable def ac5:PS->Option Bool:=(bx (toB (var "noting")) (bx (cmp od (var "hand") (aa "noted")) tt))
noncomputable def adb:PS->Option Out:=(ag (aei "noted" "aside" (var "hand") (var "hand") (sub (aa "books") (var "hand")) r6) (ag (i8 (au (bin (ru "") (kD (.str "abc")) (var "hand"))) (ax "other") (ag (m6 "wires" jo (bin bb (var "hand") (var "other")) (kD (.str ".\r\n"))) nxt)) nxt))
noncomputable def akj:PS->Option Out:=ag (f7 ["hand", "noting", "entry"] P0) (ag (ifF ars ald (ag (ifF agb agn nxt) nxt)) (ag (ifF agc ade nxt) (ag (ifF ac5 adb nxt) nxt)))
def afm{b:D->PS->Option PS}{body:PS->Option Out}(toD:α->D)(P:List α->PS->Prop){xs:List α}(h:∀pre a post σ,xs=pre++a::post->P pre σ->∃σ1,b (toD a) σ=some σ1/\bh (body σ1) (P (pre++[a])))(h0:P [] σ) :
  bh (lz b body (xs.map toD) σ) (P xs):=by
 have key:∀(post pre:List α) (σ:PS),xs=pre++post->P pre σ->bh (lz b body (post.map toD) σ) (P xs):=by
  intro post;induction post with
  |nil=>intro pre σ e hp;rw[fo]at e;subst e;exact⟨σ,rfl,hp⟩
  |cons a post ih=>
   intro pre σ e hp;obtain⟨σ1,h1,σ2,h2,h3⟩:=h pre a post σ e hp;obtain⟨σ',h4,h5⟩:=ih (pre++[a]) σ2 (by rw[e];simp) h3
   refine⟨σ',?_,h5⟩;rw[ee,a1t,h1,ar,h2,ar];exact h4
 exact key xs [] σ rfl h0
def bh.seq{F H:PS->Option Out}{P Q:PS->Prop}(h:bh (F σ) P)(k:∀σ',P σ'->bh (H σ') Q):bh (ag F H σ) Q:=by
 obtain⟨σ',h1,h2⟩:=h;obtain⟨σ2,h3,h4⟩:=k σ' h2;exact⟨σ2,by simp only[ag,h1,ar,h3],h4⟩
def bh.if'{t:PS->Option Bool}{a b:PS->Option Out}{P:PS->Prop}(h:t σ=some c)(k:bh ((if c=true then a else b) σ) P):bh (ifF t a b σ) P:=by
 obtain⟨σ',h1,h2⟩:=k;exact⟨σ',by delta ifF;rw[h,ar];cases c<;>exact h1,h2⟩
def bh.nxt'{P:PS->Prop}(h:P σ):bh (nxt σ) P:=⟨σ,rfl,h⟩
variable {ml:fh} {L:List Int} {onto:Bool}
variable{l:List Hd}
def ajn(f:V->D){F:Hd->V}(h:l.Nodup):(a8 hs f (br l F)).length<=sizeLine:=by
 rw[et];delta a8 br;rw[b8,b8];exact aw (axf h) (by decide)
def apu(f:V->D){F:Pl->V}:(a8 ps f (ir F)).length<=sizeLine:=by
 rw[et];delta a8 ir;rw[b8,b8];decide
def z7(f:V->D){F:Hd->V}:jq (a8 hs f (br l F)) (hs h)=if h∈l then some (f (F h))else none:=by
 rw[acw ku];delta br;rw[apt];split<;>rfl
def apo(f:V->D){F:Pl->V}:jq (a8 ps f (ir F)) (ps p)=some (f (F p)):=by
 rw[acw aiy];delta ir;rw[apt,if_pos (api p)];rfl
def ayt(f:V->D){F:Hd->V}{v:V}(hh:h∈l):fx (a8 hs f (br l F)) (hs h) (f v)=a8 hs f (br l (upd F h v)):=by
 rw[acs ku];unfold br;rw[ayv hh]
def ays(f:V->D){F:Hd->V}{v:V}(hh:h∉l):fx (a8 hs f (br l F)) (hs h) (f v)=a8 hs f (br (l++[h]) (upd F h v)):=by
 rw[acs ku];unfold br;rw[a84 hh]
def aon{l:List It}:fx (a8 ps dS (ir fun p=>encQ ml (q p))) (ps p) (dS (encQ ml l))=a8 ps dS (ir fun x=>encQ ml (upd q p l x)):=by
 rw[acs aiy];refine(ayv (api p))▸?_
 congr 1
 apply j3;intro a _;show(a,upd (fun p=>encQ ml (q p)) p (encQ ml l) a)=(a,encQ ml (upd q p l a))
 by_cases e:a=p
 .subst e;rw[ic,ic]
 .rw[jd e,jd e]
theorem At.wires{σ:PS}{st:St}(A:At ml L onto σ st)(q:Pl->List It){kvs:List (Str×D)}(h:kvs=a8 ps dS (ir fun x=>encQ ml (q x))):At ml L onto (σ.setOwn "wires" (.dict kvs)) {st with q:=q}:=by
 subst h;exact⟨A.bk,rfl,A.no,A.as,A.sh,A.lg,A.sums,A.sent,A.dues,A.onto,A.o1,A.o2,A.o3⟩
structure Mid(ml:fh)(L:List Int)(onto:Bool)(σ:PS)(st:St)(hd:Hd)(noting:Bool):Prop where
 at':At ml L onto σ st
 hand:σ.vars "hand" = some (.hstr (hs hd))
 noting:σ.vars "noting" = some (.bool noting)
def a4h(L:List Int)(σ:PS):Option Row->Prop
 |none=>σ.vars "entry" = some (.tup [])
 |some r=>σ.vars "entry" = some (bkD (entry (sOf L) r))/\σ.vars "kind" = some (dS (kL r.snd))/\σ.vars "place" = some (dS (pl r.p))/\σ.vars "mail" = some (d8 r.m)
noncomputable def r7(onto:Bool)(s:Nat->Int)(st:St):Option Row->St
 |none=>st
 |some r=>{st with bk:=pr onto st r.hand (entry s r),lg:=st.lg++[⟨r.snd,r.p,r.m,decide (r.hand∉st.nt)⟩]}
def a56{f g h i:PS->Option D}{b c d:D}(h1:f σ=some a)(h2:g σ=some b)(h3:h σ=some c)(h4:i σ=some d):tup [f,g,h,i] σ=some (.tup [a,b,c,d]):=by
 simp only[tup,cn,b0,h1,h2,h3,h4];rfl
def ap8{f:Bk->D}{F:Hd->Bk}:inD (.hstr (hs h)) (.dict (a8 hs f (br l F)))=some (decide (h∈l)):=by
 show some (jq _ _).isSome=_;rw[z7];split<;>simp_all
def bap(b:Bk):neD (bkD b) (.tup [])=some true:=rfl
variable{hd:Hd}{noting:Bool}
def a7b{st:St}{ent:Option Row}(M:Mid ml L onto σ st hd noting)(E:a4h L σ ent)(he:∀r,ent=some r->r.hand=hd)(hz:st.lg.length<=1000) :
  bh (ifF agc ade nxt σ) fun σ'=>Mid ml L onto σ' (r7 onto (sOf L) st ent) hd noting:=by
 induction ent with
 |none=>
  refine bh.if' (c:=false) ?_ (bh.nxt' M);exact cmp_at E rfl rfl
 |some r=>
  obtain⟨e1,e2,e3,e4⟩:=E;have hh:=he r rfl;subst hh;have A:=M.at';refine bh.if' (c:=true) (cmp_at e1 rfl (bap _)) ?_;rw[if_pos rfl];unfold ade;have hb:sub (aa "books") (var "hand") σ=some (bkD (st.bk r.hand)):=by
   refine(c5 (d:=.dict (a8 hs bkD (br hds st.bk))) (k:=.hstr (hs r.hand)) ?_ M.hand).trans ?_
   .unfold aa;rw[A.bk];rfl
   .rw[aqe];rw[z7,if_pos (xl _)]
  have hv:ife (toB (var "onto")) (ao f_stats [(sub (aa "books") (var "hand")),(var "entry")]) (ao f_stats [(var "entry"),(sub (aa "books") (var "hand"))]) σ=some (bkD (pr onto st r.hand (entry (sOf L) r) r.hand)):=by
   unfold ife;rw[(by unfold toB var;rw[A.onto];rfl:toB (var "onto") σ=some onto),ar]
   unfold pr;rw[ic];induction onto with
   |true=>simp only[if_true,ao,cn,b0,hb,var,e1,ar,bt,aj4]
   |false=>simp only[ue,if_false,ao,cn,b0,hb,var,e1,ar,bt,aj4]
  rw[zg A.bk hv M.hand (af7 _) (ajn _ (by decide))]
  have hput:fx (a8 hs bkD (br hds st.bk)) (hs r.hand) (bkD (pr onto st r.hand (entry (sOf L) r) r.hand))=a8 hs bkD (br hds (pr onto st r.hand (entry (sOf L) r))):=by
   rw[ayt bkD (xl _)]
   congr 2
   unfold pr;funext x;by_cases e:x=r.hand
   .subst e;rw[ic,ic]
   .rw[jd e,jd e]
  rw[hput];have hlog:tup [(var "kind"),(var "place"),(var "mail"),(ofB (cmp od (var "hand") (aa "noted")))] (σ.setOwn "books" (.dict (a8 hs bkD (br hds (pr onto st r.hand (entry (sOf L) r))))))=some (bz true ⟨r.snd,r.p,r.m,decide (r.hand∉st.nt)⟩):=by
   have k1:cmp od (var "hand") (aa "noted") (σ.setOwn "books" (.dict (a8 hs bkD (br hds (pr onto st r.hand (entry (sOf L) r))))))=some (decide (r.hand∉st.nt)):=by
    refine cmp_at (a:=.hstr (hs r.hand)) (b:=.dict (a8 hs bkD (br st.nt st.nb))) M.hand ?_ ?_
    .show(σ.own "noted").or _=_;rw[A.no];rfl
    .unfold od;rw[ap8];simp
   exact a56 e2 e3 e4 (congrArg (o9 D.bool) k1)
  rw[vc (l:=st.lg.map (bz true)) (d:=bz true ⟨r.snd,r.p,r.m,decide (r.hand∉st.nt)⟩)]
  .refine bh.nxt' ⟨?_,M.hand,M.noting⟩;exact⟨rfl,A.wi,A.no,A.as,A.sh,by
    show some (D.list _)=_;simp only[r7,ei,ee,wj],A.sums,A.sent,A.dues,A.onto,A.o1,A.o2,A.o3⟩
  .exact A.lg
  .exact hlog
  .rw[et,b8];exact O.ao3 hz
noncomputable def out2:Hd->List (Hd×Pl)|0=>[(1,0),(2,1)]|1=>[(0,2),(2,3)]|2=>[(0,4),(1,5)]
def a9t:∀h:Hd,∀x∈out2 h,pl x.2=hl h++hl x.1:=by decide
def a8n(h:Hd):ru "" (.str "abc") (.hstr (hs h))=some (dS ((out2 h).flatMap fun x=>hl x.1)):=by
 show(if((hs h==aj "")=false/\_)then _ else _)=_
 rw[lit "abc",vh];rw[if_pos ⟨by rw[<-vh];exact(by rw[vh];revert h;decide:(hs h==aj "")=false),by rw[fe,fe];decide⟩]
 congr 2
 refine xq ?_;rw[aoh _ _ _ (by revert h;decide:1<=(hs h).length),gc,gc,fe]
 revert h;decide
def a1g:∀h,(hl h).length=1:=by decide
def bgd(h:Hd):yf (dS ((out2 h).flatMap fun x=>hl x.1))=some ((out2 h).map fun x=>dS (hl x.1)):=by
 refine(if_pos (by revert h;decide+kernel)).trans ?_
 revert h;exact c3 rfl rfl rfl
def a9s(h:Hd)(q:Pl->List It):(out2 h).foldl (fun q x=>upd q x.2 (q x.2++[none])) q=fun p=>if g p=h then q p++[none]else q p:=by
 refine funext fun p=>?_
 revert p;revert h;exact c3 (c6 rfl rfl rfl rfl rfl rfl) (c6 rfl rfl rfl rfl rfl rfl) (c6 rfl rfl rfl rfl rfl rfl)
def bb6:aj ".\r\n" = mkS [46,13,10]:=by rw[j4];rfl
def a1f(a b:List Nat)(h:a.length+b.length<=16777216):jo (dS a) (dS b)=some (dS (a++b)):=by
 show(if(mkS a).length+(mkS b).length<=sizeLine then some (D.str (mkS a++mkS b))else none)=_
 rw[if_pos (by rw[fe,fe,et];exact h),apg];rfl
def bhy(a b:List Nat)(h:a.length+b.length<=16777216):bb (.hstr (mkS a)) (dS b)=some (dS (a++b)):=by
 show(if(mkS a).length+(mkS b).length<=sizeLine then some (D.str (mkS a++mkS b))else none)=_
 rw[if_pos (by rw[fe,fe,et];exact h),apg];rfl
def a52{x y:String}{fi fj fa fb:PS->Option D}{b ki kj:D}{i j:Str}{l m:List (Str×D)}(ha:fa σ=some a)(hb:fb σ=some b)(hi:fi σ=some ki)(si:b7 ki=some i)(hx:σ.own x=some (.dict l))(hl:l.length<=sizeLine)
  (hj:fj (σ.setOwn x (.dict (fx l i a)))=some kj) (sj:b7 kj=some j) (hy:(σ.setOwn x (.dict (fx l i a))).own y=some (.dict m)) (hm:m.length<=sizeLine) {F:PS->Option Out} :
  ag (aei x y fi fj fa fb) F σ=F ((σ.setOwn x (.dict (fx l i a))).setOwn y (.dict (fx m j b))):=by
 simp only[ag,aei,ha,hb,hi,si,hx,ar,mn];rw[if_pos hl];simp only[hj,sj,hy,ar,mn];rw[if_pos hm];rfl
def a7a{st:St}(M:Mid ml L onto σ st hd noting)(hnd:st.nt.Nodup)(hz:∀p,(encQ ml (st.q p)).length<=1000000) :
  bh (ifF ac5 adb nxt σ) fun σ'=>At ml L onto σ' (if noting=true then note hd st else st):=by
 have A:=M.at';have k1:cmp od (var "hand") (aa "noted") σ=some (decide (hd∉st.nt)):=by
  refine cmp_at (a:=.hstr (hs hd)) (b:=.dict (a8 hs bkD (br st.nt st.nb))) M.hand ?_ ?_
  .delta aa;rw[A.no];rfl
  .delta od;rw[ap8];simp
 have ht:ac5 σ=some (noting && (decide (hd∉st.nt) && true)):=iw (by delta toB var;rw[M.noting];rfl) (iw k1 rfl)
 refine bh.if' ht ?_;induction noting with
 |false=>exact bh.nxt' A
 |true=>
  refine if hn:hd∈st.nt then ?_ else ?_
  .rw[if_pos rfl,note,if_pos hn];simp only[hn,not_true_eq_false,decide_false,ahj,as6,ue,if_false];exact bh.nxt' A
  .rw[if_pos rfl,note,if_neg hn];simp only[hn,not_false_eq_true,decide_true,Bool.and_self,if_true];delta adb;have hb:sub (aa "books") (var "hand") σ=some (bkD (st.bk hd)):=by
    refine(c5 (d:=.dict (a8 hs bkD (br hds st.bk))) (k:=.hstr (hs hd)) ?_ M.hand).trans ?_
    .delta aa;rw[A.bk];rfl
    .rw[aqe];rw[z7,if_pos (xl _)]
   have e2:=a52 (σ:=σ) (x := "noted") (y := "aside") (fi:=var "hand") (fj:=var "hand") (fa:=sub (aa "books") (var "hand")) (fb:=r6) (F:=ag (i8 (au (bin (ru "") (kD (.str "abc")) (var "hand"))) (ax "other") (ag (m6 "wires" jo (bin bb (var "hand") (var "other")) (kD (.str ".\r\n"))) nxt)) nxt)
    hb (b:=dH qD []) rfl M.hand (af7 _) A.no (ajn _ hnd) M.hand (af7 _) (m:=a8 hs (dH qD) (br st.nt st.ad)) A.as (ajn _ hnd)
   refine e2▸?_;refine(ays bkD hn)▸(ays (dH qD) hn)▸?_;have A2:At ml L onto ((σ.setOwn "noted" (.dict (a8 hs bkD (br (st.nt++[hd]) (upd st.nb hd (st.bk hd)))))).setOwn "aside" (.dict (a8 hs (dH qD) (br (st.nt++[hd]) (upd st.ad hd []))))) {st with nt:=st.nt++[hd],nb:=upd st.nb hd (st.bk hd),ad:=upd st.ad hd []}:=
    ⟨A.bk,A.wi,rfl,rfl,A.sh,A.lg,A.sums,A.sent,A.dues,A.onto,A.o1,A.o2,A.o3⟩
   have hh:((σ.setOwn "noted" (.dict (a8 hs bkD (br (st.nt++[hd]) (upd st.nb hd (st.bk hd)))))).setOwn "aside" (.dict (a8 hs (dH qD) (br (st.nt++[hd]) (upd st.ad hd []))))).vars "hand" = some (.hstr (hs hd)):=M.hand;generalize(σ.setOwn "noted" (.dict (a8 hs bkD (br (st.nt++[hd]) (upd st.nb hd (st.bk hd)))))).setOwn "aside" (.dict (a8 hs (dH qD) (br (st.nt++[hd]) (upd st.ad hd []))))=τ at A2 hh;have hit:au (bin (ru "") (kD (.str "abc")) (var "hand")) τ=some ((out2 hd).map fun x=>dS (hl x.1)):=by
    delta au bin kD var;rw[ar,hh,ar,a8n,ar,bgd]
   have key:bh (lz (ax "other") (ag (m6 "wires" jo (bin bb (var "hand") (var "other")) (kD (.str ".\r\n"))) nxt) ((out2 hd).map fun x=>dS (hl x.1)) τ) fun σ'=>At ml L onto σ' {st with nt:=st.nt++[hd],nb:=upd st.nb hd (st.bk hd),ad:=upd st.ad hd [],q:=(out2 hd).foldl (fun q x=>upd q x.2 (q x.2++[none])) st.q}:=by
    have:=afm (b:=ax "other") (body:=ag (m6 "wires" jo (bin bb (var "hand") (var "other")) (kD (.str ".\r\n"))) nxt) (fun x:Hd×Pl=>dS (hl x.1))
     (fun pre σ=>At ml L onto σ {st with nt:=st.nt++[hd],nb:=upd st.nb hd (st.bk hd),ad:=upd st.ad hd [],q:=pre.foldl (fun q x=>upd q x.2 (q x.2++[none])) st.q}/\σ.vars "hand" = some (.hstr (hs hd))/\∀p,(encQ ml ((pre.foldl (fun q x=>upd q x.2 (q x.2++[none])) st.q) p)).length<=1000000+3 * pre.length)
     (xs:=out2 hd) (σ:=τ) (fun pre a post σ hx ⟨a1,a2,a3⟩=>?_) ⟨A2,hh,hz⟩
    .obtain⟨σ',e1,e2,_,_⟩:=this;exact⟨σ',e1,e2⟩
    .have hpre:pre.length<=2:=by have:=congrArg pd hx;replace this:=((by decide:∀h,(out2 h).length=2) hd:(out2 hd).length=2).symm▸this;simp at this;exact O.ck [_,_] [.eq (.c 2) (.a .x0 (.a .x1 (.c 1)))] (.le .x0 (.c 2)) 11 rfl this
     have ha:pl a.2=hl hd++hl a.1:=(a9t hd) a (by rw[hx];exact abu _ (.head _))
     refine⟨_,rfl,?_⟩;refine abj▸?_;generalize pre.foldl (fun q x=>upd q x.2 (q x.2++[none])) st.q=q at a1 a3 |-
     have hk:bin bb (var "hand") (var "other") (σ.set "other" (dS (hl a.1)))=some (dS (pl a.2)):=by
      delta bin var;rw[m8,if_neg (by decide),a2,ar,m8,if_pos rfl,ar,ha]
      exact bhy _ _ (by rw[a1g,a1g];decide)
     have a1':=a1.set (x := "other") (d:=dS (hl a.1)) (by decide)
     rw[an4 (kvs:=a8 ps dS (ir fun p=>encQ ml (q p))) (kd:=dS (pl a.2)) (k:=ps a.2) (a:=dS (encQ ml (q a.2))) (d:=dS [46,13,10]) (r:=dS (encQ ml (q a.2++[none])))]
     .refine bh.nxt' ⟨?_,a2,fun p=>?_⟩
      .exact aon▸(a1'.wires _ rfl)
      .refine de▸qg▸?_;have:=a3 p;show(encQ ml (upd q a.2 (q a.2++[none]) p)).length<=_;by_cases e:p=a.2
       .rw[e,ic,aqq,de];have:=a3 a.2;simp only[itL,dh,jt];exact O.ck [_,_] [.le .x0 (.a (.c 1000000) (.m 3 .x1))] (.le (.a .x0 (.a (.a (.a (.c 0) (.c 1)) (.c 1)) (.c 1))) (.a (.c 1000000) (.m 3 (.a .x1 (.c 1))))) 11 rfl this
       .exact(jd e)▸(O.ck [_,_] [.le .x0 (.a (.c 1000000) (.m 3 .x1))] (.le .x0 (.a (.c 1000000) (.m 3 (.a .x1 (.c 1))))) 11 rfl this)
     .exact a1'.wi
     .exact hk
     .rfl
     .exact apo dS
     .show some (D.str (aj ".\r\n"))=_;rw[bb6];rfl
     .rw[aqq];exact a1f _ _ (by have:=a3 a.2;simp only[dh,jt];exact O.ck [_,_] [.le .x1 (.c 2),.le .x0 (.a (.c 1000000) (.m 3 .x1))] (.le (.a .x0 (.a (.a (.a (.c 0) (.c 1)) (.c 1)) (.c 1))) (.c 16777216)) 311 rfl hpre this)
     .exact apu dS
   refine bh.seq (P:=fun σ'=>At ml L onto σ' {st with nt:=st.nt++[hd],nb:=upd st.nb hd (st.bk hd),ad:=upd st.ad hd [],q:=fun p=>if g p=hd then st.q p++[none]else st.q p}) ?_ fun σ' h=>bh.nxt' h
   rw[a9s]at key;obtain⟨σ',e1,e2⟩:=key;exact⟨σ',by delta i8;rw[hit,ar,e1],e2⟩
noncomputable def a0h:List Nat:=[110,111,116,101]
def a05:aj "note" = mkS a0h:=by rw[j4];rfl
noncomputable def acg:cv->List Nat
 |.send _ _=>kL true
 |.take _ _=>kL false
 |.note _=>a0h
noncomputable def aex:cv->D
 |.send p _=>dS (pl p)
 |.take p _=>dS (pl p)
 |.note h=>.hstr (hs h)
noncomputable def apl:cv->Nat
 |.send _ m=>m
 |.take _ x=>x
 |.note _=>0
noncomputable def afk:cv->Hd
 |.send p _=>t p
 |.take p _=>t p
 |.note h=>h
noncomputable def dx(d:cv):D:=.tup [dS (acg d),aex d,d8 (apl d)]
def bfw(r:Row):dx r.deed=bz false r:=by
 obtain⟨s,p,m,e⟩:=r;cases s<;>rfl
def bcv:∀h:Hd,g8 (.hstr (hs h)) (.int (-1))=some (.hstr (hs h))
 |0=>rfl|1=>rfl|2=>rfl
def a9d(d:cv):g8 (aex d) (.int (-1))=some (.hstr (hs (afk d))):=by
 cases d with
 |send p m=>exact(vg p).2.2
 |take p x=>exact(vg p).2.2
 |note h=>exact bcv h
noncomputable def a1a:cv->Bool|.send _ _=>true|_=>false
noncomputable def bcf:cv->Bool|.take _ _=>true|_=>false
noncomputable def afh:cv->Bool|.note _=>true|_=>false
def a00(d:cv):eqD (dS (acg d)) (.str "send")=some (a1a d)/\eqD (dS (acg d)) (.str "take")=some (bcf d)/\eqD (dS (acg d)) (.str "note")=some (afh d):=by
 show eqD (.str _) (.str (aj "send"))=_/\eqD (.str _) (.str (aj "take"))=_/\eqD (.str _) (.str (aj "note"))=_;rw[ach,z9,a05,aai,aai,aai,nf,nf,nf];cases d<;>exact⟨rfl,rfl,rfl⟩
structure Pre(ml:fh)(L:List Int)(onto:Bool)(σ:PS)(st:St)(d:cv):Prop where
 at':At ml L onto σ st
 kind:σ.vars "kind" = some (dS (acg d))
 place:σ.vars "place" = some (aex d)
 mail:σ.vars "mail" = some (d8 (apl d))
 oplace:σ.own "place" = none
def baq(x:List Nat):neD (dS x) (.str "")=some (!x.isEmpty):=by
 show some (mkS x != aj "")=_;rw[vh];unfold bne;rw[nf];cases x<;>rfl
def bab{l:List Pl}:od (dS (pl p)) (.list (l.map fun p=>dS (pl p)))=some (decide (p∉l)):=by
 show(inD (dS (pl p)) (.list (l.map fun p=>dS (pl p)))).map _=_
 have e:(l.map fun p=>dS (pl p))=(l.map pl).map dS:=by rw[b5];rfl
 show(((l.map fun p=>dS (pl p)).mapM b7).map fun ys=>ys.contains (mkS (pl p))).map _=_
 rw[e,afe,bt,bt]
 congr 1
 have:(List.contains ((l.map pl).map mkS) (mkS (pl p)))=decide (p∈l):=by
  rw[List.contains_eq_mem]
  congr 1
  simp only[ia,eq_iff_iff];constructor
  .rintro⟨a,⟨q,hq,rfl⟩,e⟩;exact aos _ _ (afd.mp e)▸hq
  .intro hp;exact⟨_,⟨p,hp,rfl⟩,rfl⟩
 rw[this];simp
def Kon(ml:fh)(L:List Int)(onto:Bool)(P:PS->Prop)(st z:St):Prop:=∀(σ':PS) (st':St) (h:Hd) (noting:Bool) (ent:Option Row),Mid ml L onto σ' st' h noting->a4h L σ' ent->(∀r,ent=some r->r.hand=h)->st'.nt=st.nt->st'.lg=st.lg->(∀p,(st'.q p).length<=501)->(∀p,ja ml (st'.q p)) ->
   (if noting=true then note h (r7 onto (sOf L) st' ent)else r7 onto (sOf L) st' ent)=z->bh (ag (ifF agc ade nxt) (ag (ifF ac5 adb nxt) nxt) σ') P
abbrev On(P:PS->Prop)(σ':PS):Prop:=bh (ag (ifF agc ade nxt) (ag (ifF ac5 adb nxt) nxt) σ') P
noncomputable def hent:PS->Option Bool:=bx (cmp inD (var "hand") (aa "noted")) (bx (cmp od (var "place") (aa "shut")) tt)
noncomputable def aiw:PS->Option D:=ao oh [(sub (aa "aside") (var "hand")),(tw (sub (aa "place") (kD (.int 0))) (tup [(kD (.int 1)),(var "mail"),(sub (aa "sums") (var "mail")),(un fq (sub (aa "sums") (var "mail")))]))]
noncomputable def anu:PS->Option D:=tup [(kD (.int 0)),(kD (.int 1)),(sub (aa "sums") (var "mail")),(sub (aa "sums") (var "mail")),(tw (sub (aa "place") (kD (.int 0))) (sub (aa "sums") (var "mail")))]
noncomputable def ayc:PS->Option Out:=ag (m6 "wires" jo (var "place") (sub (aa "sent") (var "mail"))) nxt
variable{τ:PS}
def ay0(v5:τ.vars "place" = some (dS (pl p)))(v7:τ.own "place" = none):sub (aa "place") (kD (.int 0)) τ=some (.hstr (hs (g p))):=(c5 (d:=dS (pl p)) (by unfold aa;rw[v7];exact v5) rfl).trans (vg p).1
def axp{st:St}(A1:At ml L onto τ st)(hm:m<L.length)(hL2:L.length<=1000)(v6:τ.vars "mail" = some (d8 m)):sub (aa "sums") (var "mail") τ=some (.int (sOf L m)):=
 (c5 (d:=.list (L.map .int)) (k:=d8 m) (by unfold aa;rw[A1.o1];exact A1.sums) v6).trans (aih L m hm hL2)
def a7w(K:MOK ml){υ:PS}{st:St}{P:PS->Prop}(hq:∀p,(st.q p).length<=500)(hg:∀p,ja ml (st.q p))(hm:m<ml.M)(A2:At ml L onto υ st)
  (w1:υ.vars "hand" = some (.hstr (hs (g p)))) (w2:υ.vars "noting" = some (.bool false)) (w3:υ.vars "entry" = some (bkD (zi (sOf L) m))) (w4:υ.vars "kind" = some (dS (kL true))) (w5:υ.vars "place" = some (dS (pl p))) (w6:υ.vars "mail" = some (d8 m))
  (k:Kon ml L onto P st (step onto (sOf L) st (.send p m))):bh (ayc υ) (On P):=by
 have hIL:=a09 K (i:=some m) (fun k e=>by cases e;exact hm)
 unfold ayc;rw[an4 (kvs:=a8 ps dS (ir fun p=>encQ ml (st.q p))) (kd:=dS (pl p)) (k:=ps p) (a:=dS (encQ ml (st.q p))) (d:=dS (itL ml (some m))) (r:=dS (encQ ml (st.q p++[some m])))]
 .rw[aon];refine bh.nxt' (k _ {st with q:=upd st.q p (st.q p++[some m])} (g p) false (some ⟨true,p,m,true⟩) ⟨A2.wires _ rfl,w1,w2⟩ ⟨w3,w4,w5,w6⟩ (fun r e=>by cases e;rfl) rfl rfl (fun x=>upd_len hq (by have:=hq p;simp;omega)) (fun x=>upd_good hg fun k hk=>?_) rfl)
  rcases ji.mp hk with h|h
  .exact hg p k h
  .simp at h;subst h;exact hm
 .exact A2.wi
 .exact w5
 .rfl
 .exact apo dS
 .refine(c5 (d:=i0 ml) (k:=d8 m) (by unfold aa;rw[A2.o2];exact A2.sent) w6).trans (afl (by simp[hm]) (by have:=K.few;exact O.ck [_,_] [.lt .x0 .x1,.le .x1 (.c 100)] (.lt .x0 (.c 1000000)) 111 rfl hm this))
 .rw[aqq];exact a1f _ _ (by have:=hq p;exact O.c0 [_,_,_] [.le .x0 (.m 200 .x2),.le .x1 (.c 200),.le .x2 (.c 500)] (.le (.a .x0 .x1) (.c 16777216)) (.l [1,200,1,1]) rfl (afr K (hg p)) hIL this)
 .exact apu dS
variable{st0 z:St}{y:PS}
def a6g{st:St}{P:PS->Prop}(hnd:st.nt.Nodup)(A6:At ml L onto y st)(hlq:∀x,(st.q x).length<=501)(hgq:∀x,ja ml (st.q x))
  (u1:y.vars "hand" = some (.hstr (hs (t p)))) (u2:y.vars "noting" = some (.bool false)) (u3:y.vars "entry" = some (bkD (u0 (sOf L) p m))) (u4:y.vars "kind" = some (dS (kL false))) (u5:y.vars "place" = some (dS (pl p))) (u6:y.vars "mail" = some (d8 m))
  (e3:sub (aa "place") (kD (.int 0)) y=some (.hstr (hs (g p)))) (e4:sub (aa "sums") (var "mail") y=some (.int (sOf L m)))  (k:Kon ml L onto P st0 z) (k1:st.nt=st0.nt) (k2:st.lg=st0.lg)
  (hz:r7 onto (sOf L) (if t p∈st.nt/\p∉st.sh then{st with ad:=upd st.ad (t p) (addT qplus (st.ad (t p)) (aside1 (sOf L) p m))}else st) (some ⟨false,p,m,true⟩)=z) :
  bh (ag (ifF hent (ag (jj "aside" (var "hand") aiw) nxt) nxt) nxt y) (On P):=by
 have tA:hent y=some (decide (t p∈st.nt) && (decide (p∉st.sh) && true)):=by
  refine iw (cmp_at (b:=.dict (a8 hs bkD (br st.nt st.nb))) u1 (by unfold aa;rw[A6.no];rfl) ap8) (iw (cmp_at (b:=.list (st.sh.map fun p=>dS (pl p))) u5 (by unfold aa;rw[A6.sh];rfl) bab) rfl)
 refine bh.seq (P:=On P) (bh.if' tA ?_) fun σ' h=>bh.nxt' h
 by_cases hc:t p∈st.nt/\p∉st.sh
 .rw[if_pos (by simp[hc])]
  have hadd:aiw y=some (dH qD (addT qplus (st.ad (t p)) (aside1 (sOf L) p m))):=by
   have h1:sub (aa "aside") (var "hand") y=some (dH qD (st.ad (t p))):=by
    refine(c5 (d:=.dict (a8 hs (dH qD) (br st.nt st.ad))) (k:=.hstr (hs (t p))) (by unfold aa;rw[A6.as];rfl) u1).trans ?_
    rw[aqe];rw[z7,if_pos hc.1]
   have h2:tw (sub (aa "place") (kD (.int 0))) (tup [(kD (.int 1)),(var "mail"),(sub (aa "sums") (var "mail")),(un fq (sub (aa "sums") (var "mail")))]) y=some (dH qD (aside1 (sOf L) p m)):=by
    simp only[tw,e3,e4,tup,cn,b0,kD,var,u6,un,fq,sa,af7,ar,bt];rfl
   simp only[aiw,ao,cn,b0,h1,h2,ar,bt,bhw]
  rw[zg (k:=hs (t p)) (kd:=.hstr (hs (t p))) (kvs:=a8 hs (dH qD) (br st.nt st.ad)) A6.as hadd u1 rfl (ajn _ hnd),ayt (dH qD) hc.1];refine bh.nxt' (k _ {st with ad:=upd st.ad (t p) (addT qplus (st.ad (t p)) (aside1 (sOf L) p m))} (t p) false (some ⟨false,p,m,true⟩) ⟨?_,u1,u2⟩ ⟨u3,u4,u5,u6⟩ (fun r e=>by cases e;rfl) k1 k2 hlq hgq ((congrArg (r7 onto (sOf L) · _) (if_pos hc).symm).trans hz))
  exact⟨A6.bk,A6.wi,A6.no,rfl,A6.sh,A6.lg,A6.sums,A6.sent,A6.dues,A6.onto,A6.o1,A6.o2,A6.o3⟩
 .rw[if_neg (by simpa using hc)]
  exact bh.nxt' (k _ st (t p) false (some ⟨false,p,m,true⟩) ⟨A6,u1,u2⟩ ⟨u3,u4,u5,u6⟩ (fun r e=>by cases e;rfl) k1 k2 hlq hgq ((congrArg (r7 onto (sOf L) · _) (if_neg hc).symm).trans hz))
def a6h(K:MOK ml)(hL:ml.M<=L.length)(hL2:L.length<=1000){st:St}{P:PS->Prop}(hnd:st.nt.Nodup)(hsh:st.sh.length<=1000)(A4:At ml L onto y st)(hlq:∀x,(st.q x).length<=501)(hgq:∀x,ja ml (st.q x))(hi:∀m,i=some m->m<ml.M)
  (y1:y.vars "hand" = some (.hstr (hs (t p)))) (y2:y.vars "noting" = some (.bool i.isNone)) (y3:y.vars "entry" = some (.tup [])) (y4:y.vars "kind" = some (dS (kL false))) (y5:y.vars "place" = some (dS (pl p))) (y7:y.own "place" = none)
  (y8:∀m,i=some m->y.vars "parts" = some (ew (ml.du m)))  (k:Kon ml L onto P st0 z) (k1:st.nt=st0.nt) (k2:st.lg=st0.lg)
  (hz:(match(motive:=It->St) i with
   |none=>note (t p) {st with sh:=st.sh++[p]}
   |some m=>r7 onto (sOf L) (if t p∈st.nt/\p∉st.sh then{st with ad:=upd st.ad (t p) (addT qplus (st.ad (t p)) (aside1 (sOf L) p m))}else st) (some ⟨false,p,m,true⟩))=z) :
  bh (ag (ifF (toB (var "noting")) (ag (jr "shut" (var "place")) nxt) (ag (b3 "mail" (b6 acn (aa "dues") [(var "parts")])) (ag (b3 "entry" anu) (ag (ifF hent (ag (jj "aside" (var "hand") aiw) nxt) nxt) nxt)))) nxt y) (On P):=by
 refine bh.seq (P:=On P) (bh.if' (c:=i.isNone) (by unfold toB var;rw[y2];rfl) ?_) fun σ' h=>bh.nxt' h
 induction i with
 |none=>
  rw[if_pos (show(none:It).isNone=true from rfl)];rw[vc (l:=st.sh.map fun p=>dS (pl p)) A4.sh y5 (by rw[et,b8];exact O.ao3 hsh)]
  refine bh.nxt' (k _ {st with sh:=st.sh++[p]} (t p) true none ⟨?_,y1,y2⟩ y3 (fun r e=>by cases e) k1 k2 hlq hgq hz)
  exact⟨A4.bk,A4.wi,A4.no,A4.as,by show some (D.list _)=_;simp only[ei,ee,wj],A4.lg,A4.sums,A4.sent,A4.dues,A4.onto,A4.o1,A4.o2,A4.o3⟩
 |some m=>
  rw[if_neg (by simp)]
  have hm:=hi m rfl;have hidx:b6 acn (aa "dues") [(var "parts")] y=some (d8 m):=by
   have:aa "dues" y=some (je ml):=by unfold aa;rw[A4.o3];exact A4.dues
   simp only[b6,this,cn,b0,var,y8 m rfl,ar,bt];exact bcs K hm
  rw[jm hidx];have A5:At ml L onto (y.set "mail" (d8 m)) st:=A4.set (by decide)
  have e1:=ay0 (τ:=y.set "mail" (d8 m)) y5 y7;have e2:=axp A5 (i7 hm hL) hL2 rfl;have hent:anu (y.set "mail" (d8 m))=some (bkD (u0 (sOf L) p m)):=by
   simp only[anu,tup,cn,b0,kD,e1,e2,tw,af7,ar,bt];rfl
  rw[jm hent];exact a6g hnd (A5.set (by decide)) hlq hgq y1 y2 rfl y4 y5 rfl e1 e2 k k1 k2 hz
def a6i(K:MOK ml)(hL:ml.M<=L.length)(hL2:L.length<=1000){st:St}(hnd:st.nt.Nodup)(hq:∀p,(st.q p).length<=500)(hg:∀p,ja ml (st.q p))(hsh:st.sh.length<=1000){P:PS->Prop}(hgr:ja ml (i::r))(hlr:(i::r).length<=500)(A1:At ml L onto τ st)
  (v1:τ.vars "hand" = some (.hstr (hs (t p)))) (v3:τ.vars "entry" = some (.tup [])) (v4:τ.vars "kind" = some (dS (kL false))) (v5:τ.vars "place" = some (dS (pl p))) (v7:τ.own "place" = none) (hw:sub (aa "wires") (var "place") τ=some (dS (encQ ml (i::r))))
  (k:Kon ml L onto P st z)
  (hz:(match(motive:=It->St) i with
   |none=>note (t p) {st with q:=upd st.q p r,sh:=st.sh++[p]}
   |some m=>r7 onto (sOf L) (if t p∈st.nt/\p∉st.sh then{st with q:=upd st.q p r,ad:=upd st.ad (t p) (addT qplus (st.ad (t p)) (aside1 (sOf L) p m))}else{st with q:=upd st.q p r}) (some ⟨false,p,m,true⟩))=z):bh (agn τ) (On P):=by
 obtain⟨d0,hfi,heq,hnot⟩:∃d0,f_first [dS (encQ ml (i::r))]=some (.tup [d0,dS (encQ ml r)])/\(∀m,i=some m->d0=ew (ml.du m))/\eqD d0 (.tup [.none,.none,.str ""])=some i.isNone:=by
  induction i with
  |none=>exact⟨_,bdm K hgr hlr,(fun _ e=>by cases e),by show eqD (.tup [.none,.none,.str (mkS [])]) (.tup [.none,.none,.str (aj "")])=_;rw[vh];rfl⟩
  |some m=>exact⟨_,bdl K hgr hlr,(fun _ e=>by cases e;rfl),rfl⟩
 unfold agn;rw[aip (by simp only[ao,cn,b0,hw,ar,bt,hfi]:ao f_first [(sub (aa "wires") (var "place"))] τ=some (.tup [d0,dS (encQ ml r)])) (mh _ _ _ _ _)]
 rw[zg (kvs:=a8 ps dS (ir fun p=>encQ ml (st.q p))) (k:=ps p) (kd:=dS (pl p)) ((A1.set (by decide)).set (by decide)).wi rfl v5 rfl (apu dS),aon]
 refine(jm ?_).symm▸a6h K hL hL2 (st:={st with q:=upd st.q p r}) (i:=i) hnd hsh ((((A1.set (by decide)).set (by decide)).wires _ rfl).set (by decide)) (fun x=>upd_len hq (by simp at hlr;exact O.ck [_] [.le .x0 (.c 499)] (.le .x0 (.a (.c 500) (.c 1))) 11 rfl hlr)) (fun x=>upd_good hg fun m hm=>hgr m (er _ hm)) (fun m e=>hgr m (e▸m4)) v1 rfl v3 v4 v5 v7 (fun m e=>congrArg some (heq m e)) k rfl rfl hz
 unfold ofB;rw[cmp_at (b:=.tup [.none,.none,.str ""]) (c:=i.isNone) rfl rfl hnot];rfl
def a7c(K:MOK ml)(hL:ml.M<=L.length)(hL2:L.length<=1000){st:St}(hd:sf ml d)(hnd:st.nt.Nodup)(hq:∀p,(st.q p).length<=500)(hg:∀p,ja ml (st.q p))(hsh:st.sh.length<=1000){P:PS->Prop}(A1:At ml L onto τ st)
  (v1:τ.vars "hand" = some (.hstr (hs (afk d)))) (v2:τ.vars "noting" = some (.bool (afh d))) (v3:τ.vars "entry" = some (.tup [])) (v4:τ.vars "kind" = some (dS (acg d))) (v5:τ.vars "place" = some (aex d)) (v6:τ.vars "mail" = some (d8 (apl d))) (v7:τ.own "place" = none)
  (k:Kon ml L onto P st (step onto (sOf L) st d)):bh (ag (ifF ars ald (ag (ifF agb agn nxt) nxt)) (ag (ifF agc ade nxt) (ag (ifF ac5 adb nxt) nxt)) τ) P:=by
 obtain⟨q1,q2,q3⟩:=a00 d;have hq':∀p,(st.q p).length<=501:=fun p=>aw (hq p) (by decide)
 refine bh.seq (P:=On P) (bh.if' (cmp_at v4 rfl q1:ars τ=some (a1a d)) ?_) fun σ' h=>h
 induction d with
 |note h=>
  refine bh.seq (P:=On P) (bh.if' (c:=false) ?_ (bh.nxt' (k τ st h true none ⟨A1,v1,v2⟩ v3 (fun r e=>by cases e) rfl rfl hq' hg rfl))) fun σ' h=>bh.nxt' h
  unfold agb bx;rw[cmp_at v4 rfl q2];rfl
 |send p m=>
  have f1:evM [(shI (sub (aa "place") (kD (.int 0)))),(shI (tup [(kD (.int 1)),(kD (.int 0)),(un fq (sub (aa "sums") (var "mail"))),(kD (.int 0)),r6]))] τ=some [.sh (.hstr (hs (g p))),.sh (bkD (zi (sOf L) m))]:=by
   simp only[aqm,aql,shI,(ay0 v5 v7),tup,cn,b0,kD,un,(axp A1 (i7 hd hL) hL2 v6),r6,fq,sa,bt,ar];rfl
  refine(show bh (ald τ) (On P)from ?_);unfold ald;rw[aes f1 rfl];show bh (ag _ nxt ((τ.set "hand" (.hstr (hs (g p)))).set "entry" (bkD (zi (sOf L) m)))) _;exact a7w K hq hg hd ((A1.set (by decide)).set (by decide)) rfl v2 rfl v4 v5 v6 k
 |take p y=>
  have hw:sub (aa "wires") (var "place") τ=some (dS (encQ ml (st.q p))):=by
   refine(c5 (d:=.dict (a8 ps dS (ir fun p=>encQ ml (st.q p)))) (k:=dS (pl p)) (by unfold aa;rw[A1.wi];rfl) v5).trans ?_
   exact(bc7 _ _).trans (apo dS)
  refine(show bh (ag (ifF agb agn nxt) nxt τ) (On P)from ?_);refine bh.seq (P:=On P) (bh.if' (iw (cmp_at v4 rfl q2) (iw (cmp_at hw rfl (by rw[baq,bel])) rfl):agb τ=some (true && (!(st.q p).isEmpty && true))) ?_) fun σ' h=>bh.nxt' h
  cases hqp:st.q p with
  |nil=>exact bh.nxt' (k τ st (t p) false none ⟨A1,v1,v2⟩ v3 (fun r e=>by cases e) rfl rfl hq' hg (by rw[u7 hqp];rfl))
  |cons i r=>
   rw[hqp]at hw;exact a6i K hL hL2 hnd hq hg hsh (hqp▸hg p:ja ml (i::r)) (hqp▸hq p) A1 v1 v3 v4 v5 v7 hw k (by cases i with|none=>rw[step_none hqp];rfl|some=>rw[s9 hqp,tkS];dsimp only;split<;>rfl)
def a7d(K:MOK ml)(hL:ml.M<=L.length)(hL2:L.length<=1000){st:St}(Pr:Pre ml L onto σ st d)(hd:sf ml d)(hnd:st.nt.Nodup)(hq:∀p,(st.q p).length<=500)(hg:∀p,ja ml (st.q p))(hsh:st.sh.length<=1000){P:PS->Prop}
  (k:Kon ml L onto P st (step onto (sOf L) st d)):bh (akj σ) P:=by
 obtain⟨q1,q2,q3⟩:=a00 d;have hput:evM P0 σ=some [.sh (.hstr (hs (afk d))),.sh (.bool (afh d)),.sh (.tup [])]:=by
  have e1:sub (aa "place") (un fq (kD (.int 1))) σ=some (.hstr (hs (afk d))):=
   (c5 (d:=aex d) (k:=.int (-1)) (by unfold aa;rw[Pr.oplace];exact Pr.place) rfl).trans (a9d d)
  have e2:ofB (cmp eqD (var "kind") (kD (.str "note"))) σ=some (.bool (afh d)):=by
   unfold ofB;rw[cmp_at Pr.kind rfl q3];rfl
  simp only[P0,aqm,aql,shI,e1,e2,tup,cn,b0,bt,ar]
 unfold akj;rw[aes hput rfl];show bh (ag _ _ (((σ.set "hand" (.hstr (hs (afk d)))).set "noting" (.bool (afh d))).set "entry" (.tup []))) P;exact a7c K hL hL2 hd hnd hq hg hsh (((Pr.at'.set (by decide)).set (by decide)).set (by decide)) rfl rfl rfl Pr.kind Pr.place Pr.mail Pr.oplace k
def bgm(K:MOK ml)(hL:ml.M<=L.length)(hL2:L.length<=1000){st:St}(Pr:Pre ml L onto σ st d)(hd:sf ml d)(Z:Sz ml n st)(hn:n<=500) :
  bh (akj σ) fun σ'=>At ml L onto σ' (step onto (sOf L) st d):=by
 refine a7d K hL hL2 Pr hd Z.nd (fun p=>aw (Z.q p) hn) Z.good (aw Z.sh (O.azz hn)) fun σ' st' h noting ent M E he hnt hlg hq hg hst=>?_
 refine bh.seq (a7b M E he (by rw[hlg];exact aw Z.lg (O.azz hn))) fun σ2 M2=>?_
 have e1:(r7 onto (sOf L) st' ent).nt=st.nt:=by cases ent<;>exact hnt
 have e2:(r7 onto (sOf L) st' ent).q=st'.q:=by cases ent<;>rfl
 refine bh.seq (a7a M2 (by rw[e1];exact Z.nd) fun p=>?_) fun σ3 A=>bh.nxt' ?_
 .rw[e2];have:=afr K (hg p);have:=hq p;exact O.c0 [_,_] [.le .x0 (.m 200 .x1),.le .x1 (.c 501)] (.le .x0 (.c 1000000)) (.l [1,200,1]) rfl ‹_› this
 .rw[hst]at A;exact A
def a78{s:Nat->Int}{ds:List cv}:∀{st:St} {n:Nat},Sz ml n st->(∀d∈ds,sf ml d)->Sz ml (n+2 * ds.length) (run onto s st ds):=by
 induction ds with
 |nil=>intro st n Z _;exact Z
 |cons d ds ih=>
  intro st n Z h;have:=ih (a66 (onto:=onto) (s:=s) Z (h d (.head _))) fun x hx=>h x (er _ hx)
  have e:n+2 * (d::ds).length=n+2+2 * ds.length:=by simp only[dh];exact O.ck [_,_] [] (.eq (.a .x0 (.m 2 (.a .x1 (.c 1)))) (.a (.a .x0 (.c 2)) (.m 2 .x1))) 1819 rfl
  exact e▸this
def bgt(x y z:String)(a b c:D)(σ:PS):cz [x,y,z] (.tup [a,b,c]) σ=some (((σ.set x a).set y b).set z c):=rfl
noncomputable def jw(ml:fh)(q:Pl->List It):D:=.dict (a8 ps dS (ir fun p=>encQ ml (q p)))
noncomputable def rt(ml:fh)(st:St):D:=.tup [dH bkD (br hds st.bk),jw ml st.q,dH bkD (br st.nt st.nb),dH (dH qD) (br st.nt st.ad),.list (st.lg.map (bz true))]
def a01(f:Pl->V):((ir f).map (·.1)).Nodup:=by
 unfold ir;rw[b5];show(pls.map fun p=>p).Nodup
 decide
def apy(f:Hd->V):((br hds f).map (·.1)).Nodup:=by
 unfold br;rw[b5];show(hds.map fun p=>p).Nodup
 decide
def aqh(K:MOK ml)(hL:ml.M<=L.length)(hL2:L.length<=1000)(held:Hd->Int)(u:Pl->List Nat)(ds:List cv)(hu:∀p,(u p).length<=100/\∀m∈u p,m<ml.M)(hds':∀d∈ds,sf ml d)(hlen:ds.length<=200) :
  f_run [.list (ds.map dx),fg held,jw ml (fun p=>(u p).map some),.list (L.map .int),i0 ml,je ml,.bool onto]=some (rt ml (run onto (sOf L) (init held u) ds)):=by
 have key:akq f_first oh f_stats (cq ["deeds", "held", "start", "sums", "sent", "dues", "onto"] [.list (ds.map dx),fg held,jw ml (fun p=>(u p).map some),.list (L.map .int),i0 ml,je ml,.bool onto])=some (.ret (rt ml (run onto (sOf L) (init held u) ds))):=by
  have hb:akq f_first oh f_stats=(ag (c7 "books" (i4 [] (aeh "abc" (var "held")) (cz ["hand", "purse"]) tt (var "hand") (tup [(kD (.int 0)),(kD (.int 0)),(var "purse"),(kD (.int 0)),r6]))) (ag (c7 "wires" (i4 [] (aci (var "start")) (cz ["place", "text"]) tt (var "place") (var "text"))) (ag (f7 ["noted", "aside", "shut", "log"] [(owI (kD (.dict []))),(owI (kD (.dict []))),(owI (kD (.list []))),(owI (kD (.list [])))])
   (ag (i8 (au (var "deeds")) (cz ["kind", "place", "mail"]) akj) (bw "books" (bw "wires" (bw "noted" (bw "aside" (bw "log" (ag (ej (tup [(var "books"),(var "wires"),(var "noted"),(var "aside"),(var "log")])) nxt)))))))))):=rfl
  rw[hb];have v1:(cq ["deeds", "held", "start", "sums", "sent", "dues", "onto"] [.list (ds.map dx),fg held,jw ml (fun p=>(u p).map some),.list (L.map .int),i0 ml,je ml,.bool onto]).vars "deeds" = some (.list (ds.map dx)):=rfl
  have v2:(cq ["deeds", "held", "start", "sums", "sent", "dues", "onto"] [.list (ds.map dx),fg held,jw ml (fun p=>(u p).map some),.list (L.map .int),i0 ml,je ml,.bool onto]).vars "held" = some (fg held):=rfl
  have v3:(cq ["deeds", "held", "start", "sums", "sent", "dues", "onto"] [.list (ds.map dx),fg held,jw ml (fun p=>(u p).map some),.list (L.map .int),i0 ml,je ml,.bool onto]).vars "start" = some (jw ml (fun p=>(u p).map some)):=rfl
  have v4:(cq ["deeds", "held", "start", "sums", "sent", "dues", "onto"] [.list (ds.map dx),fg held,jw ml (fun p=>(u p).map some),.list (L.map .int),i0 ml,je ml,.bool onto]).vars "sums" = some (.list (L.map .int)):=rfl
  have v5:(cq ["deeds", "held", "start", "sums", "sent", "dues", "onto"] [.list (ds.map dx),fg held,jw ml (fun p=>(u p).map some),.list (L.map .int),i0 ml,je ml,.bool onto]).vars "sent" = some (i0 ml):=rfl
  have v6:(cq ["deeds", "held", "start", "sums", "sent", "dues", "onto"] [.list (ds.map dx),fg held,jw ml (fun p=>(u p).map some),.list (L.map .int),i0 ml,je ml,.bool onto]).vars "dues" = some (je ml):=rfl
  have v7:(cq ["deeds", "held", "start", "sums", "sent", "dues", "onto"] [.list (ds.map dx),fg held,jw ml (fun p=>(u p).map some),.list (L.map .int),i0 ml,je ml,.bool onto]).vars "onto" = some (.bool onto):=rfl
  have o1:(cq ["deeds", "held", "start", "sums", "sent", "dues", "onto"] [.list (ds.map dx),fg held,jw ml (fun p=>(u p).map some),.list (L.map .int),i0 ml,je ml,.bool onto]).own=fun _=>none:=rfl
  generalize cq ["deeds", "held", "start", "sums", "sent", "dues", "onto"] [.list (ds.map dx),fg held,jw ml (fun p=>(u p).map some),.list (L.map .int),i0 ml,je ml,.bool onto]=σ at v1 v2 v3 v4 v5 v6 v7 o1
  have c1:i4 [] (aeh "abc" (var "held")) (cz ["hand", "purse"]) tt (var "hand") (tup [(kD (.int 0)),(kD (.int 0)),(var "purse"),(kD (.int 0)),r6]) σ=some (.dict (a8 hs bkD (br hds (init held u).bk))):=by
   rw[xv (fun h:Hd=>D.tup [dS (hl h),.int (held h)]) (fun _=>true) hs (fun h=>bkD ⟨0,0,held h,0,[]⟩) (xs:=hds) ?_ (by decide) fun h _=>⟨_,mh _ _ _ _ _,rfl,fun _=>⟨_,rfl,rfl,rfl⟩⟩]
   .rw[xp];have:(hds.map fun h=>(hs h,bkD ⟨0,0,held h,0,[]⟩))=a8 hs bkD (br hds (init held u).bk):=by unfold a8 br;rw[b5];rfl
    rw[this,xt ku,zo (apy _)]
   .show((σ.vars "held").bind jg).bind _=_;rw[v2];show(if(aj "abc").cps.all (·<128)=true/\(iu (aj "abc")).length=_ then some (ro (iu (aj "abc")) _)else none)=_
    rw[ajm,if_pos ⟨by decide+kernel,rfl⟩];rfl
  rw[td c1];have c2:i4 [] (aci (var "start")) (cz ["place", "text"]) tt (var "place") (var "text") (σ.setOwn "books" (.dict (a8 hs bkD (br hds (init held u).bk))))=some (.dict (a8 ps dS (ir fun p=>encQ ml ((init held u).q p)))):=by
   rw[xv (fun p:Pl=>D.tup [.str (ps p),dS (encQ ml ((u p).map some))]) (fun _=>true) ps (fun p=>dS (encQ ml ((u p).map some))) (xs:=pls) ?_ (by decide) fun h _=>⟨_,mh _ _ _ _ _,rfl,fun _=>⟨_,rfl,rfl,rfl⟩⟩]
   .rw[xp];have:(pls.map fun p=>(ps p,dS (encQ ml ((u p).map some))))=a8 ps dS (ir fun p=>encQ ml ((init held u).q p)):=by unfold a8 ir;rw[b5];rfl
    rw[this,xt aiy,zo (a01 _)]
   .show(σ.vars "start").bind aky=_;rw[v3];show some (th _)=_;unfold th a8 ir;rw[b5,b5];rfl
  rw[td c2,aes (ds:=[.ow (.dict []),.ow (.dict []),.ow (.list []),.ow (.list [])]) rfl rfl];show ag _ _ ((((((σ.setOwn "books" (.dict (a8 hs bkD (br hds (init held u).bk)))).setOwn "wires" (.dict (a8 ps dS (ir fun p=>encQ ml ((init held u).q p))))).setOwn "noted" (.dict [])).setOwn "aside" (.dict [])).setOwn "shut" (.list [])).setOwn "log" (.list []))=_
  have oo:∀y,σ.own y=none:=fun y=>by rw[o1]
  have A0:At ml L onto ((((((σ.setOwn "books" (.dict (a8 hs bkD (br hds (init held u).bk)))).setOwn "wires" (.dict (a8 ps dS (ir fun p=>encQ ml ((init held u).q p))))).setOwn "noted" (.dict [])).setOwn "aside" (.dict [])).setOwn "shut" (.list [])).setOwn "log" (.list [])) (init held u):=
   ⟨rfl,rfl,rfl,rfl,rfl,rfl,v4,v5,v6,v7,oo _,oo _,oo _⟩
  have w1:((((((σ.setOwn "books" (.dict (a8 hs bkD (br hds (init held u).bk)))).setOwn "wires" (.dict (a8 ps dS (ir fun p=>encQ ml ((init held u).q p))))).setOwn "noted" (.dict [])).setOwn "aside" (.dict [])).setOwn "shut" (.list [])).setOwn "log" (.list [])).vars "deeds" = some (.list (ds.map dx)):=v1
  generalize(((((σ.setOwn "books" (.dict (a8 hs bkD (br hds (init held u).bk)))).setOwn "wires" (.dict (a8 ps dS (ir fun p=>encQ ml ((init held u).q p))))).setOwn "noted" (.dict [])).setOwn "aside" (.dict [])).setOwn "shut" (.list [])).setOwn "log" (.list [])=τ at A0 w1
  have Z0:Sz ml 100 (init held u):=⟨qb,fun p=>by show((u p).map some).length<=100;rw[b8];exact(hu p).1,g9 _,g9 _,fun p m hm=>by
   have:some m∈(u p).map some:=hm;simp at this;exact(hu p).2 m this⟩
  refine zh (P:=fun σ'=>At ml L onto σ' (run onto (sOf L) (init held u) ds)) (ds:=ds.map dx) (by delta au var;rw[w1];rfl) (afm dx (fun pre σ=>At ml L onto σ (run onto (sOf L) (init held u) pre)) (fun pre d post σ hx A=>?_) A0) fun σ' A=>?_
  .refine⟨_,bgt _ _ _ _ _ _ _,?_⟩;have hdd:sf ml d:=hds' d (by rw[hx];exact abu _ (.head _))
   have Z:=a78 (onto:=onto) (s:=sOf L) (ds:=pre) Z0 fun x hx'=>hds' x (by rw[hx];exact abr _ (by assumption))
   have hpl:pre.length<=200:=by have:=congrArg pd hx;simp at this;exact O.ck [_,_,_] [.le .x1 (.c 200),.eq .x1 (.a .x0 (.a .x2 (.c 1)))] (.le .x0 (.c 200)) 1011 rfl hlen this
   refine xe▸?_;refine bgm K hL hL2 (n:=100+2 * pre.length) ⟨((A.set (by decide)).set (by decide)).set (by decide),rfl,rfl,rfl,rfl⟩ hdd Z (O.ck [_] [.le .x0 (.c 200)] (.le (.a (.c 100) (.m 2 .x0)) (.c 500)) 21 rfl hpl)
  .rw[og A.bk,og (show(σ'.set "books" _).own "wires" = _ from A.wi),og (d:=dH bkD (br (run onto (sOf L) (init held u) ds).nt (run onto (sOf L) (init held u) ds).nb)),og (d:=dH (dH qD) (br (run onto (sOf L) (init held u) ds).nt (run onto (sOf L) (init held u) ds).ad)),og (d:=.list ((run onto (sOf L) (init held u) ds).lg.map (bz true)))]
   .exact n7 rfl
   .exact A.lg
   .exact A.as
   .exact A.no
 delta f_run fnF;rw[key];rfl
end
section
open Mine.L
noncomputable abbrev Blk:=Bool×Fin 6
noncomputable def sg:Bool->Nat|true=>40|false=>41
noncomputable def pc:Fin 6->List Nat|0=>[]|1=>[92,40]|2=>[34,41,34]|3=>[92,92]|4=>[34,92,34,41,34]|5=>[92,34]
noncomputable def uq:Fin 6->List Nat|0=>[]|1=>[92,40]|2=>[]|3=>[92,92]|4=>[]|5=>[92,34]
noncomputable def blk(x:Blk):List Nat:=sg x.1::pc x.2
noncomputable def ub(x:Blk):List Nat:=sg x.1::uq x.2
noncomputable def txt(X:List Blk):List Nat:=X.flatMap blk
noncomputable def iz(X:List Blk):List Nat:=X.flatMap ub
noncomputable abbrev Tk:=Nat×List Nat
noncomputable def lk(x:Tk):D:=.tup [.int (x.1:Int),dS x.2]
noncomputable def pcT(i:Nat):Fin 6->List Tk
 |0=>[]|1=>[(i+2,[92,40])]|2=>[(i+1,[34]),(i+2,[41]),(i+3,[34])]|3=>[(i+2,[92,92])]|4=>[(i+1,[34]),(i+3,[92,34]),(i+4,[41]),(i+5,[34])]|5=>[(i+2,[92,34])]
noncomputable def uqT(i:Nat):Fin 6->List Tk
 |0=>[]|1=>[(i+2,[92,40])]|2=>[]|3=>[(i+2,[92,92])]|4=>[]|5=>[(i+2,[92,34])]
noncomputable def mf(i:Nat)(x:Blk):List Tk:=(i,[sg x.1])::pcT i x.2
noncomputable def ubT(i:Nat)(x:Blk):List Tk:=(i,[sg x.1])::uqT i x.2
noncomputable def ke(bl:Blk->List Nat)(T:Nat->Blk->List Tk):Nat->List Blk->List Tk
 |_,[]=>[]
 |i,x::X=>T i x++ke bl T (i+(bl x).length) X
variable{bl:Blk->List Nat}
def ak1{T:Nat->Blk->List Tk}{z0}:ke bl T z0 []=[]:=rfl
def ak0{T:Nat->Blk->List Tk}{i x X:_}:ke bl T i (x::X)=T i x++ke bl T (i+(bl x).length) X:=rfl
variable{c i:Nat}{r:List Nat}
def tu(h:c≠92):df false i (c::r)=lk (i,[c])::df false (i+1) r:=by
 rw[afp,if_neg (by decide),if_neg h];rfl
def aah:df false i (92::c::r)=lk (i+1,[92,c])::df false (i+2) r:=by
 rw[afp,if_neg (by decide),if_pos rfl,afp,if_pos rfl];rfl
def ax9(b:Bool):sg b≠92:=by cases b<;>decide
def bd6(i:Nat)(x:Blk)(r:List Nat):df false i (blk x++r)=(mf i x).map lk++df false (i+(blk x).length) r:=by
 obtain⟨b,k⟩:=x;refine(tu (ax9 b))▸?_
 congr 1
 match k with
 |0=>rfl
 |1=>exact aah
 |2=>
  show df false (i+1) (34::41::34::r)=_;rw[tu (by decide),tu (by decide),tu (by decide)];rfl
 |3=>exact aah
 |4=>
  show df false (i+1) (34::92::34::41::34::r)=_;rw[tu (by decide),aah,tu (by decide),tu (by decide)];rfl
 |5=>exact aah
def bd4(i:Nat)(x:Blk)(r:List Nat):df false i (ub x++r)=(ubT i x).map lk++df false (i+(ub x).length) r:=by
 obtain⟨b,k⟩:=x;show df false i (sg b::(uq k++r))=lk (i,[sg b])::((uqT i k).map lk++df false (i+((uq k).length+1)) r);rw[tu (ax9 b)]
 congr 1
 match k with
 |0=>rfl
 |1=>exact aah
 |2=>rfl
 |3=>exact aah
 |4=>rfl
 |5=>exact aah
theorem aqo{bl:Blk->List Nat}{T:Nat->Blk->List Tk}(h:∀i x r,df false i (bl x++r)=(T i x).map lk++df false (i+(bl x).length) r):∀(X:List Blk) (i:Nat) (r:List Nat),df false i (X.flatMap bl++r)=(ke bl T i X).map lk++df false (i+(X.flatMap bl).length) r
 |[],i,r=>rfl
 |x::X,i,r=>by
  rw[ad6,gj,h,aqo h X];simp only[ak1,ak0,ei,gj,de,asl]
noncomputable def tls:Bool->List Nat|true=>[34,40]|false=>[]
noncomputable def tlT(i:Nat):Bool->List Tk|true=>[(i,[34]),(i+1,[40])]|false=>[]
def a2b(i:Nat)(b:Bool):df false i (tls b)=(tlT i b).map lk:=by
 induction b with
 |false=>rfl
 |true=>
  show df false i [34,40]=_;rw[tu (by decide),tu (by decide)];rfl
def a3v{l:List Nat}(h:∀c∈l,c<128):isA (mkS l)=true:=by
 delta isA mkS;rw[ani];intro c hc;simpa using h c (by simpa using hc)
def bgp:∀x:Blk,∀c∈blk x,c<128:=by rintro⟨b,k⟩;revert k;cases b<;>decide
def a5y:∀x:Blk,∀c∈ub x,c<128:=by rintro⟨b,k⟩;revert k;cases b<;>decide
def axc:∀b:Bool,∀c∈tls b,c<128:=by decide
def a50(X:List Blk)(b:Bool):∀c∈txt X++tls b,c<128:=by
 intro c hc;rcases ji.mp hc with hc|hc
 .obtain⟨x,_,hc⟩:=atg.mp hc;exact bgp x c hc
 .exact axc b c hc
def a5n(X:List Blk)(b:Bool):∀c∈iz X++tls b,c<128:=by
 intro c hc;rcases ji.mp hc with hc|hc
 .obtain⟨x,_,hc⟩:=atg.mp hc;exact a5y x c hc
 .exact axc b c hc
structure SS where
 start:Nat
 op:Option Nat
 res:List (List Nat)
noncomputable def g6(A:List Nat)(s:SS)(x:Tk):SS:=
 if x.2=[34]then match s.op with
  |none=>⟨s.start,some x.1,s.res⟩
  |some o=>⟨x.1+1,none,if s.start≠o then s.res++[(A.drop s.start).take (o - s.start)]else s.res⟩
 else s
structure OK(A:List Nat)(i:Nat)(U:List Nat)(s:SS):Prop where
 op:s.op=none
 le:s.start<=i
 u:s.res.flatten++(A.drop s.start).take (i - s.start)=U
def axk{A:List Nat}{a:Nat}{b:List Nat}(h:A.drop i=b++r)(ha:a<=i):(A.drop a).take (i+b.length - a)=(A.drop a).take (i - a)++b:=by
 have e:i+b.length - a=(i - a)+b.length:=O.ck [_,_,_] [.le .x2 .x0] (.eq (.s (.a .x0 .x1) .x2) (.a (.s .x0 .x2) .x1)) 1010819810181001998101081198181999 rfl ha;rw[e,List.take_add,asy,show a+(i - a)=i from O.o76 ha,h,amb];rfl
def a9y{A:List Nat}{U:List Nat}{s:SS}{x:Blk}(h:OK A i U s)(hA:A.drop i=blk x++r):OK A (i+(blk x).length) (U++ub x) ((mf i x).foldl (g6 A) s):=by
 obtain⟨b,k⟩:=x;obtain⟨st,op,res⟩:=s;obtain⟨rfl,h2,h3⟩:=h;have hs:∀s:SS,g6 A s (i,[sg b])=s:=fun s=>by delta g6;rw[if_neg (by show¬([sg b]=[34]);cases b<;>decide)]
 have same:ub (b,k)=blk (b,k)->(pcT i k).foldl (g6 A) ⟨st,none,res⟩=⟨st,none,res⟩->OK A (i+(blk (b,k)).length) (U++ub (b,k)) ((mf i (b,k)).foldl (g6 A) ⟨st,none,res⟩):=fun e1 e2=>by
  have:(mf i (b,k)).foldl (g6 A) ⟨st,none,res⟩=⟨st,none,res⟩:=by
   show(pcT i k).foldl (g6 A) (g6 A ⟨st,none,res⟩ (i,[sg b]))=_;rw[hs,e2]
  refine this.symm▸?_;refine⟨rfl,by exact O.o60 h2,?_⟩
  rw[axk hA h2,e1,<-h3,gj]
 have quoted:∀n,(∃q,pc k=34::q)->ub (b,k)=[sg b]->i+(blk (b,k)).length=n->(pcT i k).foldl (g6 A) ⟨st,none,res⟩=⟨n,none,if st≠i+1 then res++[(A.drop st).take (i+1 - st)]else res⟩->OK A (i+(blk (b,k)).length) (U++ub (b,k)) ((mf i (b,k)).foldl (g6 A) ⟨st,none,res⟩):=fun n ⟨q,hq⟩ e1 e2 e3=>by
  have:(mf i (b,k)).foldl (g6 A) ⟨st,none,res⟩=⟨n,none,res++[(A.drop st).take (i+1 - st)]⟩:=by
   show(pcT i k).foldl (g6 A) (g6 A ⟨st,none,res⟩ (i,[sg b]))=_;rw[hs,e3,if_pos (by exact O.ck [_,_,_,_] [.le .x0 .x1,.eq (.a .x1 .x2) .x3] (.n (.eq .x0 (.a .x1 (.c 1)))) 10001 rfl h2 e2)]
  refine this▸e2▸?_;refine⟨rfl,ay _,?_⟩;have hA':A.drop i=[sg b]++(pc k++r):=hA;have:=axk hA' h2;dsimp only[qg]at this;rw[ag6,ahh,fo,ah0,this,e1,<-h3];simp
 clear hA;revert k;exact c6 (fun same _=>same rfl rfl) (fun same _=>same rfl rfl) (fun _ quoted=>quoted (i+4) ⟨_,rfl⟩ rfl rfl rfl) (fun same _=>same rfl rfl) (fun _ quoted=>quoted (i+6) ⟨_,rfl⟩ rfl rfl rfl) (fun same _=>same rfl rfl)
theorem azi{A:List Nat}:∀{X:List Blk} {i:Nat} {U r:List Nat} {s:SS},OK A i U s->A.drop i=txt X++r->OK A (i+(txt X).length) (U++iz X) ((ke blk mf i X).foldl (g6 A) s)
 |[],i,U,r,s,h,_=>by simpa[txt,iz,ak1,ak0]using h
 |x::X,i,U,r,s,h,hA=>by
  have e:txt (x::X)=blk x++txt X:=rfl;rw[e,gj]at hA;rw[e,de,<-asl];show OK A _ (U++(ub x++iz X)) ((mf i x++ke blk mf (i+(blk x).length) X).foldl (g6 A) s);rw[abj,<-gj];exact(azi (a9y h hA) (by rw[<-asy,hA,ata];rfl:A.drop (i+(blk x).length)=txt X++r))
noncomputable def acp(A:List Nat)(s:SS):List (List Nat):=if s.start<A.length then s.res++[A.drop s.start]else s.res
def bds(X:List Blk)(b:Bool):(acp (txt X++tls b) ((ke blk mf 0 X++tlT (txt X).length b).foldl (g6 (txt X++tls b)) ⟨0,none,[]⟩)).flatten=iz X++tls b:=by
 have h:=azi (A:=txt X++tls b) (X:=X) (i:=0) (U:=[]) (r:=tls b) (s:=⟨0,none,[]⟩) ⟨rfl,ay _,rfl⟩ rfl;rw[sv,ix]at h;rw[abj];generalize(ke blk mf 0 X).foldl (g6 (txt X++tls b)) ⟨0,none,[]⟩=s at h;obtain⟨st,op,res⟩:=s;obtain⟨rfl,h2,h3⟩:=h;have hle:st<=(txt X).length:=h2;have hdrop:(txt X++tls b).drop st=(txt X).drop st++tls b:=anh hle;have h4:res.flatten++(txt X).drop st=iz X:=by
  rw[<-h3];show _=res.flatten++((txt X++tls b).drop st).take ((txt X).length - st);rw[hdrop,amb (by rw[nz])]
 have fin:acp (txt X++tls b) ⟨st,none,res⟩=if st<(txt X++tls b).length then res++[(txt X++tls b).drop st]else res:=rfl
 have key:(if st<(txt X++tls b).length then res++[(txt X++tls b).drop st]else res).flatten=iz X++tls b:=by
  split
  .rw[ah0,hdrop,<-h4];simp
  .rename_i hn;have:(txt X).length=st/\tls b=[]:=by
    rw[de]at hn;exact⟨O.ck [_,_,_] [.le .x1 .x0,.n (.lt .x1 (.a .x0 .x2))] (.eq .x0 .x1) 1018119 rfl hle hn,uk (O.ck [_,_,_] [.le .x1 .x2,.n (.lt .x1 (.a .x2 .x0))] (.eq .x0 (.c 0)) 181119 rfl hle hn)⟩
   rw[this.2,fo,<-h4,rg (by exact O.ck [_,_] [.an (.eq .x0 .x1) (.h _)] (.le .x0 .x1) 101 rfl this),fo]
 induction b with
 |false=>exact key
 |true=>exact key
def a0y:aj "\"" = mkS [34]:=by rw[j4];rfl
theorem azl(c:Nat):∀(x:List Nat) (i:Nat),(f9 [c] 0 i 1 x).isEmpty=!decide (c∈x)
 |[],i=>rfl
 |a::r,i=>by
  dsimp only[zv,zu,rz];by_cases h:a=c
  .subst h;rw[if_pos ⟨by exact ay _,by simp[sy]⟩];simp
  .rw[if_neg (by simp[sy,g7 h]),azl c r]
   simp[g7 h]
def baf(A:List Nat):afb (.str "\"") (dS A)=some (!decide (34∈A)):=by
 show afb (.str (aj "\"")) (.str (mkS A))=_;rw[a0y];show some (!(!(aax (mkS A) (mkS [34]) 0 (mkS A).length 1).isEmpty))=_;rw[ai6 _ _ _ (by decide),gc,gc,azl]
 simp
def bgo:∀x:Blk,34∉blk x->ub x=blk x:=by rintro⟨b,k⟩;revert k;cases b<;>decide
def a9b{X:List Blk}(h:34∉txt X):iz X=txt X:=by
 induction X with
 |nil=>rfl
 |cons x X ih=>
  have e:txt (x::X)=blk x++txt X:=rfl;rw[e,ji,not_or]at h;show ub x++iz X=blk x++txt X;rw[ih h.2];rw[bgo x h.1]
noncomputable def opD:Option Nat->D
 |none=>.none
 |some o=>.int (o:Int)
structure AtS(A:List Nat)(σ:PS)(s:SS):Prop where
 st:σ.vars "start" = some (.int (s.start:Int))
 op:σ.vars "open_pos" = some (opD s.op)
 oo:σ.own "open_pos" = none
 res:σ.own "result" = some (.list (s.res.map dS))
 ad:σ.vars "addr" = some (dS A)
 oa:σ.own "addr" = none
def bd8(x:List Nat):eqD (dS x) (.str "\"")=some (decide (x=[34])):=by
 show eqD (.str (mkS x)) (.str (aj "\""))=_;rw[a0y,aai,nf];refine if h:x=[34]then ?_ else ?_
 .subst h;rfl
 .rw[decide_eq_false h,beq_eq_false_iff_ne.mpr h]
def a06(l:List (List Nat))(h:l.flatten.length<=1000000):gw (.str "") [.list (l.map dS)]=some (dS l.flatten):=by
 show gw (.str (aj "")) _=_;rw[vh];show((l.map dS).mapM b7).bind _=_;have hs:((l.map mkS).map (·.length)).sum=l.flatten.length:=by
  refine b5.symm▸auh.symm▸?_
  congr 1
 rw[afe,ar,if_pos (ap3 (by
  rw[hs,fe];simp only[jt,Nat.mul_zero];exact O.ck [_,_] [.le .x0 (.c 1000000),.eq .x1 .x0] (.le (.a .x0 (.c 0)) (.c 16777216)) 1001 rfl h hs))]
 congr 2
 refine xq ?_;rw[Mine.L.aju,gc,ap6,b5]
 congr 1
 rw[j3 (g:=_root_.id) (fun x _=>by show(mkS x).cps.toList=_;rw[gc];rfl),ado]
theorem aog(A:List Nat):∀(T:List Tk) (s:SS),(T.foldl (g6 A) s).res.length<=s.res.length+T.length
 |[],s=>ay _
 |x::T,s=>by
  have h2:(g6 A s x).res.length<=s.res.length+1:=by
   delta g6;split
   .split
    .exact fm _
    .dsimp only;split<;>simp
   .exact fm _
  exact q8▸dh▸(O.apc (aog A T (g6 A s x)) h2)
theorem axb{bl:Blk->List Nat}{T:Nat->Blk->List Tk}(h:∀i x,(T i x).length<=10):∀(X:List Blk) (i:Nat),(ke bl T i X).length<=10 * X.length
 |[],i=>g9 _
 |x::X,i=>by
  have:=h i x;have:=axb h X (i+(bl x).length) (bl:=bl);simp only[ak1,ak0,de,dh];exact O.azy ‹_› this
theorem txt_len{bl:Blk->List Nat}(h:∀x,(bl x).length<=10):∀X:List Blk,(X.flatMap bl).length<=10 * X.length
 |[]=>g9 _
 |x::X=>by have:=h x;have:=txt_len h X;simp only[ad6,de,dh];exact O.azy ‹_› this
def blk_len:∀x:Blk,(blk x).length<=10:=by rintro⟨b,k⟩;revert k;cases b<;>decide
def ub_len:∀x:Blk,(ub x).length<=10:=by rintro⟨b,k⟩;revert k;cases b<;>decide
def bgq:∀i (x:Blk),(mf i x).length<=10:=by
 rintro i ⟨b,k⟩
 match k with
 |0=>exact o8 rfl
 |1=>exact o8 rfl
 |2=>exact o8 rfl
 |3=>exact o8 rfl
 |4=>exact o8 rfl
 |5=>exact o8 rfl
def bdw(X:List Blk)(b:Bool)(hX:X.length<=1000):f_strip [dS (txt X++tls b)]=some (dS (iz X++tls b)):=by
 have key:ako (cq ["addr"] [dS (txt X++tls b)])=some (.ret (dS (iz X++tls b))):=by
  unfold ako;have v0:(cq ["addr"] [dS (txt X++tls b)]).vars "addr" = some (dS (txt X++tls b)):=rfl;have oo:(cq ["addr"] [dS (txt X++tls b)]).own=fun _=>none:=rfl
  generalize cq ["addr"] [dS (txt X++tls b)]=σ at v0 oo;have o1:∀y,σ.own y=none:=fun y=>by rw[oo]
  have ht:cmp afb (kD (.str "\"")) (aa "addr") σ=some (!decide (34∈txt X++tls b)):=cmp_at (b:=dS (txt X++tls b)) rfl (by unfold aa;rw[o1];exact v0) (baf _)
  by_cases hq:34∈txt X++tls b
  .have hlen:(txt X++tls b).length<=20000:=by
    rw[de];exact O.azx hX (txt_len blk_len X:(txt X).length<=10 * X.length) (by cases b<;>decide:(tls b).length<=2)
   rw[decide_eq_true hq]at ht;rw[qs ht,if_neg (by decide),ayb]
   rw[jm (d:=.int 0) rfl,jm (d:=.none) rfl,td (d:=.list []) rfl];have A0:AtS (txt X++tls b) (((σ.set "start" (.int 0)).set "open_pos" .none).setOwn "result" (.list [])) ⟨0,none,[]⟩:=⟨rfl,rfl,rfl,rfl,v0,o1 _⟩;generalize((σ.set "start" (.int 0)).set "open_pos" .none).setOwn "result" (.list [])=τ at A0;have hesc:aae tv [(var "addr")] τ=some ((ke blk mf 0 X++tlT (txt X).length b).map lk):=by
    unfold aae var;simp only[cn,b0,A0.ad,ar,bt];show(if isA (mkS (txt X++tls b))=true then some (df false 0 (mkS (txt X++tls b)).cps.toList)else none)=_
    rw[if_pos (a3v (a50 X b)),gc];have:=aqo (bl:=blk) (T:=mf) bd6 X 0 (tls b);show some (df false 0 (X.flatMap blk++tls b))=_;rw[this,sv,a2b,ei];rfl
   have hTK:(ke blk mf 0 X++tlT (txt X).length b).length<=20000:=by
    rw[de];exact O.azx hX (axb (bl:=blk) bgq X 0) (by cases b<;>simp[tlT]:(tlT (txt X).length b).length<=2)
   have hfin:=bds X b;generalize ke blk mf 0 X++tlT (txt X).length b=TK at hesc hTK hfin;refine zh (P:=fun σ'=>AtS (txt X++tls b) σ' (TK.foldl (g6 (txt X++tls b)) ⟨0,none,[]⟩)) hesc (afm lk (fun pre σ=>AtS (txt X++tls b) σ (pre.foldl (g6 (txt X++tls b)) ⟨0,none,[]⟩)) (fun pre a post σ hx A1=>?_) A0) fun σ' A1=>?_
   .refine⟨_,mh _ _ _ _ _,?_⟩;rw[abj,q8,as0];have hres:=aog (txt X++tls b) pre ⟨0,none,[]⟩;generalize pre.foldl (g6 (txt X++tls b)) ⟨0,none,[]⟩=s at A1 hres;have hrl:s.res.length<=20000:=aw hres (by show 0+pre.length<=20000;exact O.azw (by have:=congrArg pd hx;simp at this;exact O.ck [_,_,_] [.le .x1 (.c 20000),.eq .x1 (.a .x0 (.a .x2 (.c 1)))] (.le .x0 (.c 20000)) 1011 rfl hTK this:pre.length<=20000))
    have A2:AtS (txt X++tls b) ((σ.set "pos" (.int (a.1:Int))).set "ch" (dS a.2)) s:=⟨A1.st,A1.op,A1.oo,A1.res,A1.ad,A1.oa⟩;have w1:((σ.set "pos" (.int (a.1:Int))).set "ch" (dS a.2)).vars "pos" = some (.int (a.1:Int)):=rfl;have w2:((σ.set "pos" (.int (a.1:Int))).set "ch" (dS a.2)).vars "ch" = some (dS a.2):=rfl;generalize(σ.set "pos" (.int (a.1:Int))).set "ch" (dS a.2)=φ at A2 w1 w2;refine bh.seq (bh.if' (cmp_at w2 rfl (bd8 _):cmp eqD (var "ch") (kD (.str "\"")) φ=some (decide (a.2=[34]))) ?_) fun σ' h=>bh.nxt' h
    obtain⟨st,op,res⟩:=s;by_cases ha:a.2=[34]
    .rw[decide_eq_true ha,if_pos rfl];unfold g6;rw[if_pos ha];induction op with
     |none=>
      refine bh.seq (bh.if' (cmp_at A2.op rfl rfl:cmp ac0 (var "open_pos") (kD .none) φ=some true) ?_) fun σ' h=>bh.nxt' h
      rw[if_pos rfl,jm w1];exact bh.nxt' ⟨A2.st,rfl,rfl,A2.res,A2.ad,A2.oa⟩
     |some o=>
      refine bh.seq (bh.if' (cmp_at A2.op rfl rfl:cmp ac0 (var "open_pos") (kD .none) φ=some false) ?_) fun σ' h=>bh.nxt' h
      rw[if_neg (by decide)]
      have t3:cmp neD (var "start") (aa "open_pos") φ=some ((st:Int) != (o:Int)):=cmp_at A2.st (b:=.int (o:Int)) (by unfold aa;rw[A2.oo];exact A2.op) rfl
      refine bh.seq (P:=fun σ'=>AtS (txt X++tls b) σ' ⟨st,some o,if st≠o then res++[((txt X++tls b).drop st).take (o - st)]else res⟩/\σ'.vars "pos" = some (.int (a.1:Int))) (bh.if' t3 ?_) fun σ' ⟨h,hp⟩=>?_
      .by_cases hne:st=o
       .have:((st:Int) != (o:Int))=false:=by simp[hne]
        rw[this,if_neg (by decide),if_neg (by simp[hne])]
        exact bh.nxt' ⟨A2,w1⟩
       .have:((st:Int) != (o:Int))=true:=bne_iff_ne.2 fun e=>hne (ahc e)
        rw[this,if_pos rfl,if_pos hne];have hsl:sl (aa "addr") (pI (var "start")) (pI (var "open_pos")) pN φ=some (dS (((txt X++tls b).drop st).take (o - st))):=by
         have:=ax7 (txt X++tls b) st o (aw (by assumption) (by decide))
         simp only[sl,aa,pI,sa,pN,var,A2.oa,A2.ad,A2.st,A2.op,opD,adu,ar,bt];exact this
        rw[vc A2.res hsl (by rw[et,b8];have hrl':res.length<=20000:=hrl;exact rf (by assumption) (by decide))]
        exact bh.nxt' ⟨⟨A2.st,A2.op,A2.oo,by show some (D.list _)=_;simp only[ei,ee,wj],A2.ad,A2.oa⟩,w1⟩
      .rw[jm (d:=.int ((a.1:Int)+1)) (by unfold bin var;rw[hp];rfl),jm (d:=.none) rfl]
       exact bh.nxt' ⟨rfl,rfl,rfl,h.res,h.ad,h.oa⟩
    .rw[decide_eq_false ha,if_neg (by decide)]
     unfold g6;rw[if_neg ha];exact bh.nxt' A2
   .have hres:=aog (txt X++tls b) TK ⟨0,none,[]⟩;have hrl:(TK.foldl (g6 (txt X++tls b)) ⟨0,none,[]⟩).res.length<=20000:=aw hres (by show 0+TK.length<=20000;exact O.azw hTK)
    generalize TK.foldl (g6 (txt X++tls b)) ⟨0,none,[]⟩=s at A1 hfin hrl;have hl:un cx (aa "addr") σ'=some (.int ((txt X++tls b).length:Int)):=by
     unfold un aa;rw[A1.oa,A1.ad];show(if(mkS (txt X++tls b)).length<2 ^ 62 then some (D.int ((mkS (txt X++tls b)).length:Int))else none)=_
     rw[fe,if_pos (by exact O.ck [_] [.le .x0 (.c 20000)] (.lt .x0 (.c 4611686018427387904)) 11 rfl hlen)]
    have t4:cmp (j0 fun a b=>decide (a<b)) (var "start") (un cx (aa "addr")) σ'=some (decide (s.start<(txt X++tls b).length)):=cmp_at A1.st hl (by
     show some (decide ((s.start:Int)<_))=_
     congr 1
     by_cases h:s.start<(txt X++tls b).length
     .rw[decide_eq_true h,decide_eq_true (mx.2 h)]
     .rw[decide_eq_false h,decide_eq_false fun c=>h (mx.1 c)])
    have fin:∀τ:PS,τ.own "result" = some (.list ((acp (txt X++tls b) s).map dS))->bw "result" (ag (ej (b6 gw (kD (.str "")) [(var "result")])) nxt) τ=some (.ret (dS (iz X++tls b))):=fun τ h=>by
     rw[og h];refine n7 ?_;have hj:=a06 (acp (txt X++tls b) s) (by
      rw[hfin,de];exact O.c0 [_,_,_] [.le .x2 (.c 1000),.le .x0 (.m 10 .x2),.le .x1 (.c 2)] (.le (.a .x0 .x1) (.c 1000000)) (.l [1,1,1,10]) rfl hX (txt_len ub_len X:(iz X).length<=10 * X.length) (by cases b<;>decide:(tls b).length<=2))
     simp only[b6,kD,cn,b0,var,m8,if_true,ar,bt];rw[hj,hfin]
    rw[qs t4];by_cases hlt:s.start<(txt X++tls b).length
    .rw[decide_eq_true hlt,if_pos rfl];have hsl:sl (aa "addr") (pI (var "start")) pN pN σ'=some (dS ((txt X++tls b).drop s.start)):=by
      have:=an2 (txt X++tls b) s.start (aw (by assumption) (by decide))
      simp only[sl,aa,pI,sa,pN,var,A1.oa,A1.ad,A1.st,adu,ar,bt];exact this
     have e:=vc (F:=nxt) A1.res hsl (by rw[et,b8];exact rf (by assumption) (by decide))
     show(ag (ag (jr "result" (sl (aa "addr") (pI (var "start")) pN pN)) nxt) _ σ')=_;have e2:∀H,ag (ag (jr "result" (sl (aa "addr") (pI (var "start")) pN pN)) nxt) H σ'=H (σ'.setOwn "result" (.list (s.res.map dS++[dS ((txt X++tls b).drop s.start)]))):=fun H=>by
      unfold ag at e |-;rw[e];rfl
     rw[e2];refine fin _ ?_;unfold acp;rw[if_pos hlt];show some (D.list _)=_;simp only[ei,ee,wj]
    .rw[decide_eq_false hlt,if_neg (by decide),ayb]
     refine fin _ ?_;unfold acp;rw[if_neg hlt];exact A1.res
  .rw[decide_eq_false hq]at ht;rw[qs ht,if_pos (by rfl)]
   have hf:bw "result" (ag (ej (var "addr")) nxt) σ=some (.ret (dS (txt X++tls b))):=by
    unfold bw PS.freeze;rw[o1];exact n7 v0
   have:b=false:=by
    induction b with
    |false=>rfl
    |true=>exact absurd (abu _ (by decide)) hq
   subst this;unfold ag at hf |-;rw[hf,a9b (fun h=>hq (abr _ h):34∉txt X)];rfl
 unfold f_strip fnF;rw[key];rfl
noncomputable def chk:Int->List (List Nat)->Option Int
 |d,[]=>some d
 |d,x::r=>if x=[40]then chk (d+1) r else if x=[41]then(if d - 1<0 then none else chk (d - 1) r)else chk d r
def yd{d x r:_}:chk d (x::r)=if x=[40]then chk (d+1) r else if x=[41]then(if d - 1<0 then none else chk (d - 1) r)else chk d r:=rfl
theorem aq6:∀(X:List Blk) (i d:Nat) (r:List (List Nat)),chk (d:Int) ((ke ub ubT i X).map (·.2)++r)=match bal d (X.map (·.1))with|some e=>chk (e:Int) r|none=>none
 |[],i,d,r=>rfl
 |(b,k)::X,i,d,r=>by
  have skip:∀(d:Int) (q:List (List Nat)),chk d ((uqT i k).map (·.2)++q)=chk d q:=fun d q=>by
   match k with
   |0=>rfl
   |1=>rw[show(uqT i 1).map (·.2)++q=[92,40]::q from rfl,yd,if_neg (by decide),if_neg (by decide)]
   |2=>rfl
   |3=>rw[show(uqT i 3).map (·.2)++q=[92,92]::q from rfl,yd,if_neg (by decide),if_neg (by decide)]
   |4=>rfl
   |5=>rw[show(uqT i 5).map (·.2)++q=[92,34]::q from rfl,yd,if_neg (by decide),if_neg (by decide)]
  have e:(ke ub ubT i ((b,k)::X)).map (·.2)++r=[sg b]::((uqT i k).map (·.2)++((ke ub ubT (i+(ub (b,k)).length) X).map (·.2)++r)):=by
   simp[ak1,ak0,ubT]
  rw[e];induction b with
  |true=>
   rw[yd,if_pos (show [sg true]=[40]from rfl),skip];have:=aq6 X (i+(ub (true,k)).length) (d+1) r;rw[show((d+1:Nat):Int)=(d:Int)+1 from rfl]at this;rw[this];rfl
  |false=>
   rw[yd,if_neg (by decide),if_pos (show [sg false]=[41]from rfl)]
   induction d with
   |zero=>rw[if_pos (by decide)];rfl
   |succ d=>
    rw[if_neg (show¬(((d+1:Nat):Int) - 1<0)from aa3.2 (show(0:Int)<=(d:Int)+1 - 1 from(abo (d:Int) 1).symm▸uf d)),skip];have:=aq6 X (i+(ub (false,k)).length) d r;rw[show(((d+1:Nat):Int) - 1)=(d:Int)from abo (d:Int) 1,this];rfl
def apw:aj "(" = mkS [40]:=by rw[j4];rfl
def ajr:aj ")" = mkS [41]:=by rw[j4];rfl
def a2d(s:String)(c:Nat)(hc:aj s=mkS [c])(x:List Nat):eqD (dS x) (.str s)=some (decide (x=[c])):=by
 show eqD (.str (mkS x)) (.str (aj s))=_;rw[hc,aai,nf];by_cases h:x=[c]
 .subst h;simp
 .rw[decide_eq_false h,beq_eq_false_iff_ne.mpr h]
noncomputable def vl:PS->Option Out:=(ag (ifF (cmp eqD (var "ch") (kD (.str "("))) (ag (r9 "opens" jo (kD (.int 1))) nxt) (ag (ifF (cmp eqD (var "ch") (kD (.str ")"))) (ag (r9 "opens" acj (kD (.int 1))) (ag (ifF (cmp (j0 fun a b=>decide (a<b)) (var "opens") (kD (.int 0))) (ag (ej (kD (.bool false))) nxt) nxt) nxt)) nxt) nxt)) nxt)
def bgn{σ:PS}{d:Int}{x:List Nat}(h1:σ.vars "opens" = some (.int d))(h2:σ.vars "ch" = some (dS x)) :
  vl σ=if x=[40]then some (.next (σ.set "opens" (.int (d+1))))else if x=[41]then(if d - 1<0 then some (.ret (.bool false))else some (.next (σ.set "opens" (.int (d - 1)))))else some (.next σ):=by
 dsimp only[vl];rw[qs (cmp_at h2 rfl (a2d "(" 40 apw x))];by_cases e1:x=[40]
 .rw[decide_eq_true e1,if_pos rfl,if_pos e1];have:=an5 (x := "opens") (op:=jo) (f:=kD (.int 1)) (F:=nxt) (σ:=σ) h1 rfl (r:=.int (d+1)) rfl;unfold ag at this |-;rw[this];rfl
 .rw[decide_eq_false e1,if_neg (by decide),if_neg e1]
  have t2:=cmp_at (f₁:=var "ch") (f₂:=kD (.str ")")) (σ:=σ) h2 rfl (a2d ")" 41 ajr x);by_cases e2:x=[41]
  .rw[if_pos e2];rw[decide_eq_true e2]at t2;have a1:=an5 (x := "opens") (op:=acj) (f:=kD (.int 1)) (σ:=σ) h1 rfl (r:=.int (d - 1)) rfl (F:=(ag (ifF (cmp (j0 fun a b=>decide (a<b)) (var "opens") (kD (.int 0))) (ag (ej (kD (.bool false))) nxt) nxt) nxt))
   have t3:cmp (j0 fun a b=>decide (a<b)) (var "opens") (kD (.int 0)) (σ.set "opens" (.int (d - 1)))=some (decide (d - 1<0)):=cmp_at rfl rfl rfl
   have e3:=qs (a:=ag (r9 "opens" acj (kD (.int 1))) (ag (ifF (cmp (j0 fun a b=>decide (a<b)) (var "opens") (kD (.int 0))) (ag (ej (kD (.bool false))) nxt) nxt) nxt)) (b:=nxt) (F:=nxt) t2
   rw[if_pos rfl]at e3;have e4:=qs (a:=ag (ej (kD (.bool false))) nxt) (b:=nxt) (F:=nxt) t3;by_cases hd:d - 1<0
   .rw[if_pos hd];rw[decide_eq_true hd,if_pos rfl]at e4;unfold ag at e3 e4 a1 |-;rw[e3,a1,e4];rfl
   .rw[if_neg hd];rw[decide_eq_false hd,if_neg (by decide)]at e4
    unfold ag at e3 e4 a1 |-;rw[e3,a1,e4];rfl
  .rw[if_neg e2];rw[decide_eq_false e2]at t2;have e3:=qs (a:=ag (r9 "opens" acj (kD (.int 1))) (ag (ifF (cmp (j0 fun a b=>decide (a<b)) (var "opens") (kD (.int 0))) (ag (ej (kD (.bool false))) nxt) nxt) nxt)) (b:=nxt) (F:=nxt) t2
   rw[if_neg (by decide)]at e3
   unfold ag at e3 |-;rw[e3];rfl
theorem ajj:∀(T:List Tk) (σ:PS) (d:Int),σ.vars "opens" = some (.int d)->match chk d (T.map (·.2))with
  |some e=>bh (lz (cz ["pos", "ch"]) vl (T.map lk) σ) fun σ'=>σ'.vars "opens" = some (.int e)
  |none=>lz (cz ["pos", "ch"]) vl (T.map lk) σ=some (.ret (.bool false))
 |[],σ,d,h=>⟨σ,rfl,h⟩
 |x::T,σ,d,h=>by
  have hb:=bgn (σ:=(σ.set "pos" (.int (x.1:Int))).set "ch" (dS x.2)) (d:=d) (x:=x.2) h rfl;have e0:lz (cz ["pos", "ch"]) vl ((x::T).map lk) σ=(vl ((σ.set "pos" (.int (x.1:Int))).set "ch" (dS x.2))).bind fun|.next σ''=>lz (cz ["pos", "ch"]) vl (T.map lk) σ''|.ret d=>some (.ret d):=rfl
  rw[e0,hb,ee,yd];by_cases e1:x.2=[40]
  .rw[if_pos e1,if_pos e1,ar];exact ajj T _ (d+1) rfl
  .rw[if_neg e1,if_neg e1];by_cases e2:x.2=[41]
   .rw[if_pos e2,if_pos e2];by_cases hd:d - 1<0
    .rw[if_pos hd,if_pos hd];rfl
    .rw[if_neg hd,if_neg hd,ar];exact ajj T _ (d - 1) rfl
   .rw[if_neg e2,if_neg e2,ar];exact ajj T _ d h
def a15(X:List Blk)(b:Bool)(hX:X.length<=1000):f_check [dS (txt X++tls b)]=some (.bool (decide (bal 0 (X.map (·.1))=some 0) && !b)):=by
 have key:akw f_strip (cq ["addr"] [dS (txt X++tls b)])=some (.ret (.bool (decide (bal 0 (X.map (·.1))=some 0) && !b))):=by
  have hb:akw f_strip=(ag (b3 "addr" (ao f_strip [(var "addr")])) (ag (b3 "opens" (kD (.int 0))) (ag (i8 (aae tv [(var "addr")]) (cz ["pos", "ch"]) vl) (ag (ej (ofB (cmp eqD (var "opens") (kD (.int 0))))) nxt)))):=rfl;rw[hb];have v0:(cq ["addr"] [dS (txt X++tls b)]).vars "addr" = some (dS (txt X++tls b)):=rfl;generalize cq ["addr"] [dS (txt X++tls b)]=σ at v0;rw[jm (d:=dS (iz X++tls b)) (by
   unfold ao var;simp only[cn,b0,v0,ar,bt];exact bdw X b hX),jm (d:=.int 0) rfl]
  have hesc:aae tv [(var "addr")] ((σ.set "addr" (dS (iz X++tls b))).set "opens" (.int 0))=some ((ke ub ubT 0 X++tlT (iz X).length b).map lk):=by
   show(if isA (mkS (iz X++tls b))=true then some (df false 0 (mkS (iz X++tls b)).cps.toList)else none)=_
   rw[if_pos (a3v (a5n X b)),gc];have:=aqo (bl:=ub) (T:=ubT) bd4 X 0 (tls b);show some (df false 0 (X.flatMap ub++tls b))=_;rw[this,sv,a2b,ei];rfl
  have hl:=ajj (ke ub ubT 0 X++tlT (iz X).length b) ((σ.set "addr" (dS (iz X++tls b))).set "opens" (.int 0)) 0 rfl;have hc:=aq6 X 0 0 ((tlT (iz X).length b).map (·.2));rw[ei]at hl;rw[show((0:Nat):Int)=0 from rfl]at hc;rw[hc]at hl;generalize(σ.set "addr" (dS (iz X++tls b))).set "opens" (.int 0)=τ at hesc hl;cases hbal:bal 0 (X.map (·.1))with
  |none=>
   rw[hbal]at hl;simp only at hl;rw[show(decide ((none:Option Nat)=some 0) && !b)=false from rfl];simp only[ag,i8,hesc,ar,hl]
  |some e=>
   rw[hbal]at hl;simp only at hl;induction b with
   |false=>
    have hl:bh (lz (cz ["pos", "ch"]) vl ((ke ub ubT 0 X++tlT (iz X).length false).map lk) τ) fun σ'=>σ'.vars "opens" = some (.int (e:Int)):=hl
    refine zh hesc hl fun σ' h=>n7 ?_
    have:cmp eqD (var "opens") (kD (.int 0)) σ'=some ((e:Int)==0):=cmp_at h rfl rfl;dsimp only[ofB];rw[this]
    congr 2
    by_cases he:e=0
    .subst he;rfl
    .have h1:((e:Int)==0)=false:=beq_eq_false_iff_ne.2 fun h=>he (ahc h)
     rw[h1,decide_eq_false (by simp[he])];rfl
   |true=>
    have hk:chk (e:Int) ((tlT (iz X).length true).map (·.2))=some ((e:Int)+1):=by
     show chk (e:Int) [[34],[40]]=_;rw[yd,if_neg (by decide),if_neg (by decide),yd,if_pos rfl];rfl
    rw[hk]at hl;simp only at hl;refine zh hesc hl fun σ' h=>n7 ?_
    have:cmp eqD (var "opens") (kD (.int 0)) σ'=some (((e:Int)+1)==0):=cmp_at h rfl rfl;dsimp only[ofB];rw[this]
    congr 2
    have h1:(((e:Int)+1)==0)=false:=beq_eq_false_iff_ne.2 fun h=>absurd (ahc h) (ato e)
    rw[h1];simp
 dsimp only[f_check,fnF];rw[key];rfl
noncomputable def okX(X:List Blk):Bool:=decide (bal 0 (X.map (·.1))=some 0)
noncomputable def vm:D:=.str "('', '')"
def bdv(Xs:List (List Blk))(hX:∀X∈Xs,X.length<=1000)(hl:Xs.length<=1000):f_valid [.list (Xs.map fun X=>dS (txt X))]=some (.list (Xs.map fun X=>if okX X=true then dS (txt X)else vm)):=by
 have key:akm f_check (cq ["email_header_fields"] [.list (Xs.map fun X=>dS (txt X))])=some (.ret (.list (Xs.map fun X=>if okX X=true then dS (txt X)else vm))):=by
  unfold akm;have v0:(cq ["email_header_fields"] [.list (Xs.map fun X=>dS (txt X))]).vars "email_header_fields" = some (.list (Xs.map fun X=>dS (txt X))):=rfl
  generalize cq ["email_header_fields"] [.list (Xs.map fun X=>dS (txt X))]=σ at v0
  rw[td (d:=.list []) rfl];refine zh (P:=fun σ'=>σ'.own "accepted_values" = some (.list (Xs.map fun X=>if okX X=true then dS (txt X)else vm))) (ds:=Xs.map fun X=>dS (txt X)) (by show(σ.vars "email_header_fields").bind yf=_;rw[v0];rfl)
   (afm (fun X=>dS (txt X)) (fun pre σ=>σ.own "accepted_values" = some (.list (pre.map fun X=>if okX X=true then dS (txt X)else vm))) (fun pre X post σ hx h=>?_) rfl) fun σ' h=>?_
  .refine⟨_,rfl,?_⟩;have hX':=hX X (by rw[hx];exact abu _ (.head _))
   have hpre:pre.length<=1000:=by have:=congrArg pd hx;simp at this;exact O.ck [_,_,_] [.le .x1 (.c 1000),.eq .x1 (.a .x0 (.a .x2 (.c 1)))] (.le .x0 (.c 1000)) 1011 rfl hl this
   have hck:toB (ao f_check [(var "v")]) (σ.set "v" (dS (txt X)))=some (okX X):=by
    have:=a15 X false hX';rw[show txt X++tls false=txt X from fo _]at this;unfold toB ao var;simp only[cn,b0,m8,if_true,ar,bt,this];simp[okX]
   have ht:zy (toB (ao f_check [(var "v")])) (σ.set "v" (dS (txt X)))=some (!okX X):=by dsimp only[zy];rw[hck];rfl
   refine bh.seq (P:=fun τ=>τ.own "accepted_values" = some (.list (pre.map fun X=>if okX X=true then dS (txt X)else vm))/\τ.vars "v" = some (if okX X=true then dS (txt X)else vm)) (bh.if' ht ?_) fun τ ⟨h1,h2⟩=>?_
   .cases okX X with
    |true=>exact bh.nxt' ⟨h,rfl⟩
    |false=>
     show bh (ag (b3 "v" (kD (.str "('', '')"))) nxt _) _;rw[jm (d:=vm) rfl];exact bh.nxt' ⟨h,rfl⟩
   .rw[vc h1 h2 (by rw[et,b8];exact O.ao3 hpre)]
    refine bh.nxt' ?_;show some (D.list _)=_;rw[ei];rfl
  .rw[og h];exact n7 rfl
 dsimp only[f_valid,fnF];rw[key];rfl
noncomputable def nh:List (List Nat):=[[],[46],[97,13,46],[46,10,46],[13,10,46,13,10],[46,46,98]]
noncomputable def ie:List (List Nat):=[[],[46],[40,10],[13,10,46,13,10],[41,39],[13],[39,46,10,46],[34,92,40]]
noncomputable def xj(n:Nat):List Nat:=(toString (n:Int)).toList.map adn
noncomputable def aez(h t1 t2 c n:Nat):List (List Nat):=[nh.getD h [],xj n,ie.getD t1 []++[c]++ie.getD t2 []]
structure yj(n:Nat)(p:List (List Nat)):Prop where
 ex:∃h t1 t2 c,h<6/\t1<8/\t2<8/\c<0xD800/\p=aez h t1 t2 c n
def bbs(σ:PS):lst [(kD (.str "")),(kD (.str ".")),(kD (.str "a\r.")),(kD (.str ".\n.")),(kD (.str "\r\n.\r\n")),(kD (.str "..b"))] σ=some (.list (nh.map dS)):=by
 rw[lit "",lit ".",lit "a\r.",lit ".\n.",lit "\r\n.\r\n",lit "..b"];rfl
def bbr(σ:PS):lst [(kD (.str "")),(kD (.str ".")),(kD (.str "(\n")),(kD (.str "\r\n.\r\n")),(kD (.str ")'")),(kD (.str "\r")),(kD (.str "'.\n.")),(kD (.str "\"\\("))] σ=some (.list (ie.map dS)):=by
 rw[lit "",lit ".",lit "(\n",lit "\r\n.\r\n",lit ")'",lit "\r",lit "'.\n.",lit "\"\\("];rfl
def a8w(a:Int):wc a 6=false:=rfl
def a8x(a:Int):wc a 48=false:=rfl
def a8y(a:Int):wc a 384=false:=rfl
def aag(a b:Int)(hb:b≠0)(hp:wc a b=false):gx (.int a) (.int b)=some (.int (a.fdiv b)):=
 congrArg (o9 D.int) (if_neg fun h=>h.elim hb fun h=>wy (hp.symm.trans h))
def tq(a b:Int)(hb:b≠0):dp (.int a) (.int b)=some (.int (a.fmod b)):=congrArg (o9 D.int) (if_neg hb)
def xo(a:Int)(b:Nat)(hb:0<b):∃k:Nat,k<b/\a.fmod (b:Int)=(k:Int):=by
 have h1:=Int.fmod_nonneg_of_pos a (b:=(b:Int)) (mx.2 hb);have h2:=Int.fmod_lt_of_pos a (b:=(b:Int)) (mx.2 hb);exact⟨(a.fmod b).toNat,mx.1 ((amy h1).symm▸h2),(amy h1).symm⟩
def aqb(l:List (List Nat))(i:Nat)(h:i<l.length)(hz:l.length<=1000):g8 (.list (l.map dS)) (.int (i:Int))=some (dS (l.getD i [])):=by
 refine afl ?_ (O.az4 h hz);rw[abk,gq h];simp[h]
def yg(a b:List Nat)(h:a.length+b.length<=16777216):bb (dS a) (dS b)=some (dS (a++b)):=ak2 a b h
def aif:∀i:Nat,i<8->(ie.getD i []).length<=5:=by decide
def bcy:∀i:Nat,i<6->(nh.getD i []).length<=5:=by decide
def bdx(fig:Int)(n:Nat)(hn:n<1000):∃p,yj n p/\f_parts [.int fig,d8 n]=some (ew p):=by
 obtain⟨h,h1,h2⟩:=xo fig 6 (by decide)
 obtain⟨t1,h3,h4⟩:=xo (fig.fdiv 6) 8 (by decide)
 obtain⟨t2,h5,h6⟩:=xo (fig.fdiv 48) 8 (by decide)
 obtain⟨c,h7,h8⟩:=xo (97+fig.fdiv 384) 55296 (by decide)
 refine⟨aez h t1 t2 c n,⟨h,t1,t2,c,h1,h3,h5,by assumption,rfl⟩,?_⟩
 have key:aks (cq ["figure", "number"] [.int fig,d8 n])=some (.ret (ew (aez h t1 t2 c n))):=by
  unfold aks;have v1:(cq ["figure", "number"] [.int fig,d8 n]).vars "figure" = some (.int fig):=rfl;have v2:(cq ["figure", "number"] [.int fig,d8 n]).vars "number" = some (d8 n):=rfl;have oo:(cq ["figure", "number"] [.int fig,d8 n]).own=fun _=>none:=rfl
  generalize cq ["figure", "number"] [.int fig,d8 n]=σ at v1 v2 oo;rw[jm (bbs _),jm (bbr _)];have w0:((σ.set "heads" (.list (nh.map dS))).set "tails" (.list (ie.map dS))).vars "figure" = some (.int fig):=v1;have w1:((σ.set "heads" (.list (nh.map dS))).set "tails" (.list (ie.map dS))).vars "number" = some (d8 n):=v2;have w2:aa "heads" ((σ.set "heads" (.list (nh.map dS))).set "tails" (.list (ie.map dS)))=some (.list (nh.map dS)):=by unfold aa;rw[te,if_neg (by decide),te,if_pos rfl];rfl
  have w3:aa "tails" ((σ.set "heads" (.list (nh.map dS))).set "tails" (.list (ie.map dS)))=some (.list (ie.map dS)):=by unfold aa;rw[te,if_pos rfl];rfl
  generalize(σ.set "heads" (.list (nh.map dS))).set "tails" (.list (ie.map dS))=τ at w0 w1 w2 w3;have q1:=aif t1 h3;have e1:sub (aa "tails") (bin dp (bin gx (var "figure") (kD (.int 6))) (kD (.int 8))) τ=some (dS (ie.getD t1 [])):=by
   refine(c5 w3 (k:=.int (t1:Int)) ?_).trans (aqb ie t1 h3 (by decide))
   simp only[bin,var,kD,w0,ar,aag fig 6 (by decide) (a8w _),tq _ 8 (by decide)]
   rw[<-h4];rfl
  have e2:sub (aa "tails") (bin dp (bin gx (var "figure") (kD (.int 48))) (kD (.int 8))) τ=some (dS (ie.getD t2 [])):=by
   refine(c5 w3 (k:=.int (t2:Int)) ?_).trans (aqb ie t2 h5 (by decide))
   simp only[bin,var,kD,w0,ar,aag fig 48 (by decide) (a8x _),tq _ 8 (by decide)]
   rw[<-h6];rfl
  have e3:ao akh [(bin dp (bin bb (kD (.int 97)) (bin gx (var "figure") (kD (.int 384)))) (kD (.int 55296)))] τ=some (dS [c]):=by
   simp only[ao,evL,bin,var,kD,w0,ar,bt,aag fig 384 (by decide) (a8y _),bb,sa,tq _ 55296 (by decide)]
   rw[show(97+fig.fdiv 384).fmod 55296=(c:Int)from h8];show(if 0<=(c:Int)/\(c:Int)<=0x10FFFF then some (D.str ⟨#[(c:Int).toNat]⟩)else none)=_
   rw[if_pos ⟨by exact uf _,km.2 (aw (sx h7) (by decide))⟩];rfl
  rw[jm (d:=dS (ie.getD t1 []++[c]++ie.getD t2 [])) (by
   have a1:bin bb (sub (aa "tails") (bin dp (bin gx (var "figure") (kD (.int 6))) (kD (.int 8)))) (ao akh [(bin dp (bin bb (kD (.int 97)) (bin gx (var "figure") (kD (.int 384)))) (kD (.int 55296)))]) τ=some (dS (ie.getD t1 []++[c])):=by
    rw[bin,e1,ar,e3,ar];exact yg _ _ (by simp only[qg];exact rf (by assumption) (by decide))
   rw[bin,a1,ar,e2,ar];exact yg _ _ (by simp only[de,qg];exact O.ck [_,_] [.le .x0 (.c 5),.le .x1 (.c 5)] (.le (.a (.a .x0 (.c 1)) .x1) (.c 16777216)) 111 rfl q1 (aif t2 h5)))]
  refine n7 ?_;have e4:sub (aa "heads") (bin dp (var "figure") (kD (.int 6))) (τ.set "tail" (dS (ie.getD t1 []++[c]++ie.getD t2 [])))=some (dS (nh.getD h [])):=by
   refine(c5 (d:=.list (nh.map dS)) (k:=.int (h:Int)) ?_ ?_).trans (aqb nh h h1 (by decide))
   .have:aa "heads" (τ.set "tail" (dS (ie.getD t1 []++[c]++ie.getD t2 [])))=aa "heads" τ:=rfl;rw[this,w2]
   .show bin dp (var "figure") (kD (.int 6)) τ=_;simp only[bin,var,kD,w0,ar,tq _ 6 (by decide)]
    rw[<-h2];rfl
  have e5:ao ail [(var "number")] (τ.set "tail" (dS (ie.getD t1 []++[c]++ie.getD t2 [])))=some (dS (xj n)):=by
   show(evL [(var "number")] τ).bind ail=_;simp only[evL,var,w1,ar,bt];show(if(n:Int).natAbs<2 ^ 64 then some (D.str (aj (toString (n:Int))))else none)=_
   rw[if_pos (show(n:Int).natAbs<2 ^ 64 from ur hn (by decide)),lit];rfl
  simp only[lst,evL,e4,e5,var,m8,if_true,ar,bt];rfl
 delta f_parts fnF;rw[key];rfl
def a99:∀n:Nat,n<13->(xj n).length<=2/\(∀c∈xj n,c≠39/\c≠13/\c≠10/\c<128):=by decide+kernel
def baa:∀n:Nat,n<13->∀k:Nat,k<13->xj n=xj k->n=k:=by decide+kernel
def a1i:∀h:Nat,h<6->39∉nh.getD h []/\∀c∈nh.getD h [],c<128:=by decide
def axl:∀h:Nat,h<8->∀c∈ie.getD h [],c<128:=by decide
noncomputable def d7(p:List (List Nat)):List Nat:=cf [39] p
def a23(h1:c≠13)(h2:c≠10)(b:List Nat):∀a:List Nat,crl (a++c::b)=crl a++c::crl b:=by
 intro a
 fun_induction crl a with
 |case1=>
  rw[ix,crl]
  .rw[if_neg (by simp[h1,h2])];rfl
  .intro r e;exact absurd e h1
 |case2 r ih=>rw[sk,sk,crl,ih];rfl
 |case3 a r hne h ih=>
  rw[sk,crl]
  .rw[if_pos h,ih];rfl
  .intro q e1 e2;induction r with
   |nil=>simp at e2;exact h2 e2.1
   |cons x r=>simp at e2;exact hne r e1 (by rw[e2.1])
 |case4 a r hne h ih=>
  rw[sk,crl]
  .rw[if_neg h,ih];rfl
  .intro q e1 e2;induction r with
   |nil=>simp at e2;exact h2 e2.1
   |cons x r=>simp at e2;exact hne r e1 (by rw[e2.1])
def bf1:∀a:List Nat,(∀c∈a,c≠13/\c≠10)->crl a=a:=by
 intro a
 fun_induction crl a with
 |case1=>intro _;rfl
 |case2 r ih=>intro h;exact absurd rfl (h 13 (.head _)).1
 |case3 a r hne hc ih=>intro h;have:=h a (.head _);refine iy hc (fun h=>?_) fun h=>?_<;>simp[h]at this
 |case4 a r hne hc ih=>intro h;rw[ih fun c hc=>h c (er _ hc)]
def bfz:∀a:List Nat,39∉a->39∉crl a:=by
 intro a
 fun_induction crl a with
 |case1=>intro h;exact h
 |case2 r ih=>intro h;have:=ih (by simp at h;exact h);simpa using this
 |case3 a r _ _ ih=>intro h;have:=ih (by simp at h;exact h.2);simpa using this
 |case4 a r _ _ ih=>intro h;simp at h;have:=ih h.2;simp[h.1,this]
theorem aen(c:Nat):∀(a z:List Nat) (k:Nat),c∉a->spl [c] 0 k (a++z)=rx a (spl [c] 0 k z)
 |[],z,k,_=>by obtain⟨p,ps,e⟩:=ph [c] z 0 k;rw[ix,e];rfl
 |x::a,z,k,h=>by
  simp at h;rw[sk,spl,if_neg (by simp[sy,h.1]),aen c a z k h.2]
  refine oEE (ph [c] z 0 k) fun p ps e=>?_
  rw[e];rfl
def anz(c:Nat)(z:List Nat)(k:Nat):spl [c] 0 (k+1) (c::z)=[]::spl [c] 0 k z:=by
 rw[spl,if_pos ⟨O.ck [_] [] (.lt (.c 0) (.a .x0 (.c 1))) 1 rfl,by simp[sy]⟩];rfl
theorem ax5(y:List Nat):∀x:List Nat,spl y 0 0 x=[x]
 |[]=>rfl
 |c::r=>by rw[spl,if_neg (fun h=>absurd h.1 (by decide)),ax5 y r];rfl
variable{n:Nat}{p:List (List Nat)}
def n9(h:yj n p)(hn:n<13):∃a b c,p=[a,b,c]/\d7 p=a++39::(b++39::c)/\(d7 p).length<=40/\Low (d7 p)/\39∉a/\b=xj n/\39∉b/\crl b=b/\1<=(d7 p).length:=by
 obtain⟨h,t1,t2,c,h1,h2,h3,h4,rfl⟩:=h;obtain⟨n1,n2⟩:=a99 n hn;have l1:=bcy h h1;have l2:=aif t1 h2;have l3:=aif t2 h3;have e:d7 (aez h t1 t2 c n)=nh.getD h []++39::(xj n++39::(ie.getD t1 []++[c]++ie.getD t2 [])):=by simp[d7,aez,cf]
 refine⟨_,_,_,rfl,e,?_,?_,(a1i h h1).1,rfl,fun hm=>(n2 _ hm).1 rfl,bf1 _ fun x hx=>⟨(n2 x hx).2.1,(n2 x hx).2.2.1⟩,?_⟩
 .rw[e];simp only[de,dh,jt];exact O.ck [_,_,_,_] [.le .x1 (.c 2),.le .x0 (.c 5),.le .x2 (.c 5),.le .x3 (.c 5)] (.le (.a .x0 (.a (.a .x1 (.a (.a (.a .x2 (.a (.c 0) (.c 1))) .x3) (.c 1))) (.c 1))) (.c 40)) 11111 rfl n1 l1 l2 l3
 .rw[e];intro x hx;simp only[ji,dt,ahp,or_false]at hx;rcases hx with hx|rfl|hx|rfl|(hx|rfl)|hx
  .have:=(a1i h h1).2 x hx;exact O.ajc this
  .decide
  .have:=(n2 x hx).2.2.2;exact O.ajc this
  .decide
  .have:=axl t1 h2 x hx;exact O.ajc this
  .exact h4
  .have:=axl t2 h3 x hx;exact O.ajc this
 .rw[e];simp only[de,dh];exact O.ck [_,_,_,_,_] [.le .x1 (.c 2),.le .x0 (.c 5),.le .x2 (.c 5),.le .x4 (.c 5)] (.le (.c 1) (.a .x0 (.a (.a .x1 (.a (.a (.a .x2 (.a .x3 (.c 1))) .x4) (.c 1))) (.c 1)))) 1 rfl n1 l1 l2 l3
def a9k(h:yj n p)(hn:n<13):spl [39] 0 2 (crl (d7 p))=p.map crl/\(p.map crl).length=3:=by
 refine ai7 (n9 h hn) fun a b c ez3 e _ _ ha _ hb hcb _=>?_;subst ez3
 refine⟨?_,rfl⟩;rw[e,a23 (by decide) (by decide),a23 (by decide) (by decide),aen 39 _ _ _ (bfz a ha),anz,hcb,aen 39 _ _ _ hb,anz,ax5]
 simp[rx,hcb]
def aza(h:yj n p)(hn:n<13):(spl [39] 0 2 (cf [39] (p.take 2))).length<=2/\(cf [39] (p.take 2)).length<=40:=by
 refine ai7 (n9 h hn) fun a b c ez3 e hl _ ha _ hb _ _=>?_;subst ez3
 rw[(by simp[cf]:cf [39] ([a,b,c].take 2)=a++39::b)]
 constructor
 .rw[aen 39 _ _ _ ha,anz];have:=aen 39 b [] 1 hb;rw[fo]at this;rw[this];exact ay _
 .replace hl:=e.symm▸hl;simp only[de,dh]at hl |-;exact O.ck [_,_,_] [.le (.a .x0 (.a (.a .x1 (.a .x2 (.c 1))) (.c 1))) (.c 40)] (.le (.a .x0 (.a .x1 (.c 1))) (.c 40)) 11 rfl hl
noncomputable def mailsOf(ps:List (List (List Nat))):fh:=⟨ps.length,fun m=>d7 (ps.getD m []),fun m=>(ps.getD m []).map crl⟩
def bbd{ps:List (List (List Nat))}(h:∀m,m<ps.length->yj m (ps.getD m []))(hl:ps.length<=12):MOK (mailsOf ps) where
 few:=by show ps.length<=100;exact O.ck [_] [.le .x0 (.c 12)] (.le .x0 (.c 100)) 11 rfl hl
 len:=fun m hm=>by refine ae5 (n9 (h m hm) (by have:m<ps.length:=hm;exact O.aca hl this)) fun _ _ _ _ _ q _=>?_;exact q
 rfc:=fun m hm=>a9k (h m hm) (by have:m<ps.length:=hm;exact O.aca hl this)
 inj:=fun m k hm hk e=>by
  have hm:m<ps.length:=hm;have hk:k<ps.length:=hk;refine ai7 (n9 (h m hm) (O.aca hl hm)) fun a b c e1 _ _ _ _ e2 _ e3 _=>?_
  refine ai7 (n9 (h k hk) (O.aca hl hk)) fun a' b' c' e1' _ _ _ _ e2' _ e3' _=>?_
  have e:(ps.getD m []).map crl=(ps.getD k []).map crl:=e;rw[e1,e1']at e;simp only[ee,adv]at e;have:b=b':=by exact e3.symm▸e3'.symm▸e.2.1
  exact baa m (O.aca hl hm) k (O.aca hl hk) (by rw[<-e2,<-e2',this])
def vo{F:D->D->Option Bool}{a b:D}{l m:List D}(h1:F a b=some true)(h2:l5 F l m=some true):l5 F (a::l) (b::m)=some true:=by
 show(F a b).bind (fun x=>(l5 F l m).map (x && ·))=_
 rw[h1,h2];rfl
variable{α:Type}
def a3z{F:D->D->Option Bool}{f g:α->D}{xs:List α}(h:∀x∈xs,F (f x) (g x)=some true):l5 F (xs.map f) (xs.map g)=some true:=by
 induction xs with
 |nil=>rfl
 |cons x xs ih=>exact vo (h x (.head _)) (ih fun y hy=>h y (.tail _ hy))
variable{k:Nat}
def a2t{f g:α->D}{xs:List α}(h:∀x∈xs,ky k (f x) (g x)=some true):ky (k+1) (.list (xs.map f)) (.list (xs.map g))=some true:=
 (if_pos (by simp)).trans (a3z h)
def vi{f g:α->D}{xs:List α}(h:∀x∈xs,ky 7 (f x) (g x)=some true):eqD (.list (xs.map f)) (.list (xs.map g))=some true:=a2t h
def bey(k:Nat)(a:List Nat):ky (k+1) (dS a) (dS a)=some true:=by
 show some (mkS a==mkS a)=_;rw[beq_self_eq_true]
def afv(k:Nat)(a:Int):ky (k+1) (.int a) (.int a)=some true:=by
 show some (a==a)=_;rw[beq_self_eq_true]
def be0(k:Nat)(l:List Int):jf (k+2) (.tup (l.map .int)) (.tup (l.map .int))=some true:=by
 show(l5 (jf (k+1)) _ _).map _=_;rw[a3z (F:=jf (k+1)) fun x _=>show jf (k+1) (.int x) (.int x)=some true from afv k x]
 simp
variable {K V V':Type} [DecidableEq K] {e:K->Str} {f:V->D} {f':V'->D}
def aj7(he:∀{a b},e a=e b↔a=b){A:List (K×V)}{B:List (K×V')}(hl:A.length=B.length)(h:∀p∈A,∃v',look B p.1=some v'/\jf k (f p.2) (f' v')=some true) :
  jf (k+1) (dT e f A) (dT e f' B)=some true:=by
 show(if(a8 e f A).length=(a8 e f' B).length then acv (jf k) (a8 e f' B) (a8 e f A)else some false)=_
 rw[if_pos (by simp[a8,hl])]
 clear hl;induction A with
 |nil=>rfl
 |cons a A ih=>
  obtain⟨v',h1,h2⟩:=h a (.head _);show(jq (a8 e f' B) (e a.1)).elim (some false) (fun d'=>(jf k (f a.2) d').bind fun x=>if x then acv (jf k) (a8 e f' B) (a8 e f A)else some false)=_
  rw[acw he,h1,bt,atj,h2,ar,if_pos rfl];exact ih fun p hp=>h p (er _ hp)
end
section
open Mine.L
variable{V:Type}
def a0u{K:Type}[DecidableEq K]{A:List (K×V)}(h:(A.map (·.1)).Nodup){p:K×V}(hp:p∈A):look A p.1=some p.2:=by
 induction A with
 |nil=>cases hp
 |cons a A ih=>
  obtain⟨x,y⟩:=a;rw[ee,wu]at h;rw[j8];rcases dt.mp hp with rfl|hp
  .rw[if_pos rfl]
  .rw[if_neg,ih h.2 hp];intro e;exact h.1 (ia.mpr ⟨p,hp,e.symm⟩)
variable{k:Nat}
def bev{A B:List (Hd×Int)}(hA:(A.map (·.1)).Nodup)(hB:(B.map (·.1)).Nodup)(h:∀x,look A x=look B x):jf (k+2) (dH .int A) (dH .int B)=some true:=by
 refine aj7 ku (aye hA hB h) fun p hp=>⟨p.2,by rw[<-h];exact a0u hA hp,afv k _⟩
def aj8(k:Nat)(a:Int):jf (k+1) (.int a) (.int a)=some true:=afv k a
def a2r{b c:Bk}(h:ago b c):jf (k+3) (bkD b) (bkD c)=some true:=by
 have e:l5 (jf (k+2)) [.int b.n,.int b.m,.int b.s,.int b.t,dH .int b.tb] [.int c.n,.int c.m,.int c.s,.int c.t,dH .int c.tb]=some true:=by
  rw[h.n,h.m,h.s,h.t];exact vo (aj8 _ _) (vo (aj8 _ _) (vo (aj8 _ _) (vo (aj8 _ _) (vo (bev h.kb h.kc h.tab) rfl))))
 show(l5 (jf (k+2)) _ _).map _=_;rw[e];rfl
def a2f{A B:List (Hd×Bk)}(hA:(A.map (·.1)).Nodup)(hl:A.length=B.length)(h:∀p∈A,∃c,look B p.1=some c/\ago p.2 c):eqD (dH bkD A) (dH bkD B)=some true:=by
 show jf 8 _ _=_;refine aj7 (k:=7) ku hl fun p hp=>?_
 obtain⟨c,h1,h2⟩:=h p hp;exact⟨c,h1,a2r (k:=4) h2⟩
def Fs(σ:PS)(l:List (String×D)):Prop:=∀p∈l,σ.vars p.1=some p.2/\σ.own p.1=none
variable{d:D}{l:List (String×D)}{x:String}{σ:PS}
def Fs.v(h:Fs σ l)(i:Nat)(e:l[i]?=some (x,d)):σ.vars x=some d:=(h _ (qe e)).1
def Fs.o(h:Fs σ l)(i:Nat)(e:l[i]?=some (x,d)):aa x σ=some d:=by
 obtain⟨h1,h2⟩:=h _ (qe e);show(σ.own x).or (σ.vars x)=some d;rw[h2,h1];rfl
variable{y:String}
def Fs.push(h:Fs σ l)(hy:(l.all fun p=>p.1 != y)=true):Fs (σ.set y d) ((y,d)::l):=fun p hp=>by
 rcases dt.mp hp with rfl|hp
 .exact⟨by rw[m8,if_pos rfl],by rw[te,if_pos rfl]⟩
 .have hne:p.1≠y:=by have:=abd.mp hy p hp;simpa using this
  obtain⟨h1,h2⟩:=h p hp;exact⟨by rw[m8,if_neg hne];exact h1,by rw[te,if_neg hne];exact h2⟩
def Fs.own(h:Fs σ l)(hy:(l.all fun p=>p.1 != y)=true):Fs ((σ.setOwn y d).set y d) ((y,d)::l):=fun p hp=>by
 rcases dt.mp hp with rfl|hp
 .exact⟨by rw[m8,if_pos rfl],by rw[te,if_pos rfl]⟩
 .have hne:p.1≠y:=by have:=abd.mp hy p hp;simpa using this
  obtain⟨h1,h2⟩:=h p hp;exact⟨by rw[m8,if_neg hne,ayy,if_neg hne];exact h1,by rw[te,if_neg hne,ab2,if_neg hne];exact h2⟩
variable{f:PS->Option D}
def a7s{F:PS->Option Out}(h:f σ=some d):ag (c7 x f) (bw x F) σ=F ((σ.setOwn x d).set x d):=by
 rw[td h,og (by rw[ab2,if_pos rfl])]
variable{r:Option Out}
def tm{F:PS->Option Out}(H:Fs σ l)(hy:(l.all fun p=>p.1 != x)=true)(h:f σ=some d)(k:∀σ',Fs σ' ((x,d)::l)->F σ'=r):ag (b3 x f) F σ=r:=by
 rw[jm h];exact k _ (H.push hy)
def qx{F:PS->Option Out}(H:Fs σ l)(hy:(l.all fun p=>p.1 != x)=true)(h:f σ=some d)(k:∀σ',Fs σ' ((x,d)::l)->F σ'=r):ag (c7 x f) (bw x F) σ=r:=by
 rw[a7s h];exact k _ (H.own hy)
def aco{g:PS->Option D}{F:PS->Option Out}{e:D}(H:Fs σ l)(hx:(l.all fun p=>p.1 != x)=true)(hy:(((x,d)::l).all fun p=>p.1 != y)=true)(h:f σ=some d)(h2:g σ=some e)(k:∀σ',Fs σ' ((y,e)::(x,d)::l)->F σ'=r) :
  ag (f7 [x,y] [shI f,shI g]) F σ=r:=by
 rw[aes (ds:=[.sh d,.sh e]) (by simp only[aqm,aql,shI,h,h2,bt,ar]) rfl]
 exact k _ ((H.push hx).push hy)
variable{α:Type}
def xg{β:Type}(f:α->β)(l:List α)(lo hi st:Option Int):pickL (l.map f) lo hi st=(pickL l lo hi st).map f:=by
 unfold pickL;rw[b8];generalize sliceRange _ _ _=I;induction I with
 |nil=>rfl
 |cons i I ih=>
  rw[amz,amz,abk];cases l[i]? with
  |none=>exact ih
  |some x=>simp only[bt,ee];rw[ih]
def a9g(l:List α)(lo hi st:Option Int):(pickL l lo hi st).length<=(sliceRange (sliceBounds lo hi st l.length).1 (sliceBounds lo hi st l.length).2.1 (sliceBounds lo hi st l.length).2.2).length:=List.length_filterMap_le _ _
def a9f(l:List α)(a b:Nat):pickL l (some (a:Int)) (some (b:Int)) none=(l.drop a).take (b - a):=by
 rw[<-L.aer,<-L.zk,<-L.yc a l.length 0,<-L.yc b l.length 0];rfl
def aot(l:List α)(b:Nat):pickL l none (some (b:Int)) none=l.take b:=by
 refine .trans ?_ (L.aer l 0 b);rw[ag9,<-L.zk,<-L.yc b l.length 0];rfl
def aou(l:List α)(a:Nat):pickL l (some (a:Int)) none none=l.drop a:=by
 have e:=L.aer l a l.length;rw[<-nz,ad1,adq,<-L.zk,<-L.yc a l.length 0]at e;exact e
def a9h(l:List α):pickL l none none none=l:=by
 have e:=L.aer l 0 l.length;rw[ag9,adq,<-L.zk]at e;exact e.trans ad1
def u9(l:List D)(lo hi st:Option Int)(h:l.length<=1000000)(hs:st≠some 0):jl (.list l) lo hi st=some (.list (pickL l lo hi st)):=by
 show(if l.length<=sizeLine/\st≠some 0 then some (D.list (pickL l lo hi st))else none)=_
 rw[if_pos ⟨by rw[et];exact aw (by assumption) (by decide),hs⟩]
noncomputable def E0:PS->Option D:=(a7 ["script"] (xr (var "bases")) (cz ["k", "base"]) tt (bin bb (var "base") (ao eg [(a7 [] (au (sl (sl (aa "script") pN (pI (kD (.int 60))) pN) (pI (var "k")) pN (pI (kD (.int 12))))) (ax "x") tt (bin dp (var "x") (bin zr (kD (.int 10)) (kD (.int 9)))))])))
noncomputable def E2a:PS->Option D:=(lst [(kD (.str "ab")),(kD (.str "ac")),(kD (.str "ba")),(kD (.str "bc")),(kD (.str "ca")),(kD (.str "cb"))])
noncomputable def E2b:PS->Option D:=(ao eg [(var "cells")])
noncomputable def E3:PS->Option D:=(bin bb (sl (aa "script") pN (pI (kD (.int 12))) pN) (sl (lst [(kD (.int 7)),(un fq (kD (.int 3))),(kD (.int 20)),(kD (.int 12)),(kD (.int 5)),(un fq (kD (.int 9))),(kD (.int 1)),(kD (.int 30)),(un fq (kD (.int 4))),(kD (.int 6)),(kD (.int 2)),(kD (.int 11))]) (pI (un cx (sl (aa "script") pN (pI (kD (.int 12))) pN))) pN pN))
noncomputable def E4:PS->Option D:=(bin bb (sl (aa "script") (pI (kD (.int 12))) (pI (kD (.int 15))) pN) (sl (lst [(kD (.int 100)),(kD (.int 40)),(un fq (kD (.int 5)))]) (pI (un cx (sl (aa "script") (pI (kD (.int 12))) (pI (kD (.int 15))) pN))) pN pN))
noncomputable def E5a:PS->Option D:=(kD (.list []))
noncomputable def E5b:PS->Option D:=(kD (.list []))
noncomputable def I6:PS->Option (List D):=(au (bin bb (var "cells") (lst [(bin bb (bin kr (var "total") (kD (.int 4))) (kD (.int 3)))])))
noncomputable def B6:PS->Option Out:=(ag (ifF (cmp (j0 fun a b=>decide (a<b)) (bin dp (var "cell") (kD (.int 4))) (kD (.int 2))) (ag (jr "deeds" (tup [(kD (.str "send")),(sub (aa "places") (bin dp (bin gx (var "cell") (kD (.int 4))) (kD (.int 6)))),(un cx (aa "mails"))])) (ag (jr "mails" (ao f_parts [(bin gx (var "cell") (kD (.int 24))),(un cx (aa "mails"))])) nxt)) (ag (ifF (cmp eqD (bin dp (var "cell") (kD (.int 4))) (kD (.int 2))) (ag (jr "deeds" (tup [(kD (.str "take")),(sub (aa "places") (bin dp (bin gx (var "cell") (kD (.int 4))) (kD (.int 6)))),(kD (.int 0))])) nxt) (ag (jr "deeds" (tup [(kD (.str "note")),(sub (kD (.str "abc")) (bin dp (bin gx (var "cell") (kD (.int 4))) (kD (.int 3)))),(kD (.int 0))])) nxt)) nxt)) nxt)
noncomputable def E7:PS->Option D:=(a7 ["places", "total"] (aol (kD (.int 84))) (ax "k") tt (tup [(kD (.str "take")),(sub (aa "places") (bin dp (bin bb (var "k") (bin gx (var "total") (kD (.int 3)))) (kD (.int 6)))),(kD (.int 0))]))
noncomputable def E10:PS->Option D:=(a7 [] (au (var "mails")) (ax "mail") tt (b6 gw (kD (.str "'")) [(var "mail")]))
noncomputable def E12:PS->Option D:=(a7 [] (au (var "texts")) (ax "text") tt (b6 gw (kD (.str "\r\n")) [(a7 [] (au (ao qy [(var "text")])) (ax "row") tt (ife (cmp eqD (sl (aa "row") pN (pI (kD (.int 1))) pN) (kD (.str "."))) (bin bb (kD (.str ".")) (var "row")) (var "row")))]))
noncomputable def E14:PS->Option D:=(a7 [] (au (var "texts")) (ax "text") tt (b6 gw (kD (.str "\n")) [(a7 [] (au (b6 m7 (aa "text") [(kD (.str "\n"))])) (ax "row") tt (ife (cmp eqD (sl (aa "row") pN (pI (kD (.int 1))) pN) (kD (.str "."))) (bin bb (kD (.str ".")) (var "row")) (var "row")))]))
noncomputable def E16:PS->Option D:=(a7 [] (au (var "texts")) (ax "text") tt (bin bb (ao f_quote [(var "text")]) (kD (.str "\r\n.\r\n"))))
noncomputable def E18:PS->Option D:=(a7 [] (au (var "mails")) (ax "mail") tt (a7 [] (au (var "mail")) (ax "part") tt (b6 gw (kD (.str "\r\n")) [(ao qy [(var "part")])])))
noncomputable def E20:PS->Option D:=(i4 [] (au (var "places")) (ax "place") tt (var "place") (kD (.str "")))
noncomputable def E22:PS->Option D:=(ao f_run [(var "deeds"),(var "held"),(var "empty"),(var "sums"),(var "sent"),(var "dues"),(kD (.bool true))])
noncomputable def a4m:PS->Option D:=(a7 [] (au (var "log")) (ax "row") (toB (sub (aa "row") (kD (.int 3)))) (sl (aa "row") pN (pI (kD (.int 3))) pN))
noncomputable def a4l:PS->Option D:=(a7 [] (au (var "log")) (ax "row") (zy (toB (sub (aa "row") (kD (.int 3))))) (sl (aa "row") pN (pI (kD (.int 3))) pN))
noncomputable def E24:PS->Option D:=(ao f_run [(var "first"),(var "held"),(var "empty"),(var "sums"),(var "sent"),(var "dues"),(kD (.bool false))])
noncomputable def E25:PS->Option D:=(ao f_run [(var "rest"),(lst [(kD (.int 0)),(kD (.int 0)),(kD (.int 0))]),(sub (aa "again") (kD (.int 1))),(var "sums"),(var "sent"),(var "dues"),(kD (.bool true))])
noncomputable def a4j:PS->Option D:=(ao f_on [(var "first"),(kD (.str "send"))])
noncomputable def a4i:PS->Option D:=(ao f_on [(var "first"),(kD (.str "take"))])
noncomputable def E27:PS->Option D:=(a7 [] (qp (var "gone") (var "past")) (cz ["row", "ahead"]) tt (sl (aa "row") (pI (un cx (aa "ahead"))) pN pN))
noncomputable def E29:PS->Option D:=(a7 ["sums"] (qp (var "places") (var "unders")) (cz ["place", "row"]) (cmp neD (var "row") (lst [])) (tup [(var "place"),(var "row"),(ao eg [(a7 ["sums"] (au (var "row")) (ax "mail") tt (sub (aa "sums") (var "mail")))])]))
noncomputable def E30:PS->Option D:=(i4 ["under"] (au (kD (.str "abc"))) (ax "hand") tt (var "hand") (i4 ["hand"] (au (var "under")) (ax "row") (cmp eqD (sub (sub (aa "row") (kD (.int 0))) (kD (.int 1))) (aa "hand")) (sub (sub (aa "row") (kD (.int 0))) (kD (.int 0))) (tup [(un cx (sub (aa "row") (kD (.int 1)))),(ao eg [(sub (aa "row") (kD (.int 1)))]),(sub (aa "row") (kD (.int 2))),(un fq (sub (aa "row") (kD (.int 2))))])))
noncomputable def alb:PS->Option D:=(ao f_told [(var "first"),(var "held"),(var "sums")])
noncomputable def ala:PS->Option D:=(lst [(sub (aa "noted") (kD (.str "a"))),(sub (aa "noted") (kD (.str "b"))),(sub (aa "noted") (kD (.str "c")))])
noncomputable def E33:PS->Option D:=(ao f_stats [(ao f_stats [(sub (aa "notes") (kD (.int 0))),(sub (aa "notes") (kD (.int 1)))]),(sub (aa "notes") (kD (.int 2)))])
noncomputable def E34:PS->Option D:=(a7 ["sums"] (au (var "first")) (ax "row") (cmp eqD (sub (aa "row") (kD (.int 0))) (kD (.str "take"))) (tup [(sub (sub (aa "row") (kD (.int 1))) (kD (.int 0))),(sub (aa "sums") (sub (aa "row") (kD (.int 2))))]))
noncomputable def E35:PS->Option D:=(i4 ["come"] (au (var "come")) (cz ["giver", "one"]) tt (var "giver") (ao eg [(a7 ["giver"] (au (var "come")) (ax "row") (cmp eqD (sub (aa "row") (kD (.int 0))) (aa "giver")) (sub (aa "row") (kD (.int 1))))]))
noncomputable def ak9:PS->Option D:=(ao eg [(a7 [] (au (var "come")) (ax "row") tt (sub (aa "row") (kD (.int 1))))])
noncomputable def ar2:PS->Option D:=(a7 [] (au (bin bb (var "notes") (lst [(var "whole")]))) (ax "book") tt (ao f_count [(sub (aa "book") (kD (.int 4)))]))
noncomputable def E38:PS->Option D:=(lst [(kD (.str "")),(kD (.str "\\(")),(kD (.str "\")\"")),(kD (.str "\\\\")),(kD (.str "\"\\\")\"")),(kD (.str "\\\""))])
noncomputable def E39:PS->Option D:=(a7 ["pieces", "total"] (au (var "first")) (ax "row") tt (tup [(sub (aa "row") (kD (.int 1))),(bin bb (ife (cmp eqD (sub (aa "row") (kD (.int 0))) (kD (.str "send"))) (kD (.str "(")) (kD (.str ")"))) (sub (aa "pieces") (bin dp (bin bb (sub (aa "row") (kD (.int 2))) (var "total")) (kD (.int 6)))))]))
noncomputable def E40:PS->Option D:=(a7 ["signs"] (au (var "places")) (ax "place") tt (b6 gw (kD (.str "")) [(a7 ["place"] (au (var "signs")) (cz ["wire", "sign"]) (cmp eqD (var "wire") (aa "place")) (var "sign"))]))
noncomputable def ak8:PS->Option D:=(sl (aa "ledgers") pN pN pN)
noncomputable def ak7:PS->Option D:=(ao f_valid [(var "ledgers")])
noncomputable def E43:PS->Option D:=(a7 [] (qp (var "shown") (var "unders")) (cz ["ledger", "row"]) tt (bin bb (var "ledger") (bin kr (kD (.str ")")) (un cx (aa "row")))))
noncomputable def E45:PS->Option D:=(bin bb (bin bb (var "closed") (a7 [] (au (var "closed")) (ax "text") tt (bin bb (bin bb (kD (.str ")")) (var "text")) (kD (.str "("))))) (a7 [] (au (var "closed")) (ax "text") tt (bin bb (var "text") (kD (.str "\"(")))))
noncomputable def E46:PS->Option D:=(ofB (bx (cmp eqD (ao f_quote [(kD (.str ""))]) (kD (.str ""))) (bx (cmp eqD (var "sent") (a7 [] (au (var "due")) (ax "text") tt (bin bb (var "text") (kD (.str "\r\n.\r\n"))))) (bx (cmp eqD (a7 [] (au (var "texts")) (ax "text") tt (b6 vk (ao f_periods [(b6 oi (ao f_eols [(var "text")]) [])]) [])) (aa "due")) (bx (cmp eqD (a7 [] (au (var "texts")) (ax "text") tt (b6 vk (ao f_periods [(b6 oi (aa "text") [])]) [])) (aa "bare")) (bx (cmp eqD (a7 [] (au (var "mails")) (ax "mail") tt (ao f_rfc [(b6 gw (kD (.str "'")) [(sl (aa "mail") pN (pI (kD (.int 2))) pN)])])) (a7 [] (au (var "mails")) (ax "mail") tt (tup [(kD .none),(kD .none),(b6 gw (kD (.str "'")) [(sl (aa "mail") pN (pI (kD (.int 2))) pN)])]))) (bx (cmp eqD (ao f_on [(var "log"),(kD (.str "send"))]) (ao f_on [(var "log"),(kD (.str "take"))])) (bx (cmp eqD (var "aside") (aa "laid")) (bx (cmp eqD (var "books") (ao f_told [(var "log"),(var "held"),(var "sums")])) (bx (cmp eqD (var "noted") (aa "told")) (bx (cmp eqD (var "whole") (tup [(bin subD (un cx (aa "first")) (un cx (aa "come"))),(un cx (aa "come")),(bin subD (ao eg [(var "held")]) (ao eg [(a7 [] (au (var "under")) (ax "row") tt (sub (aa "row") (kD (.int 2))))])),(var "came"),(var "table")])) (bx (cmp eqD (a7 [] (au (var "counts")) (ax "n") (toB (ofB (tst afi (var "n")))) (var "n")) (bin bb (a7 ["told"] (au (kD (.str "abc"))) (ax "hand") tt (sub (sub (aa "told") (var "hand")) (kD (.int 3)))) (lst [(var "came")]))) (bx (cmp eqD (sub (aa "again") (kD (.int 0))) (aa "noted")) (bx (cmp eqD (i4 ["noted", "after"] (au (kD (.str "abc"))) (ax "hand") tt (var "hand") (ao f_stats [(sub (aa "noted") (var "hand")),(sub (sub (aa "after") (kD (.int 0))) (var "hand"))])) (aa "books")) (bx (cmp eqD (var "kept") (a7 [] (qp (var "shown") (var "unders")) (cz ["ledger", "row"]) tt (ife (cmp eqD (var "row") (lst [])) (var "ledger") (kD (.str "('', '')"))))) (bx (cmp eqD (var "ledgers") (aa "shown")) (cmp eqD (a7 [] (xr (var "asked")) (cz ["k", "text"]) tt (ofB (cmp (af3 fun a b=>a==b) (ao f_check [(var "text")]) (ofB (cmp (j0 fun a b=>decide (a<b)) (var "k") (kD (.int 6))))))) (bin kr (lst [(kD (.bool true))]) (kD (.int 18))))))))))))))))))))
noncomputable def bbz:PS->Option Out:=(ag (c7 "cells" E0) (bw "cells" (ag (f7 ["places", "total"] [shI E2a,shI E2b]) (ag (b3 "sums" E3) (ag (b3 "held" E4) (ag (f7 ["deeds", "mails"] [owI E5a,owI E5b]) (ag (i8 I6 (ax "cell") B6) (ag (acq "deeds" E7) (bw "deeds" (bw "mails" (ag (c7 "texts" E10) (bw "texts" (ag (c7 "due" E12) (bw "due" (ag (c7 "bare" E14) (bw "bare" (ag (c7 "sent" E16) (bw "sent" (ag (c7 "dues" E18) (bw "dues" (ag (c7 "empty" E20) (bw "empty" (ag (r8 (cz ["books", "wires", "noted", "aside", "log"]) E22) (ag (f7 ["first", "rest"] [shI a4m,shI a4l]) (ag (b3 "again" E24) (ag (b3 "after" E25) (ag (f7 ["gone", "past"] [shI a4j,shI a4i]) (ag (c7 "unders" E27) (bw "unders" (ag (b3 "under" E29) (ag (c7 "laid" E30) (bw "laid" (ag (f7 ["told", "notes"] [shI alb,shI ala]) (ag (b3 "whole" E33) (ag (b3 "come" E34) (ag (c7 "table" E35) (bw "table" (ag (f7 ["came", "counts"] [shI ak9,shI ar2]) (ag (b3 "pieces" E38) (ag (b3 "signs" E39) (ag (c7 "ledgers" E40) (bw "ledgers" (ag (f7 ["shown", "kept"] [shI ak8,shI ak7]) (ag (c7 "closed" E43) (bw "closed" (ag (b3 "asked" E45) (ag (ej E46) nxt)))))))))))))))))))))))))))))))))))))))))))))))
def bby:arh f_check f_eols f_on f_parts qy f_run f_told f_valid f_periods f_stats f_count f_rfc f_quote=bbz:=rfl
def aox{i:Int}(h:f σ=some (.int i)):pI f σ=some (some i):=by dsimp only[pI];rw[h];rfl
theorem ank{α β γ:Type}(f:α->β->γ):∀(a:List α) (b:List β),yx f a b=(a.zip b).map fun p=>f p.1 p.2
 |[],_=>by rfl
 |_::_,[]=>by rfl
 |x::a,y::b=>by simp[ank f a b]
def a87:zr (.int 10) (.int 9)=some (.int (10 ^ 9)):=rfl
def bf7(L m:Int)(h0:0<=m)(hL:L<=60):(if m<L then(L - m+12 - 1) / 12 else 0).toNat<=100:=by
 split
 .exact alz.2 (Int.le_of_lt (Int.ediv_lt_of_lt_mul (by decide) (aed (Int.sub_le_sub_right (Int.add_le_add_right (wk (Int.sub_le_self _ h0) hL) 12) 1) (by decide))))
 .decide
variable{is:List Int}
def bjb{bs:List Int}(h1:σ.vars "bases" = some (.list (bs.map .int)))(h2:σ.vars "script" = some (.list (is.map .int)))(hl:is.length<=63)(hb:bs.length=12):∃cs:List Int,cs.length=12/\E0 σ=some (.list (cs.map .int)):=by
 let val:Nat×Int->Int:=fun x=>x.2+((pickL (is.take 60) (some (x.1:Int)) none (some 12)).map fun y=>y.fmod (10 ^ 9)).sum
 refine⟨((ed 12).zip bs).map val,by simp[hb],?_⟩
 rw[b5];refine fw (fun x:Nat×Int=>.tup [.int (x.1:Int),.int x.2]) (D.int ∘ val) (xs:=(ed 12).zip bs) ?_ (by simp[hb]) fun x hx=>⟨_,mh _ _ _ _ _,?_⟩
 .dsimp only[xr,var];rw[h1];show some (nk (bs.map .int))=_;dsimp only[nk];rw[b8,hb,avb,ank]
 .have hx1:x.1<12:=by have:=(ahl hx).1;exact y0.1 (by assumption)
  have s1:sl (aa "script") pN (pI (kD (.int 60))) pN (((σ.only ["script"]).set "k" (.int (x.1:Int))).set "base" (.int x.2))=some (.list ((is.take 60).map .int)):=by
   have e:aa "script" (((σ.only ["script"]).set "k" (.int (x.1:Int))).set "base" (.int x.2))=some (.list (is.map .int)):=h2;dsimp only[sl,pI,pN,kD];rw[e];show jl (.list (is.map .int)) none (some (60:Int)) none=_;rw[u9 _ _ _ _ (by rw[b8];exact O.apb hl) (by decide),xg]
   have:=aot is 60;rw[show((60:Nat):Int)=60 from rfl]at this;rw[this]
  have hp:(pickL (is.take 60) (some (x.1:Int)) none (some 12)).length<=100:=by
   refine aw (a9g _ _ _ _) ?_;have ht:(is.take 60).length<=60:=by rw[y6];exact O.ck [_] [.le .x0 (.c 63)] (.le (.mi (.c 60) .x0) (.c 60)) 11819 rfl hl
   dsimp only[sliceRange];rw[b8,amn];dsimp only[sliceBounds];simp only[ats,show((12:Int) > 0)=True from by decide,if_true]
   exact bf7 _ _ (by split<;>exact Int.le_max_left ..) (km.2 ht)
  have s2:sl (sl (aa "script") pN (pI (kD (.int 60))) pN) (pI (var "k")) pN (pI (kD (.int 12))) (((σ.only ["script"]).set "k" (.int (x.1:Int))).set "base" (.int x.2))=some (.list ((pickL (is.take 60) (some (x.1:Int)) none (some 12)).map .int)):=by
   rw[sl,s1];show jl (.list ((is.take 60).map .int)) (some (x.1:Int)) none (some (12:Int))=_;rw[u9 _ _ _ _ (by rw[b8,y6];exact O.ck [_] [.le .x0 (.c 63)] (.le (.mi (.c 60) .x0) (.c 1000000)) 11819 rfl hl) (by decide),xg]
  have s3:=fw (fs:=[]) (F:=au (sl (sl (aa "script") pN (pI (kD (.int 60))) pN) (pI (var "k")) pN (pI (kD (.int 12))))) (b:=ax "x") (f:=bin dp (var "x") (bin zr (kD (.int 10)) (kD (.int 9)))) (σ:=((σ.only ["script"]).set "k" (.int (x.1:Int))).set "base" (.int x.2))
   D.int (fun y:Int=>D.int (y.fmod (10 ^ 9))) (xs:=pickL (is.take 60) (some (x.1:Int)) none (some 12)) (by dsimp only[au];rw[s2];rfl) (O.ck [_] [.le .x0 (.c 100)] (.le .x0 (.c 16777216)) 11 rfl hp) fun y _=>⟨_,rfl,by
    show(some (D.int y)).bind (fun a=>(zr (.int 10) (.int 9)).bind fun b=>dp a b)=_
    rw[a87,ar,ar,tq _ _ (by decide)]⟩
  have s4:=rq ((pickL (is.take 60) (some (x.1:Int)) none (some 12)).map fun y=>y.fmod (10 ^ 9))
  rw[b5]at s4;have s5:ao eg [(a7 [] (au (sl (sl (aa "script") pN (pI (kD (.int 60))) pN) (pI (var "k")) pN (pI (kD (.int 12))))) (ax "x") tt (bin dp (var "x") (bin zr (kD (.int 10)) (kD (.int 9)))))] (((σ.only ["script"]).set "k" (.int (x.1:Int))).set "base" (.int x.2))=some (.int (((pickL (is.take 60) (some (x.1:Int)) none (some 12)).map fun y=>y.fmod (10 ^ 9)).sum)):=by
   dsimp only[ao];simp only[cn,b0,s3,ar,bt];exact s4
  unfold bin at s5 |-;rw[s5];rfl
def bi1{cs:List Int}(h:σ.vars "cells" = some (.list (cs.map .int))):E2b σ=some (.int cs.sum):=by
 delta E2b ao var;simp only[cn,b0,h,ar,bt];exact rq cs
def xm(f:α->D)(l:List α)(h:l.length<=1000000):cx (.list (l.map f))=some (.int (l.length:Int)):=by
 show(if(l.map f).length<2 ^ 63 then some (D.int ((l.map f).length:Int))else none)=_
 rw[b8,if_pos (rf (by assumption) (by decide))]
def bip(h2:σ.vars "script" = some (.list (is.map .int)))(ho:σ.own "script" = none)(hl:is.length<=63):∃L:List Int,L.length=12/\E3 σ=some (.list (L.map .int)):=by
 let D12:List Int:=[7,-3,20,12,5,-9,1,30,-4,6,2,11]
 refine⟨is.take 12++D12.drop (is.take 12).length,by simp[D12];exact O.a96 hl,?_⟩
 have e:aa "script" σ=some (.list (is.map .int)):=by dsimp only[aa];rw[ho];exact h2
 have s1:sl (aa "script") pN (pI (kD (.int 12))) pN σ=some (.list ((is.take 12).map .int)):=by
  dsimp only[sl,pI,pN,kD];rw[e];show jl (.list (is.map .int)) none (some (12:Int)) none=_;rw[u9 _ _ _ _ (by rw[b8];exact O.apb hl) (by decide),xg]
  have:=aot is 12;rw[show((12:Nat):Int)=12 from rfl]at this;rw[this]
 have hlen:(is.take 12).length<=12:=by exact y6▸(O.ck [_] [.le .x0 (.c 63)] (.le (.mi (.c 12) .x0) (.c 12)) 11819 rfl hl)
 have s2:un cx (sl (aa "script") pN (pI (kD (.int 12))) pN) σ=some (.int ((is.take 12).length:Int)):=by
  dsimp only[un];rw[s1,ar,xm _ _ (aw (by assumption) (by decide))]
 dsimp only[E3];rw[bin,s1,ar];have s3:sl (lst [(kD (.int 7)),(un fq (kD (.int 3))),(kD (.int 20)),(kD (.int 12)),(kD (.int 5)),(un fq (kD (.int 9))),(kD (.int 1)),(kD (.int 30)),(un fq (kD (.int 4))),(kD (.int 6)),(kD (.int 2)),(kD (.int 11))]) (pI (un cx (sl (aa "script") pN (pI (kD (.int 12))) pN))) pN pN σ=some (.list ((D12.drop (is.take 12).length).map .int)):=by
  have l1:lst [(kD (.int 7)),(un fq (kD (.int 3))),(kD (.int 20)),(kD (.int 12)),(kD (.int 5)),(un fq (kD (.int 9))),(kD (.int 1)),(kD (.int 30)),(un fq (kD (.int 4))),(kD (.int 6)),(kD (.int 2)),(kD (.int 11))] σ=some (.list (D12.map .int)):=rfl;have l2:pI (un cx (sl (aa "script") pN (pI (kD (.int 12))) pN)) σ=some (some ((is.take 12).length:Int)):=aox s2;rw[sl,l1,ar,l2,ar];show jl (.list (D12.map .int)) (some ((is.take 12).length:Int)) none none=_;rw[u9 _ _ _ _ (by rw[b8];decide) (by decide),xg,aou]
 rw[s3,ar];show(if _ then some (D.list _)else none)=_
 rw[if_pos (by rw[et,b8,b8,nz];show _+(12 - _)<=_;exact O.ck [_] [.le .x0 (.c 12)] (.le (.a .x0 (.s (.c 12) .x0)) (.c 16777216)) 101819 rfl hlen),ei]
def bih(h2:σ.vars "script" = some (.list (is.map .int)))(ho:σ.own "script" = none)(hl:is.length<=63):∃held:Hd->Int,E4 σ=some (fg held):=by
 let D3:List Int:=[100,40,-5]
 have e:aa "script" σ=some (.list (is.map .int)):=by dsimp only[aa];rw[ho];exact h2
 have s1:sl (aa "script") (pI (kD (.int 12))) (pI (kD (.int 15))) pN σ=some (.list (((is.drop 12).take 3).map .int)):=by
  dsimp only[sl,pI,pN,kD];rw[e];show jl (.list (is.map .int)) (some (12:Int)) (some (15:Int)) none=_;rw[u9 _ _ _ _ (by rw[b8];exact O.apb hl) (by decide),xg]
  have:=a9f is 12 15;rw[show((12:Nat):Int)=12 from rfl,show((15:Nat):Int)=15 from rfl]at this;rw[this]
 generalize hX:(is.drop 12).take 3=X at s1;have hlen:X.length<=3:=by exact hX.symm▸y6▸O.ck [_] [] (.le (.mi (.c 3) .x0) (.c 3)) 11819 rfl
 have s2:un cx (sl (aa "script") (pI (kD (.int 12))) (pI (kD (.int 15))) pN) σ=some (.int (X.length:Int)):=by
  dsimp only[un];rw[s1,ar,xm _ _ (O.ck [_] [.le .x0 (.c 3)] (.le .x0 (.c 1000000)) 11 rfl hlen)]
 have s3:sl (lst [(kD (.int 100)),(kD (.int 40)),(un fq (kD (.int 5)))]) (pI (un cx (sl (aa "script") (pI (kD (.int 12))) (pI (kD (.int 15))) pN))) pN pN σ=some (.list ((D3.drop X.length).map .int)):=by
  have l1:lst [(kD (.int 100)),(kD (.int 40)),(un fq (kD (.int 5)))] σ=some (.list (D3.map .int)):=rfl;have l2:pI (un cx (sl (aa "script") (pI (kD (.int 12))) (pI (kD (.int 15))) pN)) σ=some (some (X.length:Int)):=aox s2;rw[sl,l1,ar,l2,ar];show jl (.list (D3.map .int)) (some (X.length:Int)) none none=_;rw[u9 _ _ _ _ (by rw[b8];decide) (by decide),xg,aou]
 have hE:E4 σ=some (.list ((X++D3.drop X.length).map .int)):=by
  dsimp only[E4];rw[bin,s1,ar,s3,ar];show(if _ then some (D.list _)else none)=_
  rw[if_pos (by rw[et,b8,b8,nz];show _+(3 - _)<=_;exact O.ck [_] [.le .x0 (.c 3)] (.le (.a .x0 (.s (.c 3) .x0)) (.c 16777216)) 101819 rfl hlen),ei]
 have h3:(X++D3.drop X.length).length=3:=by rw[de,nz];show _+(3 - _)=3;exact O.ck [_] [.le .x0 (.c 3)] (.eq (.a .x0 (.s (.c 3) .x0)) (.c 3)) 1181019818199 rfl hlen
 refine hE▸?_;generalize X++D3.drop X.length=Y at h3
 match Y,h3 with
 |[a,b,c],_=>exact⟨fun h=>[a,b,c][h.1]'h.2,rfl⟩
def Fs.set'(h:Fs σ l)(hy:(l.all fun p=>p.1 != y)=true):Fs (σ.set y d) l:=fun p hp=>h.push hy p (er _ hp)
def Fs.setOwn'(h:Fs σ l)(hy:(l.all fun p=>p.1 != y)=true):Fs (σ.setOwn y d) l:=fun p hp=>by
 have hne:p.1≠y:=by have:=abd.mp hy p hp;simpa using this
 obtain⟨h1,h2⟩:=h p hp;exact⟨by rw[ayy,if_neg hne];exact h1,by rw[ab2,if_neg hne];exact h2⟩
noncomputable def ry:D:=.list (pls.map fun p=>dS (pl p))
def a1n(p:Pl):g8 ry (.int (p.val:Int))=some (dS (pl p)):=by
 refine afl ?_ (ur p.2 (by decide))
 match p with
 |0=>rfl|1=>rfl|2=>rfl|3=>rfl|4=>rfl|5=>rfl
def bc5(h:Hd):g8 (.str "abc") (.int (h.val:Int))=some (.hstr (hs h)):=by
 show g8 (.str (aj "abc")) _=_;rw[lit "abc"]
 match h with
 |0=>show g8 _ (.int 0)=_;rfl
 |1=>show g8 _ (.int 1)=_;rfl
 |2=>show g8 _ (.int 2)=_;rfl
def ayq(a:Int):wc a 4=false:=rfl
def a8z(a:Int):wc a 3=false:=rfl
def a80(a:Int):wc a 24=false:=rfl
def DOK(n:Nat):cv->Prop
 |.send _ m=>m<n
 |_=>True
variable{n:Nat}
def DOK.mono{n':Nat}{d:cv}(h:DOK n d)(k:n<=n'):DOK n' d:=by cases d<;>first|exact i7 h k|trivial
structure aar(l:List (String×D))(n:Nat)(σ:PS)(ds:List cv)(ps:List (List (List Nat))):Prop where
 fs:Fs σ l
 deeds:σ.own "deeds" = some (.list (ds.map dx))
 mails:σ.own "mails" = some (.list (ps.map ew))
 len:ds.length=n
 few:ps.length<=n
 few2:ps.length<=12
 parts:∀m,m<ps.length->yj m (ps.getD m [])
 ok:∀d∈ds,DOK ps.length d
 last:n=13->∃ds' h,ds=ds'++[.note h]
variable{ds:List cv}
def bge{ps:List (List (List Nat))}{c:Int}(i:Nat)(hi:l[i]?=some ("places",ry))(hc:(l.all fun p=>p.1 != "cell")=true)(hd:(l.all fun p=>p.1 != "deeds")=true)(hm:(l.all fun p=>p.1 != "mails")=true)
  (M:aar l n σ ds ps) (hn:n<=12) (h12:n=12->c.fmod 4=3):bh (B6 (σ.set "cell" (.int c))) fun σ'=>∃ds' ps',aar l (n+1) σ' ds' ps':=by
 have F1:Fs (σ.set "cell" (.int c)) l:=M.fs.set' hc;have m1:(σ.set "cell" (.int c)).own "deeds" = some (.list (ds.map dx)):=M.deeds;have m2:(σ.set "cell" (.int c)).own "mails" = some (.list (ps.map ew)):=M.mails;have v1:(σ.set "cell" (.int c)).vars "cell" = some (.int c):=rfl;generalize σ.set "cell" (.int c)=τ at F1 m1 m2 v1;obtain⟨k,k1,k2⟩:=xo c 4 (by decide)
 rw[show((4:Nat):Int)=4 from rfl]at k2;obtain⟨q,q1,q2⟩:=xo (c.fdiv 4) 6 (by decide)
 rw[show((6:Nat):Int)=6 from rfl]at q2;obtain⟨r,r1,r2⟩:=xo (c.fdiv 4) 3 (by decide)
 rw[show((3:Nat):Int)=3 from rfl]at r2;have hk:bin dp (var "cell") (kD (.int 4)) τ=some (.int (k:Int)):=by
  unfold bin var kD;rw[v1,ar,ar,tq _ _ (by decide),k2]
 have hlen:un cx (aa "mails") τ=some (.int (ps.length:Int)):=by
  unfold un aa;rw[m2];exact xm ew ps (by have:=M.few2;exact aw (by assumption) (by decide))
 have hpl:sub (aa "places") (bin dp (bin gx (var "cell") (kD (.int 4))) (kD (.int 6))) τ=some (dS (pl ⟨q,q1⟩)):=by
  refine(c5 (F1.o i hi) (k:=.int (q:Int)) ?_).trans (a1n ⟨q,q1⟩);unfold bin var kD;simp only[v1,ar,aag _ 4 (by decide) (ayq _),tq _ 6 (by decide),q2]
 refine bh.seq (P:=fun σ'=>∃ds' ps',aar l (n+1) σ' ds' ps') (bh.if' (c:=decide ((k:Int)<2)) (cmp_at hk rfl rfl) ?_) fun σ' h=>bh.nxt' h
 by_cases h2:(k:Int)<2
 .rw[decide_eq_true h2,if_pos rfl];have hn12:n≠12:=fun e=>absurd ((k2.symm.trans (h12 e))▸h2:(3:Int)<2) (by decide)
  have t1:tup [(kD (.str "send")),(sub (aa "places") (bin dp (bin gx (var "cell") (kD (.int 4))) (kD (.int 6)))),(un cx (aa "mails"))] τ=some (dx (.send ⟨q,q1⟩ ps.length)):=by
   simp only[tup,cn,b0,kD,hpl,hlen,ar,bt];show some (D.tup [.str (aj "send"),_,_])=_;rw[ach];rfl
  rw[vc m1 t1 (by rw[et,b8,M.len];exact O.aje hn)]
  have F2:Fs (τ.setOwn "deeds" (.list (ds.map dx++[dx (.send ⟨q,q1⟩ ps.length)]))) l:=F1.setOwn' hd;obtain⟨p,p1,p2⟩:=bdx (c.fdiv 24) ps.length (by have:=M.few2;exact O.ck [_] [.le .x0 (.c 12)] (.lt .x0 (.c 1000)) 11 rfl this)
  have t2:ao f_parts [(bin gx (var "cell") (kD (.int 24))),(un cx (aa "mails"))] (τ.setOwn "deeds" (.list (ds.map dx++[dx (.send ⟨q,q1⟩ ps.length)])))=some (ew p):=by
   have e1:bin gx (var "cell") (kD (.int 24)) (τ.setOwn "deeds" (.list (ds.map dx++[dx (.send ⟨q,q1⟩ ps.length)])))=some (.int (c.fdiv 24)):=by
    have:(τ.setOwn "deeds" (.list (ds.map dx++[dx (.send ⟨q,q1⟩ ps.length)]))).vars "cell" = some (.int c):=v1;unfold bin var kD;rw[this,ar,ar,aag _ _ (by decide) (a80 _)]
   have e2:un cx (aa "mails") (τ.setOwn "deeds" (.list (ds.map dx++[dx (.send ⟨q,q1⟩ ps.length)])))=some (.int (ps.length:Int)):=hlen;unfold ao;simp only[cn,b0,e1,e2,ar,bt];exact p2
  have m2':(τ.setOwn "deeds" (.list (ds.map dx++[dx (.send ⟨q,q1⟩ ps.length)]))).own "mails" = some (.list (ps.map ew)):=m2;rw[vc (l:=ps.map ew) m2' t2 (by rw[et,b8];have:=M.few2;exact O.aje this)]
  refine bh.nxt' ⟨ds++[.send ⟨q,q1⟩ ps.length],ps++[p],F2.setOwn' hm,?_,?_,?_,?_,?_,?_,?_,?_⟩
  .show some (D.list _)=_;rw[ei];rfl
  .show some (D.list _)=_;rw[ei];rfl
  .rw[de,M.len];rfl
  .rw[de];have:=M.few;simp;assumption
  .rw[de];have:=M.few;simp;exact O.ck [_,_] [.le .x1 (.c 12),.n (.eq .x1 (.c 12)),.le .x0 .x1] (.le .x0 (.c 11)) 111811009 rfl hn hn12 this
  .intro m hm';rw[de,qg]at hm';by_cases e:m<ps.length
   .rw[show(ps++[p]).getD m []=ps.getD m []from by simp[agz,List.getElem?_append_left e]]
    exact M.parts m e
   .have:m=ps.length:=atb (ahu hm') (gi.1 e);subst this;rw[show(ps++[p]).getD ps.length []=p from by simp[agz]]
    exact p1
  .intro d hd';rw[de,qg];rcases ji.mp hd' with h|h
   .exact(M.ok d h).mono (fm _)
   .simp at h;subst h;exact abf _
  .intro e;exact O.ck [_,_] [.lt .x0 (.c 6),.n (.eq .x1 (.c 12)),.eq (.a .x1 (.c 1)) (.c 13)] (.h _) 10181109 rfl q1 hn12 e
 .rw[decide_eq_false h2,if_neg (by decide)]
  refine bh.seq (P:=fun σ'=>∃ds' ps',aar l (n+1) σ' ds' ps') (bh.if' (cmp_at hk rfl rfl:cmp eqD (bin dp (var "cell") (kD (.int 4))) (kD (.int 2)) τ=some ((k:Int)==2)) ?_) fun σ' h=>bh.nxt' h
  have done:∀(σ':PS) (d:cv),Fs σ' l->σ'.own "deeds" = some (.list (ds.map dx++[dx d]))->σ'.own "mails" = some (.list (ps.map ew))->DOK ps.length d->(n=12->∃h,d=.note h)->∃ds' ps',aar l (n+1) σ' ds' ps':=by
   intro σ' d a1 a2 a3 a4 a5;refine⟨ds++[d],ps,a1,by rw[a2,ei];rfl,a3,by rw[de,M.len];rfl,gm M.few,M.few2,M.parts,fun x hx=>?_,fun e=>?_⟩
   .rcases ji.mp hx with h|h
    .exact M.ok x h
    .simp at h;subst h;exact a4
   .obtain⟨h,rfl⟩:=a5 (O.ck [_] [.eq (.a .x0 (.c 1)) (.c 13)] (.eq .x0 (.c 12)) 1181019 rfl e);exact⟨ds,h,rfl⟩
  by_cases h3:(k:Int)=2
  .have:((k:Int)==2)=true:=by rw[h3];rfl
   rw[this,if_pos rfl];have t1:tup [(kD (.str "take")),(sub (aa "places") (bin dp (bin gx (var "cell") (kD (.int 4))) (kD (.int 6)))),(kD (.int 0))] τ=some (dx (.take ⟨q,q1⟩ 0)):=by
    simp only[tup,cn,b0,kD,hpl,ar,bt];show some (D.tup [.str (aj "take"),_,_])=_;rw[z9];rfl
   rw[vc m1 t1 (by rw[et,b8,M.len];exact O.aje hn)]
   exact bh.nxt' (done _ (.take ⟨q,q1⟩ 0) (F1.setOwn' hd) rfl m2 trivial fun e=>absurd ((h3.symm.trans k2.symm).trans (h12 e):(2:Int)=3) (by decide))
  .have:((k:Int)==2)=false:=by rw[beq_eq_false_iff_ne];exact h3
   rw[this,if_neg (by decide)]
   have habc:sub (kD (.str "abc")) (bin dp (bin gx (var "cell") (kD (.int 4))) (kD (.int 3))) τ=some (.hstr (hs ⟨r,r1⟩)):=by
    refine(c5 (d:=.str "abc") rfl (k:=.int (r:Int)) ?_).trans (bc5 ⟨r,r1⟩);unfold bin var kD;simp only[v1,ar,aag _ 4 (by decide) (ayq _),tq _ 3 (by decide),r2]
   have t1:tup [(kD (.str "note")),(sub (kD (.str "abc")) (bin dp (bin gx (var "cell") (kD (.int 4))) (kD (.int 3)))),(kD (.int 0))] τ=some (dx (.note ⟨r,r1⟩)):=by
    unfold tup;rw[b0,b0,habc];show some (D.tup [.str (aj "note"),_,_])=_;rw[a05];rfl
   rw[vc m1 t1 (by rw[et,b8,M.len];exact O.aje hn)]
   exact bh.nxt' (done _ (.note ⟨r,r1⟩) (F1.setOwn' hd) rfl m2 trivial fun _=>⟨_,rfl⟩)
noncomputable def ng(c:Fin 6):List Pl:=(ed 6).map fun k=>⟨(k+c.val) % 6,we _ (by decide)⟩
def bb3:∀(c:Fin 6) (p:Pl),p∈ng c:=by decide
def bb2:∀c:Fin 6,((ed 84).map fun k=>(⟨(k+c.val) % 6,we _ (by decide)⟩:Pl))=(k9 14 (ng c)).flatten:=by decide+kernel
def bie{T:Int}(h1:σ.vars "places" = some ry)(h2:σ.vars "total" = some (.int T)):∃c:Fin 6,E7 σ=some (.list ((ff (ng c) 14).map dx)):=by
 obtain⟨c,c1,c2⟩:=xo (T.fdiv 3) 6 (by decide)
 rw[show((6:Nat):Int)=6 from rfl]at c2;refine⟨⟨c,c1⟩,?_⟩;unfold ff tks;rw[<-bb2 ⟨c,c1⟩,b5,b5];refine fw (fun k:Nat=>D.int (k:Int)) _ (xs:=ed 84) rfl (by decide) fun k hk=>⟨_,rfl,?_⟩
 have hmod:((k:Int)+T.fdiv 3).fmod 6=(((k+c) % 6:Nat):Int):=by
  have h0:∀x:Int,x.fmod 6=x % 6:=fun x=>anc _ (by decide)
  rw[h0]at c2 |-;rw[<-Int.add_emod_emod,c2];rfl
 have e2:bin dp (bin bb (var "k") (bin gx (var "total") (kD (.int 3)))) (kD (.int 6)) ((σ.only ["places", "total"]).set "k" (.int (k:Int)))=some (.int (((k+c) % 6:Nat):Int)):=by
  have w1:((σ.only ["places", "total"]).set "k" (.int (k:Int))).vars "total" = some (.int T):=h2;have w2:((σ.only ["places", "total"]).set "k" (.int (k:Int))).vars "k" = some (.int (k:Int)):=rfl;unfold bin var kD;simp only[w1,w2,ar,aag _ 3 (by decide) (a8z _),bb,sa,tq _ 6 (by decide),hmod,bt]
 have e3:sub (aa "places") (bin dp (bin bb (var "k") (bin gx (var "total") (kD (.int 3)))) (kD (.int 6))) ((σ.only ["places", "total"]).set "k" (.int (k:Int)))=some (dS (pl ⟨(k+c) % 6,we _ (by decide)⟩)):=by
  refine(c5 (d:=ry) ?_ e2).trans (a1n ⟨(k+c) % 6,we _ (by decide)⟩)
  exact h1
 unfold tup;rw[b0,b0,e3];show some (D.tup [.str (aj "take"),_,_])=_;rw[z9];rfl
structure ou(ds:List cv)(ps:List (List (List Nat))):Prop where
 len:ds.length=13
 few:ps.length<=12
 parts:∀m,m<ps.length->yj m (ps.getD m [])
 ok:∀d∈ds,DOK ps.length d
 last:∃ds' h,ds=ds'++[.note h]
noncomputable def lA(L:List Int)(held:Hd->Int)(T:Int)(ds:List cv)(ps:List (List (List Nat)))(c:Fin 6):List (String×D):=
 [("mails",.list (ps.map ew)),("deeds",.list ((ds++ff (ng c) 14).map dx)),("held",fg held),("sums",.list (L.map .int)),("total",.int T),("places",ry)]
def a0x:∀c:Fin 6,(ff (ng c) 14).length<=84:=by decide+kernel
def a1r{F:PS->Option Out}(h:σ.own x=some d)(H:Fs σ l)(hy:(l.all fun p=>p.1 != x)=true)(k:∀σ',Fs σ' ((x,d)::l)->(∀y,y≠x->σ'.own y=σ.own y)->F σ'=r):bw x F σ=r:=by
 exact(og h)▸(k _ (H.push hy) fun y hy=>by rw[te,if_neg hy])
def a9o(is:List Int)(hl:is.length<=63)(bs:List Int)(hb:bs.length=12)(F0:Fs σ [("bases",.list (bs.map .int)),("script",.list (is.map .int))]){F:PS->Option Out}
  (k:∀σ' L held T ds ps c,L.length=12->ou ds ps->Fs σ' (lA L held T ds ps c)->F σ'=r) :
  (ag (c7 "cells" E0) (bw "cells" (ag (f7 ["places", "total"] [shI E2a,shI E2b]) (ag (b3 "sums" E3) (ag (b3 "held" E4) (ag (f7 ["deeds", "mails"] [owI E5a,owI E5b]) (ag (i8 I6 (ax "cell") B6) (ag (acq "deeds" E7) (bw "deeds" (bw "mails" F)))))))))) σ=r:=by
 obtain⟨cs,hcs,e0⟩:=bjb (F0.v 0 rfl) (F0.v 1 rfl) hl hb;refine qx F0 rfl e0 fun σ1 F1=>?_
 refine aco F1 rfl rfl (a0w σ1) (bi1 (F1.v 0 rfl)) fun σ2 F2=>?_
 obtain⟨L,hL,e3⟩:=bip (F2.v 4 rfl) (F2 _ (qe (i:=4) rfl)).2 hl;refine tm F2 rfl e3 fun σ3 F3=>?_
 obtain⟨held,e4⟩:=bih (F3.v 5 rfl) (F3 _ (qe (i:=5) rfl)).2 hl;refine tm F3 rfl e4 fun σ4 F4=>?_
 rw[aes (ds:=[.ow (.list []),.ow (.list [])]) rfl rfl];show ag _ _ ((σ4.setOwn "deeds" (.list [])).setOwn "mails" (.list []))=r;have F5:=(F4.setOwn' (y := "deeds") (d:=.list []) rfl).setOwn' (y := "mails") (d:=.list []) rfl;have o1:((σ4.setOwn "deeds" (.list [])).setOwn "mails" (.list [])).own "deeds" = some (.list []):=rfl;have o2:((σ4.setOwn "deeds" (.list [])).setOwn "mails" (.list [])).own "mails" = some (.list []):=rfl;generalize(σ4.setOwn "deeds" (.list [])).setOwn "mails" (.list [])=σ5 at F5 o1 o2;have hI:I6 σ5=some ((cs++[cs.sum * 4+3]).map .int):=by
  have hm:kr (.int cs.sum) (.int 4)=some (.int (cs.sum * 4)):=by
   show(if zb cs.sum<=64\/zb 4<=64 then some (D.int (cs.sum * 4))else none)=_
   rw[if_pos (.inr (by decide))]
  have h1:lst [(bin bb (bin kr (var "total") (kD (.int 4))) (kD (.int 3)))] σ5=some (.list [.int (cs.sum * 4+3)]):=by
   unfold lst bin var kD;simp only[cn,b0,(F5.v 2 rfl:σ5.vars "total" = some (.int cs.sum)),ar,hm,bb,sa,bt]
  delta I6 au;have h2:bin bb (var "cells") (lst [(bin bb (bin kr (var "total") (kD (.int 4))) (kD (.int 3)))]) σ5=some (.list ((cs++[cs.sum * 4+3]).map .int)):=by
   have:bin bb (var "cells") (lst [(bin bb (bin kr (var "total") (kD (.int 4))) (kD (.int 3)))]) σ5=bb (.list (cs.map .int)) (.list [.int (cs.sum * 4+3)]):=by
    show(σ5.vars "cells").bind (fun a=>(lst [(bin bb (bin kr (var "total") (kD (.int 4))) (kD (.int 3)))] σ5).bind fun b=>bb a b)=_
    rw[(F5.v 4 rfl:σ5.vars "cells" = some (.list (cs.map .int))),h1];rfl
   refine this▸?_;show(if(cs.map D.int).length+_<=sizeLine then some (D.list _)else none)=_
   rw[if_pos (by rw[et,b8,hcs];exact o8 rfl),ei];rfl
  rw[h2];rfl
 refine zh (P:=fun σ'=>∃ds ps,aar [("held",fg held),("sums",.list (L.map .int)),("total",.int cs.sum),("places",ry)] 13 σ' ds ps) hI ?_ ?_
 .have key:=afm (b:=ax "cell") (body:=B6) D.int (fun pre σ=>∃ds ps,aar [("held",fg held),("sums",.list (L.map .int)),("total",.int cs.sum),("places",ry)] pre.length σ ds ps) (xs:=cs++[cs.sum * 4+3]) (σ:=σ5) (fun pre a post σ hx ⟨ds,ps,M⟩=>?_) ⟨[],[],o5.2 ⟨F5 _ (qe (i:=0) rfl),o5.2 ⟨F5 _ (qe (i:=1) rfl),o5.2 ⟨F5 _ (qe (i:=2) rfl),o5.2 ⟨F5 _ (qe (i:=3) rfl),fun _ h=>nomatch h⟩⟩⟩⟩,o1,o2,rfl,ay _,g9 _,fun m hm=>by simp at hm,fun d hd=>by simp at hd,fun e=>by cases e⟩
  .have:(cs++[cs.sum * 4+3]).length=13:=by rw[de,hcs];rfl
   replace key:=this.symm▸key;exact key
  .have hlen:pre.length+1+post.length=13:=by
    have:=congrArg pd hx;simp only[de,hcs,dh,jt]at this;exact O.ck [_,_] [.eq (.a (.c 12) (.a (.c 0) (.c 1))) (.a .x0 (.a .x1 (.c 1)))] (.eq (.a (.a .x0 (.c 1)) .x1) (.c 13)) 1018119 rfl this
   refine⟨_,rfl,?_⟩;refine de▸qg▸?_;refine bge 3 rfl rfl rfl rfl M (O.ck [_,_] [.eq (.a (.a .x0 (.c 1)) .x1) (.c 13)] (.le .x0 (.c 12)) 101 rfl hlen) fun e=>?_
   have hpost:post=[]:=uk (O.ck [_,_] [.eq (.a (.a .x1 (.c 1)) .x0) (.c 13),.eq .x1 (.c 12)] (.eq .x0 (.c 0)) 18100119 rfl hlen e);subst hpost;have ha:a=cs.sum * 4+3:=by
    have h1:=(List.append_inj hx (by rw[hcs,e])).2
    simp at h1;exact h1.symm
   rw[ha,anc _ (by decide)]
   exact(Int.mul_add_emod_self_right ..).trans rfl
 .rintro σ6 ⟨ds,ps,M⟩;refine oE (bie (σ:=σ6) (M.fs.v 3 rfl) (M.fs.v 2 rfl)) fun c e7=>?_
  have hext:ag (acq "deeds" E7) (bw "deeds" (bw "mails" F)) σ6=bw "deeds" (bw "mails" F) (σ6.setOwn "deeds" (.list ((ds++ff (ng c) 14).map dx))):=by
   simp only[ag,acq,e7,M.deeds,ar,jg];rw[if_pos (by
    rw[et,b8,b8,M.len];have:=a0x c;exact O.ck [_] [.le .x0 (.c 84)] (.le (.a (.c 13) .x0) (.c 16777216)) 11 rfl this),ei]
   rfl
  refine hext▸?_;refine a1r (d:=.list ((ds++ff (ng c) 14).map dx)) rfl (M.fs.setOwn' rfl:Fs (σ6.setOwn "deeds" (.list ((ds++ff (ng c) 14).map dx))) [("held",fg held),("sums",.list (L.map .int)),("total",.int cs.sum),("places",ry)]) rfl fun σ7 F7 o7=>?_
  refine a1r (d:=.list (ps.map ew)) ((o7 "mails" (by decide)).trans M.mails) F7 rfl fun σ8 F8 _=>?_
  exact k σ8 L held cs.sum ds ps c hL ⟨M.len,M.few2,M.parts,M.ok,M.last rfl⟩ F8
def aok{β:Type}(F:α->β)(l:List α)(d:α):l.map F=(ed l.length).map fun m=>F (l.getD m d):=by
 apply atr
 .simp
 .intro i h1 h2;have:i<l.length:=by simpa using h1
  simp[agz,gq this]
def s7{ps:List (List (List Nat))}(H:ou ds ps){p:List (List Nat)}(hp:p∈ps):∃m,m<13/\yj m p:=by
 obtain⟨i,hi,rfl⟩:=aur.mp hp;have:=H.parts i hi;have e:ps.getD i []=ps[i]:=by simp[agz,gq hi]
 rw[e]at this;exact⟨i,i7 hi (gm H.few),this⟩
def bja{ps:List (List (List Nat))}(H:ou ds ps)(h:σ.vars "mails" = some (.list (ps.map ew))):E10 σ=some (.list (ps.map fun p=>dS (d7 p))):=by
 refine fw ew _ (xs:=ps) (by delta au var;rw[h];rfl) (by have:=H.few;exact aw (by assumption) (by decide)) fun p hp=>⟨_,rfl,?_⟩
 refine oEA (s7 H hp) fun m hm P=>?_
 refine ae5 (n9 P hm) fun a b c e _ hl _=>?_
 show gw (.str (aj "'")) [.list (p.map dS)]=_;rw[apv,ap5 [39] p (by rw[e];simp) (by show(d7 p).length+1<=_;exact O.ck [_] [.le .x0 (.c 40),.an (.h _) (.an (.n (.h _)) (.an (.h _) (.an (.n (.h _)) (.an (.h _) (.le (.c 1) .x0)))))] (.le (.a .x0 (.c 1)) (.c 1000000)) 101 rfl hl ‹_›)]
 rfl
def ayn{x:List Nat}(h:σ.vars "row" = some (dS x))(ho:σ.own "row" = none)(hx:x.length<=10000):ife (cmp eqD (sl (aa "row") pN (pI (kD (.int 1))) pN) (kD (.str "."))) (bin bb (kD (.str ".")) (var "row")) (var "row") σ=some (dS (di x)):=by
 have b1:sl (aa "row") pN (pI (kD (.int 1))) pN σ=some (dS (x.take 1)):=by
  delta sl;exact(by delta aa;exact ho▸h:aa "row" σ=some (dS x))▸(ax6 x 1 (O.ck [_] [.le .x0 (.c 10000)] (.le .x0 (.c 16777216)) 11 rfl hx))
 delta ife;rw[(cmp_at (F:=eqD) (f₁:=sl (aa "row") pN (pI (kD (.int 1))) pN) (f₂:=kD (.str ".")) b1 rfl (a2e _)),ar];delta di;refine if hd:x.take 1=[46]then ?_ else ?_
 .rw[hd,if_pos (by decide),if_pos rfl]
  delta bin kD var;rw[h,ar,ar];refine a0z▸?_;exact ak2 [46] x (aw (qc hx 1) (by decide))
 .rw[beq_eq_false_iff_ne.mpr hd,if_neg (by decide),if_neg hd];exact h
def a8f(x:List Nat):∀q∈dj x,q.length<=x.length:=by
 fun_induction dj x with
 |case1=>intro q hq;simp at hq;subst hq;exact ay _
 |case2 r ih=>
  intro q hq;rcases dt.mp hq with rfl|hq
  .simp
  .have:=ih q hq;simp;exact O.ck [_,_] [.le .x0 .x1] (.le .x0 (.a (.a .x1 (.c 1)) (.c 1))) 11 rfl this
 |case3 a r _ _ ih=>
  intro q hq;rcases dt.mp hq with rfl|hq
  .simp
  .have:=ih q hq;simp;exact gm (by assumption)
 |case4 a r _ _ ih=>
  intro q hq;cases hr:dj r with
  |nil=>exact absurd hr (qt r)
  |cons p ps=>
   rw[hr]at hq ih;rcases dt.mp hq with rfl|hq
   .have:=ih p (.head _);simp;assumption
   .have:=ih q (by simp[hq]);simp;exact gm (by assumption)
def a8h(x:List Nat):(dj x).length<=x.length+1:=by
 fun_induction dj x with
 |case1=>exact ay _
 |case2 r ih=>simp;exact O.ck [_,_] [.le .x0 (.a .x1 (.c 1))] (.le .x0 (.a .x1 (.c 2))) 11 rfl ih
 |case3 a r _ _ ih=>simp;assumption
 |case4 a r _ _ ih=>
  cases hr:dj r with
  |nil=>exact absurd hr (qt r)
  |cons p ps=>rw[hr]at ih;simp[pn]at ih |-;exact gm (by assumption)
def ajv{z:String}{zl:List Nat}(hz:aj z=mkS zl)(l:List (List Nat))(h:l≠[])(hl:(cf zl l).length+zl.length<=1000000):gw (.str z) [.list (l.map dS)]=some (dS (cf zl l)):=by
 rw[hz,ap5 zl l h hl]
def bi9{ps:List (List (List Nat))}(H:ou ds ps)(h:σ.vars "texts" = some (.list (ps.map fun p=>dS (d7 p)))):E12 σ=some (.list (ps.map fun p=>dS (j9 (d7 p)))):=by
 refine fw (fun p=>dS (d7 p)) _ (xs:=ps) (by delta au var;rw[h];rfl) (by have:=H.few;exact aw (by assumption) (by decide)) fun p hp=>⟨_,rfl,?_⟩
 refine oEA (s7 H hp) fun m hm P=>?_
 refine ae5 (n9 P hm) fun _ _ _ _ _ hl _=>?_
 generalize d7 p=x at hl;have e:=fw (fs:=[]) (F:=au (ao qy [(var "text")])) (b:=ax "row") (f:=ife (cmp eqD (sl (aa "row") pN (pI (kD (.int 1))) pN) (kD (.str "."))) (bin bb (kD (.str ".")) (var "row")) (var "row")) (σ:=(σ.only []).set "text" (dS x)) dS (fun q=>dS (di q)) (xs:=dj x)
  (by
   have:ao qy [(var "text")] ((σ.only []).set "text" (dS x))=some (.list ((dj x).map dS)):=by
    exact a10 x (aw (by assumption) (by decide))
   delta au;rw[this];rfl)
  (by have:=a8h x;exact O.ck [_,_] [.le .x1 (.c 40),.le .x0 (.a .x1 (.c 1))] (.le .x0 (.c 16777216)) 111 rfl hl this) fun q hq=>⟨_,rfl,ayn rfl rfl (by have:=a8f x q hq;exact O.a0a hl this)⟩
 simp only[b6,kD,cn,b0,e,ar,bt];rw[show((dj x).map fun q=>dS (di q))=((dj x).map di).map dS from by rw[b5];rfl]
 exact ajv z8 _ (by simpa using qt x) (by show(j9 x).length+2<=_;exact O.ck [_,_] [.le .x1 (.c 40),.le .x0 (.m 4 .x1)] (.le (.a .x0 (.c 2)) (.c 1000000)) 411 rfl hl (aj6 x))
def bi8{ps:List (List (List Nat))}(H:ou ds ps)(h:σ.vars "texts" = some (.list (ps.map fun p=>dS (d7 p)))):E14 σ=some (.list (ps.map fun p=>dS (stf true (d7 p)))):=by
 refine fw (fun p=>dS (d7 p)) _ (xs:=ps) (by delta au var;rw[h];rfl) (by have:=H.few;exact aw (by assumption) (by decide)) fun p hp=>⟨_,rfl,?_⟩
 refine oEA (s7 H hp) fun m hm P=>?_
 refine ae5 (n9 P hm) fun _ _ _ _ _ hl _=>?_
 generalize d7 p=x at hl;have hmem:∀q∈jk 10 x,q.length<=x.length:=fun q hq=>by
  replace hq:=(aby 10 x (x.length+1) (O.o50))▸hq;exact aeo _ _ _ _ q hq
 have e:=fw (fs:=[]) (F:=au (b6 m7 (aa "text") [(kD (.str "\n"))])) (b:=ax "row") (f:=ife (cmp eqD (sl (aa "row") pN (pI (kD (.int 1))) pN) (kD (.str "."))) (bin bb (kD (.str ".")) (var "row")) (var "row")) (σ:=(σ.only []).set "text" (dS x)) dS (fun q=>dS (di q)) (xs:=jk 10 x)
  (by
   have:b6 m7 (aa "text") [(kD (.str "\n"))] ((σ.only []).set "text" (dS x))=some (.list ((jk 10 x).map dS)):=ax2 x (aw (by assumption) (by decide))
   delta au;rw[this];rfl)
  (by rw[<-aby 10 x (x.length+1) (O.o50)];have:=abz [10] x 0 (x.length+1);exact O.ck [_,_] [.le .x1 (.c 40),.le .x0 (.a (.a .x1 (.c 1)) (.c 1))] (.le .x0 (.c 16777216)) 111 rfl hl this) fun q hq=>⟨_,rfl,ayn rfl rfl (by have:=hmem q hq;exact O.a0a hl this)⟩
 simp only[b6,kD,cn,b0,e,ar,bt];rw[show((jk 10 x).map fun q=>dS (di q))=((jk 10 x).map di).map dS from by rw[b5];rfl]
 have hj:cf [10] ((jk 10 x).map di)=stf true x:=by rw[<-aff];exact anw x true
 rw[ajv ajq _ (by simpa using aep 10 x) (by rw[hj];show(stf true x).length+1<=_;exact O.ck [_,_] [.le .x1 (.c 40),.le .x0 (.m 2 .x1)] (.le (.a .x0 (.c 1)) (.c 1000000)) 211 rfl hl (ze x true)),hj]
def a8u(x:List Nat)(hl:x.length<=40)(h:σ.vars "text" = some (dS x)):bin bb (ao f_quote [(var "text")]) (kD (.str "\r\n.\r\n")) σ=some (dS (j9 x++eot)):=by
 have e:ao f_quote [(var "text")] σ=some (dS (j9 x)):=by
  delta ao var;simp only[cn,b0,h,ar,bt];rw[a11 x (O.az9 hl),aqs]
 delta bin kD;rw[e,ar,ar];refine apx▸?_;exact yg _ _ (by simp only[dh,jt];exact O.ck [_,_] [.le .x1 (.c 40),.le .x0 (.m 4 .x1)] (.le (.a .x0 (.a (.a (.a (.a (.a (.c 0) (.c 1)) (.c 1)) (.c 1)) (.c 1)) (.c 1))) (.c 16777216)) 411 rfl hl (aj6 x))
def bi7{ps:List (List (List Nat))}(H:ou ds ps)(h:σ.vars "texts" = some (.list (ps.map fun p=>dS (d7 p)))):E16 σ=some (i0 (mailsOf ps)):=by
 delta E16 i0;rw[show((ed (mailsOf ps).M).map fun m=>dS (itL (mailsOf ps) (some m)))=ps.map fun p=>dS (j9 (d7 p)++eot)from(aok (fun p=>dS (j9 (d7 p)++eot)) ps []).symm]
 refine fw (fun p=>dS (d7 p)) _ (xs:=ps) (by delta au var;rw[h];rfl) (by have:=H.few;exact aw (by assumption) (by decide)) fun p hp=>⟨_,rfl,?_⟩
 refine oEA (s7 H hp) fun m hm P=>?_
 refine ae5 (n9 P hm) fun _ _ _ _ _ hl _=>?_
 exact a8u _ hl rfl
def bi6{ps:List (List (List Nat))}(H:ou ds ps)(h:σ.vars "mails" = some (.list (ps.map ew))):E18 σ=some (je (mailsOf ps)):=by
 unfold E18 je;rw[show((ed (mailsOf ps).M).map fun m=>ew ((mailsOf ps).du m))=ps.map fun p=>ew (p.map crl)from(aok (fun p=>ew (p.map crl)) ps []).symm]
 refine fw ew _ (xs:=ps) (by unfold au var;rw[h];rfl) (by have:=H.few;exact aw (by assumption) (by decide)) fun p hp=>⟨_,rfl,?_⟩
 obtain⟨m,hm,P⟩:=s7 H hp;obtain⟨a,b,c,e,e2,hl,_⟩:=n9 P hm;have hlen:∀q∈p,q.length<=40:=by
  rw[e2]at hl;simp only[de,dh]at hl;subst e;intro q hq;simp only[dt,ahp,or_false]at hq;rcases hq with rfl|rfl|rfl
  .exact O.ck [_,_,_] [.le (.a .x0 (.a (.a .x1 (.a .x2 (.c 1))) (.c 1))) (.c 40)] (.le .x0 (.c 40)) 11 rfl hl
  .exact O.ck [_,_,_] [.le (.a .x1 (.a (.a .x0 (.a .x2 (.c 1))) (.c 1))) (.c 40)] (.le .x0 (.c 40)) 11 rfl hl
  .exact O.ck [_,_,_] [.le (.a .x1 (.a (.a .x2 (.a .x0 (.c 1))) (.c 1))) (.c 40)] (.le .x0 (.c 40)) 11 rfl hl
 unfold ew;rw[b5];refine fw dS _ (xs:=p) rfl (by rw[e];exact o8 rfl) fun q hq=>⟨_,rfl,?_⟩
 have hq:=hlen q hq;have h1:ao qy [(var "part")] ((((σ.only []).set "mail" (.list (p.map dS))).only []).set "part" (dS q))=some (.list ((dj q).map dS)):=by
  exact a10 q (aw (by assumption) (by decide))
 delta b6 kD;simp only[cn,b0,h1,ar,bt];rw[ajv z8 _ (qt q) (by rw[ajt];show(crl q).length+2<=_;exact O.ck [_,_] [.le .x1 (.c 40),.le .x0 (.m 2 .x1)] (.le (.a .x0 (.c 2)) (.c 1000000)) 211 rfl hq (aak q)),ajt];rfl
def bi5(h:σ.vars "places" = some ry)(ml:fh):E20 σ=some (jw ml fun p=>(([]:List Nat)).map some):=by
 delta E20;rw[xv (fun p:Pl=>dS (pl p)) (fun _=>true) ps (fun _=>dS []) (xs:=pls) (by delta au var;rw[h];rfl) (by decide) fun p _=>⟨_,rfl,rfl,fun _=>⟨_,rfl,rfl,by show some (D.str (aj ""))=_;rw[vh];rfl⟩⟩]
 rw[xp];have:(pls.map fun p=>(ps p,dS []))=a8 ps dS (ir fun _=>[]):=by delta a8 ir;rw[b5];rfl
 rw[this,xt aiy,zo (a01 _)];rfl
def bbc(held:Hd->Int)(s:Nat->Int){l:List Pl}(hl:∀p,p∈l)(h13:ds.length=13)(hlast:∃ds' h,ds=ds'++[.note h]):alc held s (run true s (init held fun _=>[]) (ds++ff l 14)):=by
 obtain⟨ds',h,rfl⟩:=hlast;have hlen:ds'.length=12:=by simp at h13;omega
 have I:=aob (onto:=true) (ds:=ds'++[.note h]) (a1c (held:=held) (s:=s));have hn:h∈(run true s (init held fun _=>[]) (ds'++[.note h])).nt:=by
  rw[xe];exact ape.mpr (.inr rfl)
 have hp:∀p,phi (run true s (init held fun _=>[]) (ds'++[.note h])) p<=13:=fun p=>by
  rw[xe];show phi (note h _) p<=13;rw[ajf];have:=a8a (onto:=true) (s:=s) (ds:=ds') (st:=init held fun _=>[]) (x:=p)
  have h0:phi (init held fun _=>[]) p=1:=sv _
  exact O.ck [_,_,_] [.eq .x1 (.c 12),.le .x0 (.a .x2 .x1),.eq .x2 (.c 1)] (.le .x0 (.c 13)) 101101 rfl hlen this h0
 obtain⟨d1,d2⟩:=beo (onto:=true) hl I hn hp;rw[xe];exact bet (aob I) (azd I (azd a1c fun p=>⟨rfl,rfl⟩)) d1 d2
variable{h:Hd}{ml:fh}
def a0f{st:St}(hg:∀p,ja ml (st.q p))(p:Pl):ja ml ((note h st).q p):=by
 unfold note;split
 .exact hg p
 .intro m hm;dsimp only at hm;split at hm
  .rcases ji.mp hm with h|h
   .exact hg p m h
   .simp at h
  .exact hg p m hm
variable{onto:Bool}
def a67{s:Nat->Int}{st:St}{d:cv}(hg:∀p,ja ml (st.q p))(hr:∀r∈st.lg,r.m<ml.M)(hd:sf ml d):(∀p,ja ml ((step onto s st d).q p))/\∀r∈(step onto s st d).lg,r.m<ml.M:=by
 have snoc:∀(r:Row),r.m<ml.M->∀x∈st.lg++[r],x.m<ml.M:=fun r h x hx=>by
  rcases ji.mp hx with h'|h'
  .exact hr x h'
  .simp at h';subst h';exact h
 induction d with
 |note h=>exact⟨a0f hg,by show∀r∈(note h st).lg,_;rw[acb];exact hr⟩
 |send p m=>
  refine⟨fun x=>upd_good hg fun k hk=>?_,snoc _ hd⟩
  rcases ji.mp hk with h|h
  .exact hg p k h
  .simp at h;subst h;exact hd
 |take p y=>
  cases hq:st.q p with
  |nil=>rw[u7 hq];exact⟨hg,hr⟩
  |cons i r=>
   have h2:=hg p;rw[hq]at h2;have h3:ja ml r:=fun m hm=>h2 m (er _ hm)
   induction i with
   |none=>
    rw[step_none hq,tkN];exact⟨a0f fun x=>upd_good hg h3,by rw[acb];exact hr⟩
   |some m=>
    rw[s9 hq,tkS];exact⟨fun x=>upd_good hg h3,snoc _ (h2 m (.head _))⟩
def a79{s:Nat->Int}:∀{st:St},(∀p,ja ml (st.q p))->(∀r∈st.lg,r.m<ml.M)->(∀d∈ds,sf ml d)->∀r∈(run onto s st ds).lg,r.m<ml.M:=by
 induction ds with
 |nil=>intro st _ hr _;exact hr
 |cons d ds ih=>
  intro st hg hr hd;obtain⟨h1,h2⟩:=a67 (onto:=onto) (s:=s) hg hr (hd d (.head _));exact ih h1 h2 fun x hx=>hd x (er _ hx)
def a69{s:Nat->Int}{st:St}{d:cv}:(step onto s st d).lg.length<=st.lg.length+1:=by
 induction d with
 |note h=>show(note h st).lg.length<=_;rw[acb];exact O.o50
 |send p m=>simp[step]
 |take p y=>
  cases hq:st.q p with
  |nil=>rw[u7 hq];exact O.o50
  |cons i r=>induction i with
   |none=>rw[step_none hq,tkN,acb];exact O.o50
   |some m=>rw[s9 hq,tkS,de];exact ay _
def a8b{s:Nat->Int}:∀{st:St},(run onto s st ds).lg.length<=st.lg.length+ds.length:=by
 induction ds with
 |nil=>intro st;exact ay _
 |cons d ds ih=>intro st;have:=ih (st:=step onto s st d);have:=a69 (onto:=onto) (s:=s) (st:=st) (d:=d);show(run onto s (step onto s st d) ds).lg.length<=_;simp only[dh];exact O.apc ‹_› this
structure fy where
 ml:fh
 L:List Int
 held:Hd->Int
 st:St
 st2:St
 st3:St
noncomputable def fy.F(R:fy):List Row:=pres R.st.lg
noncomputable def fy.R'(R:fy):List Row:=posts R.st.lg
noncomputable def fy.s(R:fy):Nat->Int:=sOf R.L
structure fy.OK(R:fy):Prop where
 K:MOK R.ml
 hL:R.L.length=12
 hM:R.ml.M<=12
 done:alc R.held R.s R.st
 rows:∀r∈R.st.lg,r.m<R.ml.M
 lg:R.st.lg.length<=97
 a2:yr R.held R.s (fun _=>[]) R.F R.st2
 a3:yr (fun _=>0) R.s (under R.st.lg) R.R' R.st3
def ai0(X:List Row):(pres X).length<=X.length:=jv _ _
def a88(X:List Row):(posts X).length<=X.length:=jv _ _
variable{X:List Row}
def ajh{r:Row}(h:r∈pres X):r∈X:=(q7.mp h).1
def ba4{r:Row}(h:r∈posts X):r∈X:=(q7.mp h).1
variable{d1 d3 d4 d5:D}
def bc2{x1 x2 x3 x4 x5:String}{F:PS->Option Out}{d2:D}(H:Fs σ l)(h:f σ=some (.tup [d1,d2,d3,d4,d5]))(h1:(l.all fun p=>p.1 != x1)=true)(h2:(((x1,d1)::l).all fun p=>p.1 != x2)=true)
  (h3:(((x2,d2)::(x1,d1)::l).all fun p=>p.1 != x3)=true) (h4:(((x3,d3)::(x2,d2)::(x1,d1)::l).all fun p=>p.1 != x4)=true) (h5:(((x4,d4)::(x3,d3)::(x2,d2)::(x1,d1)::l).all fun p=>p.1 != x5)=true)
  (k:∀σ',Fs σ' ((x5,d5)::(x4,d4)::(x3,d3)::(x2,d2)::(x1,d1)::l)->F σ'=r):ag (r8 (cz [x1,x2,x3,x4,x5]) f) F σ=r:=by
 rw[aip h (arc _ _ _ _ _ _ _ _ _ _ _)];exact k _ (((((H.push h1).push h2).push h3).push h4).push h5)
noncomputable def lB(ml:fh)(ps:List (List (List Nat)))(l:List (String×D)):List (String×D):=
 ("empty",jw ml fun _=>(([]:List Nat)).map some)::("dues",je ml)::("sent",i0 ml)::("bare",.list (ps.map fun p=>dS (stf true (d7 p))))::("due",.list (ps.map fun p=>dS (j9 (d7 p))))::("texts",.list (ps.map fun p=>dS (d7 p)))::l
noncomputable def onD(k:Bool)(X:List Row):D:=.list (pls.map fun p=>.list ((onL k X p).map d8))
noncomputable def lC(R:fy)(l:List (String×D)):List (String×D):=
 ("past",onD false R.F)::("gone",onD true R.F)::("after",rt R.ml R.st3)::("again",rt R.ml R.st2)::("rest",.list (R.R'.map (bz false)))::("first",.list (R.F.map (bz false))) ::
 ("log",.list (R.st.lg.map (bz true)))::("aside",dH (dH qD) (br R.st.nt R.st.ad))::("noted",dH bkD (br R.st.nt R.st.nb))::("wires",jw R.ml R.st.q)::("books",dH bkD (br hds R.st.bk))::l
def a8k(r:Row):g8 (bz true r) (.int 3)=some (.bool r.pre):=rfl
def a8j(r:Row):jl (bz true r) none (some 3) none=some (bz false r):=rfl
def a2z(X:List Row):X.map (bz false)=(X.map Row.deed).map dx:=by
 rw[b5];apply j3;intro r _;exact(bfw r).symm
def ayl{r:Row}(h:r.m<ml.M):sf ml r.deed:=by
 obtain⟨d,p,m,e⟩:=r;cases d<;>first|exact h|trivial
def a3d{x1 x2 x3 x4 x5 x6:String}{d2 d6:D}{b:Bool}{z:D}(v1:σ.vars x1=some d1)(v2:σ.vars x2=some d2)(v3:σ.vars x3=some d3)(v4:σ.vars x4=some d4)(v5:σ.vars x5=some d5)(v6:σ.vars x6=some d6)(h:f_run [d1,d2,d3,d4,d5,d6,.bool b]=some z) :
  ao f_run [var x1,var x2,var x3,var x4,var x5,var x6,kD (.bool b)] σ=some z:=by
 simp only[ao,cn,b0,var,kD,v1,v2,v3,v4,v5,v6,ar,bt];exact h
def bi4{d6 z:D}(v1:σ.vars "rest" = some d1)(v3:sub (aa "again") (kD (.int 1)) σ=some d3)(v4:σ.vars "sums" = some d4)(v5:σ.vars "sent" = some d5)(v6:σ.vars "dues" = some d6)(h:f_run [d1,fg fun _=>0,d3,d4,d5,d6,.bool true]=some z):E25 σ=some z:=by
 unfold E25 ao;have v2:lst [(kD (.int 0)),(kD (.int 0)),(kD (.int 0))] σ=some (fg fun _=>0):=rfl
 simp only[cn,b0,v2,v3,ar,bt];simp only[var,kD,v1,v4,v5,v6,ar,bt];exact h
def a4k{y:Str}(k:Bool)(hX:X.length<=97)(hy:y=mkS (kL k))(v1:σ.vars "first" = some (.list (X.map (bz false)))):ao f_on [(var "first"),(kD (.str y))] σ=some (onD k X):=by
 simp only[ao,cn,b0,var,kD,v1,ar,bt];rw[hy];exact a13 false k _ (O.ajd hX)
def ayo(vlog:σ.vars "log" = some (.list (X.map (bz true))))(hX:X.length<=97)(p:Row->Bool)(ts:PS->Option Bool)(hts:∀τ r,τ.vars "row" = some (bz true r)->τ.own "row" = none->ts τ=some (p r)) :
  a7 [] (au (var "log")) (ax "row") ts (sl (aa "row") pN (pI (kD (.int 3))) pN) σ=some (.list ((X.filter p).map (bz false))):=
 r0 (bz true) p (bz false) (xs:=X) (by unfold au var;rw[vlog];rfl) (aw hX (by decide)) fun r hr=>⟨_,rfl,hts _ r rfl rfl,fun _=>a8j r⟩
def ayk(τ:PS)(r:Row)(h1:τ.vars "row" = some (bz true r))(h2:τ.own "row" = none):toB (sub (aa "row") (kD (.int 3))) τ=some r.pre:=by
 unfold toB;rw[c5 (d:=bz true r) (k:=.int 3) (by unfold aa;rw[h2];exact h1) rfl,a8k];rfl
inductive arw (L:List Int) (held:Hd->Int) (ds:List cv) (ps:List (List (List Nat))) (c:Fin 6):fy->Prop
 |mk {st st2 st3} (ok:fy.OK ⟨mailsOf ps,L,held,st,st2,st3⟩)
   (r1:f_run [.list ((ds++ff (ng c) 14).map dx),fg held,jw (mailsOf ps) (fun _=>([]:List Nat).map some),.list (L.map .int),i0 (mailsOf ps),je (mailsOf ps),.bool true]=some (rt (mailsOf ps) st))
   (r2:f_run [.list ((pres st.lg).map (bz false)),fg held,jw (mailsOf ps) (fun _=>([]:List Nat).map some),.list (L.map .int),i0 (mailsOf ps),je (mailsOf ps),.bool false]=some (rt (mailsOf ps) st2))
   (r3:f_run [.list ((posts st.lg).map (bz false)),fg (fun _=>0),jw (mailsOf ps) st2.q,.list (L.map .int),i0 (mailsOf ps),je (mailsOf ps),.bool true]=some (rt (mailsOf ps) st3)):arw L held ds ps c ⟨mailsOf ps,L,held,st,st2,st3⟩
variable{c:Fin 6}{held:Hd->Int}
def a77{L:List Int}{ps:List (List (List Nat))}{st:St}(K:MOK (mailsOf ps))(hL:L.length=12)(hM:(mailsOf ps).M<=12)(hdone:alc held (sOf L) st)(hrows:∀r∈st.lg,r.m<(mailsOf ps).M)(hlg:st.lg.length<=97)
  (r1:f_run [.list ((ds++ff (ng c) 14).map dx),fg held,jw (mailsOf ps) (fun _=>([]:List Nat).map some),.list (L.map .int),i0 (mailsOf ps),je (mailsOf ps),.bool true]=some (rt (mailsOf ps) st)) :
  arw L held ds ps c ⟨mailsOf ps,L,held,st,run false (sOf L) (init held fun _=>[]) ((pres st.lg).map Row.deed),run true (sOf L) (init (fun _=>0) (under st.lg)) ((posts st.lg).map Row.deed)⟩:=by
 have hp1:(pres st.lg).length<=97:=aw (ai0 _) hlg;have A2:=again (held:=held) (s:=sOf L) (onto:=false) hdone.inv.f1;have hq2:(run false (sOf L) (init held fun _=>[]) ((pres st.lg).map Row.deed)).q=fun p=>(under st.lg p).map some:=by
  funext p;rw[A2.q];rfl
 refine .mk ⟨K,hL,hM,hdone,hrows,hlg,A2,again (held:=fun _=>0) (s:=sOf L) (onto:=true) hdone.inv.f2⟩ r1 ?_ ?_
 .rw[a2z];exact aqh (L:=L) (onto:=false) K (O.apa hL hM) (O.ao9 hL) held (fun _=>[]) ((pres st.lg).map Row.deed) (fun p=>⟨g9 _,fun m hm=>nomatch hm⟩) (fun d hd=>by
   obtain⟨x,hx,rfl⟩:=ia.mp hd;exact ayl (hrows x (ajh hx))) (by rw[b8];exact O.ao8 hp1)
 .rw[a2z,hq2];exact aqh (L:=L) (onto:=true) K (O.apa hL hM) (O.ao9 hL) (fun _=>0) (under st.lg) ((posts st.lg).map Row.deed) (fun p=>by
   have h1:(S (pres st.lg) p).length<=97:=by unfold S;rw[b8];exact aw (jv _ _) hp1
   refine⟨by unfold under;rw[nz];exact O.ck [_,_] [.le .x0 (.c 97)] (.le (.s .x0 .x1) (.c 100)) 181019 rfl h1,fun m hm=>?_⟩
   have:m∈S (pres st.lg) p:=auq hm;obtain⟨x,hx,rfl⟩:=ia.mp this;exact hrows x (ajh (q7.mp hx).1)) (fun d hd=>by
   obtain⟨x,hx,rfl⟩:=ia.mp hd;exact ayl (hrows x (ba4 hx))) (by rw[b8];exact O.ao8 (aw (a88 _) hlg))
def a76{L:List Int}(held:Hd->Int){T:Int}{ps:List (List (List Nat))}(c:Fin 6)(hL:L.length=12)(H:ou ds ps):∃R,arw L held ds ps c R:=by
 have K:MOK (mailsOf ps):=bbd H.parts H.few;have hM:(mailsOf ps).M<=12:=H.few;have hok:∀d∈ds++ff (ng c) 14,sf (mailsOf ps) d:=fun d hd=>by
  rcases ji.mp hd with h|h
  .have:=H.ok d h;cases d<;>first|exact this|trivial
  .obtain⟨p,_,rfl⟩:=ia.mp h;trivial
 have hlen:(ds++ff (ng c) 14).length<=97:=by rw[de,H.len];have:=a0x c;exact O.ck [_] [.le .x0 (.c 84)] (.le (.a (.c 13) .x0) (.c 97)) 11 rfl this
 have run1:=aqh (L:=L) (onto:=true) K (O.apa hL hM) (O.ao9 hL) held (fun _=>[]) (ds++ff (ng c) 14) (fun p=>⟨g9 _,fun m hm=>nomatch hm⟩) hok (O.ao8 hlen)
 exact⟨_,a77 K hL hM (bbc held (sOf L) (bb3 c) H.len H.last) (a79 (ml:=mailsOf ps) (onto:=true) (s:=sOf L) (ds:=ds++ff (ng c) 14) (st:=init held fun _=>[]) (fun p m hm=>by simp[init]at hm) (fun r hr=>by simp[init]at hr) hok)
  (O.ck [_,_,_] [.le .x1 (.c 97),.le .x0 (.a .x2 .x1),.eq .x2 (.c 0)] (.le .x0 (.c 97)) 11101 rfl hlen (a8b (onto:=true) (s:=sOf L) (ds:=ds++ff (ng c) 14) (st:=init held fun _=>[])) rfl) run1⟩
def a9n{L:List Int}{T:Int}{ps:List (List (List Nat))}(hL:L.length=12)(H:ou ds ps)(F0:Fs σ (lA L held T ds ps c)){F:PS->Option Out}
  (k:∀σ' R,R.OK->R.ml=mailsOf ps->R.L=L->R.held=held->Fs σ' (lC R (lB (mailsOf ps) ps (lA L held T ds ps c)))->F σ'=r) :
  (ag (c7 "texts" E10) (bw "texts" (ag (c7 "due" E12) (bw "due" (ag (c7 "bare" E14) (bw "bare" (ag (c7 "sent" E16) (bw "sent" (ag (c7 "dues" E18) (bw "dues" (ag (c7 "empty" E20) (bw "empty" (ag (r8 (cz ["books", "wires", "noted", "aside", "log"]) E22) (ag (f7 ["first", "rest"] [shI a4m,shI a4l]) (ag (b3 "again" E24) (ag (b3 "after" E25) (ag (f7 ["gone", "past"] [shI a4j,shI a4i]) F))))))))))))))))) σ=r:=by
 obtain⟨_,@⟨st,st2,st3,ok,r1,r2,r3⟩⟩:=a76 held (T:=T) c hL H;refine qx F0 rfl (bja H (F0.v 0 rfl)) fun σ1 F1=>?_
 refine qx F1 rfl (bi9 H (F1.v 0 rfl)) fun σ2 F2=>?_
 refine qx F2 rfl (bi8 H (F2.v 1 rfl)) fun σ3 F3=>?_
 refine qx F3 rfl (bi7 H (F3.v 2 rfl)) fun σ4 F4=>?_
 refine qx F4 rfl (bi6 H (F4.v 4 rfl)) fun σ5 F5=>?_
 refine qx F5 rfl (bi5 (F5.v 10 rfl) (mailsOf ps)) fun σ6 F6=>?_
 refine bc2 F6 (a3d (F6.v 7 rfl) (F6.v 8 rfl) (F6.v 0 rfl) (F6.v 9 rfl) (F6.v 2 rfl) (F6.v 1 rfl) r1) rfl rfl rfl rfl rfl fun σ7 F7=>?_
 refine aco F7 rfl rfl (ayo (F7.v 0 rfl) ok.lg (·.pre) _ ayk) (ayo (F7.v 0 rfl) ok.lg (!·.pre) _ fun τ r h1 h2=>by unfold zy;rw[ayk τ r h1 h2];rfl) fun σ8 F8=>?_
 refine tm F8 rfl (a3d (F8.v 1 rfl) (F8.v 15 rfl) (F8.v 7 rfl) (F8.v 16 rfl) (F8.v 9 rfl) (F8.v 8 rfl) r2) fun σ9 F9=>?_
 refine tm F9 rfl (bi4 (F9.v 1 rfl) ((c5 (F9.o 0 (x := "again") rfl) rfl).trans rfl) (F9.v 17 rfl) (F9.v 10 rfl) (F9.v 9 rfl) r3) fun σ10 F10=>?_
 refine aco F10 rfl rfl (a4k true (aw (ai0 _) ok.lg) ach (F10.v 3 rfl)) (a4k false (aw (ai0 _) ok.lg) z9 (F10.v 3 rfl)) fun σ11 F11=>?_
 exact k σ11 ⟨mailsOf ps,L,held,st,st2,st3⟩ ok rfl rfl rfl F11
def a5d{f:D->D->D}{a b:α->D}(l:List α):yx f (l.map a) (l.map b)=l.map fun x=>f (a x) (b x):=by
 induction l with
 |nil=>rfl
 |cons x l ih=>exact congrArg _ (by assumption)
def aib{a b:α->D}{l:List α}{f₁ f₂:PS->Option D}(h1:f₁ σ=some (.list (l.map a)))(h2:f₂ σ=some (.list (l.map b))):qp f₁ f₂ σ=some (l.map fun x=>.tup [a x,b x]):=by
 unfold qp;rw[h1,h2];show(if(l.map a).length=(l.map b).length then some (ro _ _)else none)=_
 rw[if_pos (by simp)]
 unfold ro;rw[a5d]
variable {R:fy}
noncomputable def fu(l:List Nat):D:=.list (l.map d8)
def v9(H:R.OK):R.F.length<=97:=aw (ai0 _) H.lg
def a4a(X:List Row)(p:Pl):(S X p).length<=X.length:=by unfold S;rw[b8];exact jv _ _
def bh6(X:List Row)(p:Pl):(T X p).length<=X.length:=by unfold T;rw[b8];exact jv _ _
noncomputable def fy.und(R:fy)(p:Pl):List Nat:=under R.st.lg p
def aid(H:R.OK)(p:Pl):(R.und p).length<=97:=by
 have:=a4a R.F p;have:=v9 H;show((S R.F p).drop _).length<=_;rw[nz];exact O.ck [_,_,_] [.le .x0 .x2,.le .x2 (.c 97)] (.le (.s .x0 .x1) (.c 97)) 1811019 rfl ‹_› this
def a5w(H:R.OK){p:Pl}{m:Nat}(h:m∈R.und p):m<R.L.length:=by
 have h1:m∈S R.F p:=auq h;obtain⟨x,hx,rfl⟩:=ia.mp h1;have:=H.rows x (ajh (q7.mp hx).1);have:=H.hM;rw[H.hL];exact O.ao7 ‹_› this
def a4f(H:R.OK):∀r∈R.F,r.m<R.L.length:=fun r hr=>by
 have:=H.rows r (ajh hr);have:=H.hM;rw[H.hL];exact O.ao7 ‹_› this
def bi3(H:R.OK)(h1:σ.vars "gone" = some (onD true R.F))(h2:σ.vars "past" = some (onD false R.F)):E27 σ=some (.list (pls.map fun p=>fu (R.und p))):=by
 refine fw (fun p:Pl=>D.tup [fu (S R.F p),fu (T R.F p)]) (fun p=>fu (R.und p)) (xs:=pls) (aib (a:=fun p=>fu (S R.F p)) (b:=fun p=>fu (T R.F p)) h1 h2) (by decide) fun p _=>⟨_,mh _ _ _ _ _,?_⟩
 have hl:=bh6 R.F p;have hs:=a4a R.F p;have hF:=v9 H;have e1:pI (un cx (aa "ahead")) (((σ.only []).set "row" (fu (S R.F p))).set "ahead" (fu (T R.F p)))=some (some ((T R.F p).length:Int)):=by
  refine aox ?_;exact xm d8 (T R.F p) (O.az8 hl hF)
 have e2:aa "row" (((σ.only []).set "row" (fu (S R.F p))).set "ahead" (fu (T R.F p)))=some (fu (S R.F p)):=rfl;unfold sl;rw[e2,ar,e1,ar];show jl (.list ((S R.F p).map d8)) (some ((T R.F p).length:Int)) none none=_;rw[u9 _ _ _ _ (by rw[b8];exact O.az8 hs hF) (by decide),xg,aou];rfl
def bat(l:List Nat):eg [fu l]=some (.int (l.map fun m:Nat=>(m:Int)).sum):=by
 have:=rq (l.map fun m:Nat=>(m:Int))
 rw[b5]at this;exact this
noncomputable def fy.us(R:fy)(p:Pl):Int:=((R.und p).map R.s).sum
noncomputable def wz(R:fy)(p:Pl):D:=.tup [dS (pl p),fu (R.und p),.int (R.us p)]
noncomputable def fy.ne(R:fy):List Pl:=pls.filter fun p=>!(R.und p).isEmpty
def bao(l:List Nat):neD (fu l) (.list [])=some (!l.isEmpty):=by
 show some (!(l.map d8).isEmpty)=_;cases l<;>rfl
def bi2(H:R.OK)(h1:σ.vars "places" = some ry)(h2:σ.vars "unders" = some (.list (pls.map fun p=>fu (R.und p))))(h3:σ.vars "sums" = some (.list (R.L.map .int))):E29 σ=some (.list (R.ne.map (wz R))):=by
 refine r0 (fun p:Pl=>D.tup [dS (pl p),fu (R.und p)]) (fun p=>!(R.und p).isEmpty) (wz R) (xs:=pls) (aib (a:=fun p=>dS (pl p)) (b:=fun p=>fu (R.und p)) h1 h2) (by decide) fun p _=>⟨_,mh _ _ _ _ _,cmp_at rfl rfl (bao _),fun _=>?_⟩
 have e:=fw (fs:=["sums"]) (F:=au (var "row")) (b:=ax "mail") (f:=sub (aa "sums") (var "mail")) (σ:=((σ.only ["sums"]).set "place" (dS (pl p))).set "row" (fu (R.und p))) d8 (fun m=>D.int (R.s m)) (xs:=R.und p) rfl (by have:=aid H p;exact aw (by assumption) (by decide)) fun m hm=>⟨_,rfl,by
  refine(c5 (d:=.list (R.L.map .int)) (k:=d8 m) h3 rfl).trans ?_;exact aih R.L m (a5w H hm) (by rw[H.hL];decide)⟩
 have e2:=rq ((R.und p).map R.s);rw[b5]at e2;have e3:ao eg [(a7 ["sums"] (au (var "row")) (ax "mail") tt (sub (aa "sums") (var "mail")))] (((σ.only ["sums"]).set "place" (dS (pl p))).set "row" (fu (R.und p)))=some (.int (R.us p)):=by
  unfold ao;simp only[cn,b0,e,ar,bt];exact e2
 unfold tup;simp only[cn,b0,e3,ar,bt];rfl
noncomputable def xf(s:Nat->Int)(l:List Nat):uc:=⟨l.length,(l.map fun m:Nat=>(m:Int)).sum,(l.map s).sum,-(l.map s).sum⟩
noncomputable def qw(R:fy)(h:Hd):List (Hd×uc):=puts [] ((R.ne.filter fun p=>decide (t p=h)).map fun p=>(g p,xf R.s (R.und p)))
def bi0(H:R.OK)(h1:σ.vars "under" = some (.list (R.ne.map (wz R)))):E30 σ=some (dH (dH qD) (br hds (qw R))):=by
 unfold E30;have key:∀h:Hd,i4 ["hand"] (au (var "under")) (ax "row") (cmp eqD (sub (sub (aa "row") (kD (.int 0))) (kD (.int 1))) (aa "hand")) (sub (sub (aa "row") (kD (.int 0))) (kD (.int 0))) (tup [(un cx (sub (aa "row") (kD (.int 1)))),(ao eg [(sub (aa "row") (kD (.int 1)))]),(sub (aa "row") (kD (.int 2))),(un fq (sub (aa "row") (kD (.int 2))))]) ((σ.only ["under"]).set "hand" (dS (hl h)))=some (dH qD (qw R h)):=fun h=>by
  rw[xv (wz R) (fun p=>decide (t p=h)) (fun p=>hs (g p)) (fun p=>qD (xf R.s (R.und p))) (xs:=R.ne) (by
   show(σ.vars "under").bind yf=_;rw[h1];rfl) (by have:R.ne.length<=6:=jv _ _;exact O.az7 this) fun p _=>⟨_,rfl,?_,fun _=>⟨_,((c5 ((c5 rfl rfl).trans rfl) rfl).trans (vg p).1),rfl,?_⟩⟩]
  .have:((R.ne.filter fun p=>decide (t p=h)).map fun p=>(hs (g p),qD (xf R.s (R.und p))))=a8 hs qD ((R.ne.filter fun p=>decide (t p=h)).map fun p=>(g p,xf R.s (R.und p))):=by unfold a8;rw[b5];rfl
   rw[this,xt ku];rfl
  .refine cmp_at ((c5 ((c5 rfl rfl).trans rfl) rfl).trans (vg p).2.1) (b:=dS (hl h)) rfl ?_;show some (mkS (hl (t p))==mkS (hl h))=_;rw[nf,afj]
  .have hul:=aid H p;have e1:sub (aa "row") (kD (.int 1)) ((((σ.only ["under"]).set "hand" (dS (hl h))).only ["hand"]).set "row" (wz R p))=some (fu (R.und p)):=(c5 rfl rfl).trans rfl;have e2:sub (aa "row") (kD (.int 2)) ((((σ.only ["under"]).set "hand" (dS (hl h))).only ["hand"]).set "row" (wz R p))=some (.int (R.us p)):=(c5 rfl rfl).trans rfl;have e3:cx (fu (R.und p))=some (.int ((R.und p).length:Int)):=xm d8 _ (O.ao6 hul);unfold tup un ao;simp only[cn,b0,e1,e2,e3,ar,bt,bat,fq,sa];rfl
 rw[xv (fun h:Hd=>dS (hl h)) (fun _=>true) hs (fun h=>dH qD (qw R h)) (xs:=hds) (by
  show yf (.str "abc")=_;show(if(aj "abc").cps.all (·<128)=true then some (iu (aj "abc"))else none)=_
  rw[ajm,if_pos (by decide+kernel)];rfl) (by decide) fun h _=>⟨_,rfl,rfl,fun _=>⟨_,rfl,rfl,key h⟩⟩]
 rw[xp];have:(hds.map fun h=>(hs h,dH qD (qw R h)))=a8 hs (dH qD) (br hds (qw R)):=by unfold a8 br;rw[b5];rfl
 rw[this,xt ku,zo (apy _)];rfl
noncomputable def ai3(a b:Hd):Pl:=match a,b with
 |0,1=>0|0,2=>1|1,0=>2|1,2=>3|2,0=>4|2,1=>5|_,_=>0
def ayz:∀p:Pl,ai3 (g p) (t p)=p:=by decide
def a9e:∀a b:Hd,a≠b->∃p:Pl,g p=a/\t p=b:=by decide
def a0v(h k:Hd):look (qw R h) k=if k∈(R.ne.filter fun p=>decide (t p=h)).map g then some (xf R.s (R.und (ai3 k h)))else none:=by
 unfold qw;have e:((R.ne.filter fun p=>decide (t p=h)).map fun p=>(g p,xf R.s (R.und p)))=(R.ne.filter fun p=>decide (t p=h)).map fun p=>(g p,xf R.s (R.und (ai3 (g p) h))):=by
  apply j3;intro p hp;have:t p=h:=by have:=(q7.mp hp).2;exact of_decide_eq_true this
  rw[<-this,ayz]
 rw[e];exact apr g (fun k=>xf R.s (R.und (ai3 k h))) k _ []
def bb5(p:Pl):look (qw R (t p)) (g p)=zm R.s (R.und p):=by
 rw[a0v,ayz];have hm:g p∈(R.ne.filter fun q=>decide (t q=t p)).map g↔(R.und p).isEmpty=false:=by
  constructor
  .intro h;obtain⟨q,hq,e⟩:=ia.mp h;obtain⟨h1,h2⟩:=q7.mp hq;have:q=p:=ay1 q p e (of_decide_eq_true h2);subst this;have:=(q7.mp h1).2;simpa using this
  .intro h;exact ia.mpr ⟨p,q7.mpr ⟨q7.mpr ⟨api p,congrArg _ (by assumption)⟩,if_pos rfl⟩,rfl⟩
 unfold zm;by_cases he:(R.und p).isEmpty=true
 .rw[if_neg (fun q=>by rw[hm.mp q]at he;exact nomatch he),if_pos he]
 .have he':(R.und p).isEmpty=false:=ad7.2 (by assumption)
  rw[if_pos (hm.mpr he'),if_neg he];rfl
def bb4(h:Hd):look (qw R h) h=none:=by
 rw[a0v,if_neg];intro q;obtain⟨p,hp,e⟩:=ia.mp q;have:=of_decide_eq_true (q7.mp hp).2;exact aqf p (e.trans this.symm)
def bew{A B:List (Hd×uc)}(hA:(A.map (·.1)).Nodup)(hB:(B.map (·.1)).Nodup)(h:∀x,look A x=look B x):jf (k+3) (dH qD A) (dH qD B)=some true:=by
 refine aj7 ku (aye hA hB h) fun p hp=>⟨p.2,by rw[<-h];exact a0u hA hp,?_⟩
 exact be0 k [p.2.a,p.2.b,p.2.c,p.2.d]
def apd(H:R.OK):R.st.nt.length=3:=by
 have hp:R.st.nt.Perm hds:=(ane H.done.inv.nd (by decide)).mpr fun a=>⟨fun _=>xl a,fun _=>H.done.all a⟩
 rw[hp.length_eq];rfl
variable{l:List Hd}
def a02(h:l.Nodup)(f:Hd->V):((br l f).map (·.1)).Nodup:=by
 unfold br;rw[b5];show(l.map fun p=>p).Nodup
 rwa[List.map_id']
def apq{f:Hd->V}(hh:h∈l):look (br l f) h=some (f h):=by unfold br;rw[apt,if_pos hh]
def bhj(H:R.OK):eqD (dH (dH qD) (br R.st.nt R.st.ad)) (dH (dH qD) (br hds (qw R)))=some true:=by
 show jf 8 _ _=_;refine aj7 (k:=7) ku (by unfold br;rw[b8,b8,apd H];rfl) fun p hp=>?_
 obtain⟨h,hh,rfl⟩:=ia.mp hp;refine⟨qw R h,apq (xl h),?_⟩;refine bew (k:=4) (H.done.inv.adk h hh).1 (apz _ _ qb) fun x=>?_
 by_cases e:x=h
 .subst e;rw[bb4];exact(H.done.inv.adk x hh).2
 .obtain⟨p,h1,h2⟩:=a9e x h e;subst h1;subst h2;rw[bb5];exact H.done.ad p
def biz(H:R.OK)(h1:σ.vars "first" = some (.list (R.F.map (bz false))))(h2:σ.vars "held" = some (fg R.held))(h3:σ.vars "sums" = some (.list (R.L.map .int))):alb σ=some (dH bkD (told R.s R.held R.F)):=by
 unfold alb ao;simp only[cn,b0,var,h1,h2,h3,ar,bt];exact a1z false R.L (by rw[H.hL];decide) R.held R.F (by have:=v9 H;exact O.ajd this) (a4f H)
noncomputable def fy.nb(R:fy):Hd->Bk:=R.st.nb
noncomputable def fy.whole(R:fy):Bk:=pf (pf (R.nb 0) (R.nb 1)) (R.nb 2)
def ajz(H:R.OK)(h:aa "noted" σ=some (dH bkD (br R.st.nt R.st.nb)))(x:Hd){e:PS->Option D}(he:e σ=some d)(ha:b7 d=some (hs x))(hd:∀i,d≠.int i):sub (aa "noted") e σ=some (bkD (R.nb x)):=by
 refine(c5 h he).trans ?_;have ok:ae3 d=true:=by cases d<;>first|rfl|exact absurd rfl (hd _)
 unfold g8;rw[if_pos ok];show(b7 d).bind (jq (a8 hs bkD (br R.st.nt R.st.nb)))=_;rw[ha,ar,z7,if_pos (H.done.all x)];rfl
def l_a:aj "a" = hs 0:=lit "a"
def l_b:aj "b" = hs 1:=lit "b"
def l_c:aj "c" = hs 2:=lit "c"
def biy(H:R.OK)(h:aa "noted" σ=some (dH bkD (br R.st.nt R.st.nb))):ala σ=some (.list (hds.map fun x=>bkD (R.nb x))):=by
 have e0:=ajz H h 0 (e:=kD (.str "a")) rfl (by show some (aj "a")=_;rw[l_a]) (by intro i e;cases e)
 have e1:=ajz H h 1 (e:=kD (.str "b")) rfl (by show some (aj "b")=_;rw[l_b]) (by intro i e;cases e)
 have e2:=ajz H h 2 (e:=kD (.str "c")) rfl (by show some (aj "c")=_;rw[l_c]) (by intro i e;cases e)
 unfold ala lst;simp only[cn,b0,e0,e1,e2,ar,bt];rfl
def bix(h:aa "notes" σ=some (.list (hds.map fun x=>bkD (R.nb x)))):E33 σ=some (bkD R.whole):=by
 have e0:sub (aa "notes") (kD (.int 0)) σ=some (bkD (R.nb 0)):=(c5 h rfl).trans rfl;have e1:sub (aa "notes") (kD (.int 1)) σ=some (bkD (R.nb 1)):=(c5 h rfl).trans rfl;have e2:sub (aa "notes") (kD (.int 2)) σ=some (bkD (R.nb 2)):=(c5 h rfl).trans rfl;unfold E33;simp only[ao,cn,b0,e0,e1,e2,ar,bt,aj4];rfl
def biw(H:R.OK)(h1:σ.vars "first" = some (.list (R.F.map (bz false))))(h3:σ.vars "sums" = some (.list (R.L.map .int))):E34 σ=some (.list ((bq R.F).map (kz R.s))):=by
 have e:bq R.F=R.F.filter fun r=>r.snd==false:=by apply abg;intro r _;cases r.snd<;>rfl
 rw[e];refine r0 (bz false) _ (kz R.s) (xs:=R.F) (by unfold au var;rw[h1];rfl) (by have:=v9 H;exact aw (by assumption) (by decide)) fun r hr=>⟨_,rfl,?_,fun _=>?_⟩
 .refine cmp_at (c5 rfl rfl |>.trans (n8 false r).1) rfl ?_;show eqD (dS _) (.str (aj "take"))=_;rw[z9];exact(afq _ _).trans (by rw[afg])
 .have x1:=(c5 (f₁:=sub (aa "row") (kD (.int 1))) (f₂:=kD (.int 0)) (σ:=(σ.only ["sums"]).set "row" (bz false r)) (c5 rfl rfl |>.trans (n8 false r).2.1) rfl).trans (vg r.p).1;have x2:sub (aa "sums") (sub (aa "row") (kD (.int 2))) ((σ.only ["sums"]).set "row" (bz false r))=some (.int (R.s r.m)):=by
   refine(c5 (d:=.list (R.L.map .int)) (k:=d8 r.m) h3 ((c5 rfl rfl).trans (n8 false r).2.2)).trans ?_;exact aih R.L r.m (a4f H r hr) (by rw[H.hL];decide)
  simp only[tup,cn,b0,x1,x2,ar,bt];rfl
noncomputable def abw(s:Nat->Int)(X:List Row):List (Hd×Int):=puts [] ((bq X).map fun r=>(g r.p,c9 s (dk X (g r.p))))
def biu{s:Nat->Int}(hX:X.length<=1000)(h1:σ.vars "come" = some (.list ((bq X).map (kz s)))):ak9 σ=some (.int (c9 s (bq X))):=by
 have hlen:(bq X).length<=X.length:=jv _ _;have e:=fw (fs:=[]) (F:=au (var "come")) (b:=ax "row") (f:=sub (aa "row") (kD (.int 1))) (σ:=σ) (kz s) (fun r=>.int (s r.m)) (xs:=bq X) (by unfold au var;rw[h1];rfl) (O.ao5 hX hlen) fun r _=>⟨_,rfl,rfl⟩
 unfold ak9 ao;simp only[cn,b0,e,ar,bt];have:=rq ((bq X).map fun r=>s r.m)
 rw[b5]at this;exact this
def biv{s:Nat->Int}(hX:X.length<=1000)(h1:σ.vars "come" = some (.list ((bq X).map (kz s)))):E35 σ=some (dH .int (abw s X)):=by
 have hlen:(bq X).length<=X.length:=jv _ _;unfold E35;rw[xv (kz s) (fun _=>true) (fun r=>hs (g r.p)) (fun r=>D.int (c9 s (dk X (g r.p)))) (xs:=bq X) (by unfold au var;rw[h1];rfl) (O.ao5 hX hlen)
  fun r _=>⟨_,mh _ _ _ _ _,rfl,fun _=>⟨_,rfl,rfl,?_⟩⟩]
 .rw[xp];have:((bq X).map fun r=>(hs (g r.p),D.int (c9 s (dk X (g r.p)))))=a8 hs D.int ((bq X).map fun r=>(g r.p,c9 s (dk X (g r.p)))):=by unfold a8;rw[b5];rfl
  rw[this,xt ku];rfl
 .have e:=r0 (fs:=["giver"]) (F:=au (var "come")) (b:=ax "row") (ts:=cmp eqD (sub (aa "row") (kD (.int 0))) (aa "giver")) (f:=sub (aa "row") (kD (.int 1))) (σ:=((σ.only ["come"]).set "giver" (.hstr (hs (g r.p)))).set "one" (.int (s r.m))) (kz s) (fun q=>decide (g q.p=g r.p)) (fun r=>.int (s r.m)) (xs:=bq X)
   (by show(σ.vars "come").bind _=_;rw[h1];rfl) (O.ao5 hX hlen) fun q _=>⟨_,rfl,by
    show some (mkS (hl (g q.p))==mkS (hl (g r.p)))=_;rw[nf,afj],fun _=>rfl⟩
  simp only[ao,cn,b0,e,ar,bt];have:=rq (((bq X).filter fun q=>decide (g q.p=g r.p)).map fun r=>s r.m)
  rw[b5]at this;refine aay this ?_;have e2:(bq X).filter (fun q=>decide (g q.p=g r.p))=dk X (g r.p):=by
   unfold bq dk;rw[ad9];apply abg;intro q _;rw[asm]
  rw[e2];rfl
noncomputable def t8(b:Bk):D:=.int ((b.tb.map (·.2)).sum)
def bis(h1:σ.vars "notes" = some (.list (hds.map fun x=>bkD (R.nb x))))(h2:σ.vars "whole" = some (bkD R.whole)):ar2 σ=some (.list ((hds.map R.nb++[R.whole]).map t8)):=by
 refine fw bkD t8 (xs:=hds.map R.nb++[R.whole]) ?_ (o8 rfl) fun b _=>⟨_,rfl,?_⟩
 .have:bin bb (var "notes") (lst [(var "whole")]) σ=some (.list ((hds.map R.nb++[R.whole]).map bkD)):=by
   unfold bin lst var;simp only[cn,b0,h1,h2,ar,bt];rfl
  unfold au;rw[this];rfl
 .have e:sub (aa "book") (kD (.int 4)) ((σ.only []).set "book" (bkD b))=some (dH .int b.tb):=(c5 rfl rfl).trans rfl;exact bdz b.tb
noncomputable def bdt:List (Fin 6):=[0,1,2,3,4,5]
noncomputable def ai4:D:=.list (bdt.map fun k=>dS (pc k))
def bir(σ:PS):E38 σ=some ai4:=by
 dsimp only[E38];rw[lit "",lit "\\(",lit "\")\"",lit "\\\\",lit "\"\\\")\"",lit "\\\""];rfl
def bc4(k:Fin 6):g8 ai4 (.int (k.val:Int))=some (dS (pc k)):=by
 refine afl ?_ (ur k.2 (by decide))
 match k with
 |0=>rfl|1=>rfl|2=>rfl|3=>rfl|4=>rfl|5=>rfl
noncomputable def kOf(T:Int)(r:Row):Fin 6:=⟨(((r.m:Int)+T) % 6).toNat,(asi (as9 _ (by decide))).2 (Int.emod_lt_of_pos _ (by decide))⟩
noncomputable def ain(T:Int)(r:Row):D:=.tup [dS (pl r.p),dS (blk (r.snd,kOf T r))]
def biq(H:R.OK){T:Int}(h1:σ.vars "first" = some (.list (R.F.map (bz false))))(h2:σ.vars "pieces" = some ai4)(h3:σ.vars "total" = some (.int T)):E39 σ=some (.list (R.F.map (ain T))):=by
 refine fw (bz false) (ain T) (xs:=R.F) (by dsimp only[au,var];rw[h1];rfl) (by have:=v9 H;exact aw (by assumption) (by decide)) fun r _=>⟨_,rfl,?_⟩
 have e1:sub (aa "row") (kD (.int 1)) ((σ.only ["pieces", "total"]).set "row" (bz false r))=some (dS (pl r.p)):=(c5 rfl rfl).trans (n8 false r).2.1;have e2:sub (aa "row") (kD (.int 2)) ((σ.only ["pieces", "total"]).set "row" (bz false r))=some (d8 r.m):=(c5 rfl rfl).trans (n8 false r).2.2;have e3:cmp eqD (sub (aa "row") (kD (.int 0))) (kD (.str "send")) ((σ.only ["pieces", "total"]).set "row" (bz false r))=some (r.snd==true):=by
  refine cmp_at ((c5 rfl rfl).trans (n8 false r).1) rfl ?_;exact ach▸((afq _ _).trans (by rw[afg]))
 have e4:ife (cmp eqD (sub (aa "row") (kD (.int 0))) (kD (.str "send"))) (kD (.str "(")) (kD (.str ")")) ((σ.only ["pieces", "total"]).set "row" (bz false r))=some (dS [sg r.snd]):=by
  dsimp only[ife];rw[e3,ar];induction r.snd with
  |true=>show some (D.str (aj "("))=_;rw[apw];rfl
  |false=>show some (D.str (aj ")"))=_;rw[ajr];rfl
 have e5:bin dp (bin bb (sub (aa "row") (kD (.int 2))) (var "total")) (kD (.int 6)) ((σ.only ["pieces", "total"]).set "row" (bz false r))=some (.int ((kOf T r).val:Int)):=by
  have w:((σ.only ["pieces", "total"]).set "row" (bz false r)).vars "total" = some (.int T):=h3;have e6:bin bb (sub (aa "row") (kD (.int 2))) (var "total") ((σ.only ["pieces", "total"]).set "row" (bz false r))=some (.int ((r.m:Int)+T)):=by
   dsimp only[bin,var];rw[e2,ar,w];rfl
  unfold bin at e6 |-;rw[e6,ar];show dp _ (.int 6)=_;rw[tq _ _ (by decide),anc _ (by decide)]
  congr 2
  exact(amy (as9 _ (by decide))).symm
 have e7:sub (aa "pieces") (bin dp (bin bb (sub (aa "row") (kD (.int 2))) (var "total")) (kD (.int 6))) ((σ.only ["pieces", "total"]).set "row" (bz false r))=some (dS (pc (kOf T r))):=(c5 (d:=ai4) h2 e5).trans (bc4 _);have e8:bin bb (ife (cmp eqD (sub (aa "row") (kD (.int 0))) (kD (.str "send"))) (kD (.str "(")) (kD (.str ")"))) (sub (aa "pieces") (bin dp (bin bb (sub (aa "row") (kD (.int 2))) (var "total")) (kD (.int 6)))) ((σ.only ["pieces", "total"]).set "row" (bz false r))=some (dS (blk (r.snd,kOf T r))):=by
  rw[bin,e4,ar,e7,ar];have hl:(pc (kOf T r)).length<=5:=by
   have:∀k:Fin 6,(pc k).length<=5:=by decide
   exact this _
  exact yg _ _ (by simp only[qg];exact O.ck [_] [.le .x0 (.c 5)] (.le (.a (.c 1) .x0) (.c 16777216)) 11 rfl hl)
 simp only[tup,evL,e1,e8,ar,bt];rfl
noncomputable def ldg(R:fy)(T:Int)(p:Pl):List Blk:=(R.F.filter fun r=>decide (r.p=p)).map fun r=>(r.snd,kOf T r)
def ajo(H:R.OK)(T:Int)(p:Pl):(ldg R T p).length<=97:=by dsimp only[ldg];rw[b8];exact aw (jv _ _) (v9 H)
def bbx(T:Int)(p:Pl):(ldg R T p).map (·.1)=sgn R.F p:=by dsimp only[ldg,sgn];rw[b5];rfl
def ano(X:List Blk):(txt X).length<=10 * X.length:=txt_len blk_len X
def bio(H:R.OK){T:Int}(h1:σ.vars "places" = some ry)(h2:σ.vars "signs" = some (.list (R.F.map (ain T)))):E40 σ=some (.list (pls.map fun p=>dS (txt (ldg R T p)))):=by
 refine fw (fun p=>dS (pl p)) _ (xs:=pls) (by dsimp only[au,var];rw[h1];rfl) (by decide) fun p _=>⟨_,rfl,?_⟩
 have e:=r0 (fs:=["place"]) (F:=au (var "signs")) (b:=cz ["wire", "sign"]) (ts:=cmp eqD (var "wire") (aa "place")) (f:=var "sign") (σ:=(σ.only ["signs"]).set "place" (dS (pl p))) (ain T) (fun r=>decide (r.p=p)) (fun r=>dS (blk (r.snd,kOf T r))) (xs:=R.F)
  (by show(σ.vars "signs").bind yf=_;rw[h2];rfl) (by have:=v9 H;exact aw (by assumption) (by decide)) fun r _=>⟨_,mh _ _ _ _ _,by
   show eqD (dS (pl r.p)) (dS (pl p))=_;rw[afq,ay2],fun _=>rfl⟩
 have hl:=ajo H T p;have ht:=ano (ldg R T p);dsimp only[b6,kD];simp only[evL,e,ar,bt];have e2:((R.F.filter fun r=>decide (r.p=p)).map fun r=>dS (blk (r.snd,kOf T r)))=((ldg R T p).map blk).map dS:=by dsimp only[ldg];rw[b5,b5];rfl
 have e3:((ldg R T p).map blk).flatten=txt (ldg R T p):=by dsimp only[txt];rw[List.flatMap_def]
 rw[e2,a06 _ (by rw[e3];exact O.c0 [_,_] [.le .x1 (.c 97),.le .x0 (.m 10 .x1)] (.le .x0 (.c 1000000)) (.l [1,1,10]) rfl hl ht),e3]
def bim{l:List D}(hl:l.length<=1000)(h:aa "ledgers" σ=some (.list l)):ak8 σ=some (.list l):=by
 dsimp only[ak8,sl];refine h.symm▸?_;show jl (.list l) none none none=_;rw[u9 _ _ _ _ (aw (by assumption) (by decide)) (by decide),a9h]
noncomputable def a04(R:fy)(T:Int):D:=.list (pls.map fun p=>if okX (ldg R T p)=true then dS (txt (ldg R T p))else vm)
def bil(H:R.OK){T:Int}(h:σ.vars "ledgers" = some (.list (pls.map fun p=>dS (txt (ldg R T p))))):ak7 σ=some (a04 R T):=by
 dsimp only[ak7,ao];simp only[evL,var,h,ar,bt];have:=bdv (pls.map (ldg R T)) (fun X hX=>by obtain⟨p,_,rfl⟩:=ia.mp hX;have:=ajo H T p;exact aw (by assumption) (by decide)) (by rw[b8];decide)
 rw[b5,b5]at this;exact this
noncomputable def af2(n:Nat):List Blk:=k9 n (false,0)
def a5z(n:Nat):txt (af2 n)=k9 n 41:=by
 dsimp only[txt,af2];induction n with
 |zero=>rfl
 |succ n ih=>rw[abq,ad6,ih,abq];rfl
def aw3(X Y:List Blk):txt (X++Y)=txt X++txt Y:=by dsimp only[txt];rw[List.flatMap_append]
def bav(n:Nat)(hn:n<=1000):kr (.str ")") (.int (n:Int))=some (dS (k9 n 41)):=by
 show kr (.str (aj ")")) _=_;rw[ajr];show(if 0<=(n:Int)/\(n:Int)<=1000/\(mkS [41]).length<=1000 then some (D.str (adh (mkS [41]) (n:Int)))else none)=_
 rw[if_pos ⟨by exact uf _,km.2 hn,by decide⟩]
 have:adh (mkS [41]) (n:Int)=mkS (k9 n 41):=by
  refine xq ?_;dsimp only[adh];by_cases h0:(n:Int)<1
  .have:n=0:=Nat.lt_one_iff.1 (mx.1 h0);subst this;rfl
  .rw[if_neg h0];by_cases h1:n=1
   .subst h1;rfl
   .have hne:((n:Int)==1 ||(mkS [41]).length==0)=false:=by
     have:((n:Int)==1)=false:=beq_eq_false_iff_ne.2 fun e=>h1 (ahc e)
     rw[this];rfl
    rw[hne,if_neg (by decide),abl]
    have:∀(n:Nat) (a:Array Nat),((k9 n (mkS [41]).cps).foldl (·++·) a).toList=a.toList++k9 n 41:=by
     intro n;induction n with
     |zero=>intro a;simp
     |succ n ih=>
      intro a;rw[abq,q8,ih,abq];simp[mkS]
    rw[this];rfl
 rw[this];rfl
noncomputable def clo(R:fy)(T:Int)(p:Pl):List Blk:=ldg R T p++af2 (R.und p).length
def a3c(H:R.OK)(T:Int)(p:Pl):(clo R T p).length<=200:=by
 refine de▸auv▸?_;have:=ajo H T p;have:=aid H p;exact O.ck [_,_] [.le .x0 (.c 97),.le .x1 (.c 97)] (.le (.a .x0 .x1) (.c 200)) 111 rfl ‹_› this
def bik(H:R.OK){T:Int}(h1:σ.vars "shown" = some (.list (pls.map fun p=>dS (txt (ldg R T p)))))(h2:σ.vars "unders" = some (.list (pls.map fun p=>fu (R.und p)))):E43 σ=some (.list (pls.map fun p=>dS (txt (clo R T p)))):=by
 refine fw (fun p:Pl=>D.tup [dS (txt (ldg R T p)),fu (R.und p)]) _ (xs:=pls) (aib (a:=fun p=>dS (txt (ldg R T p))) (b:=fun p=>fu (R.und p)) h1 h2) (by decide) fun p _=>⟨_,mh _ _ _ _ _,?_⟩
 have hul:=aid H p;have hl:=ajo H T p;have ht:=ano (ldg R T p);have e1:un cx (aa "row") (((σ.only []).set "ledger" (dS (txt (ldg R T p)))).set "row" (fu (R.und p)))=some (.int ((R.und p).length:Int)):=xm d8 (R.und p) (O.ao6 hul);have e2:bin kr (kD (.str ")")) (un cx (aa "row")) (((σ.only []).set "ledger" (dS (txt (ldg R T p)))).set "row" (fu (R.und p)))=some (dS (k9 (R.und p).length 41)):=by
  dsimp only[bin];rw[e1];exact bav _ (aw (by assumption) (by decide))
 have e3:bin bb (var "ledger") (bin kr (kD (.str ")")) (un cx (aa "row"))) (((σ.only []).set "ledger" (dS (txt (ldg R T p)))).set "row" (fu (R.und p)))=bb (dS (txt (ldg R T p))) (dS (k9 (R.und p).length 41)):=by
  rw[bin,e2];rfl
 rw[e3,yg _ _ (by rw[auv];exact O.c0 [_,_,_] [.le .x1 (.c 97),.le .x2 (.c 97),.le .x0 (.m 10 .x2)] (.le (.a .x0 .x1) (.c 16777216)) (.l [1,1,10,1]) rfl hul hl ht)]
 dsimp only[clo];rw[aw3,a5z]
noncomputable abbrev Ask:=List Blk×Bool
noncomputable def mj(R:fy)(T:Int):List Ask:=(pls.map fun p=>(clo R T p,false))++(pls.map fun p=>((false,0)::(clo R T p++[(true,0)]),false))++pls.map fun p=>(clo R T p,true)
noncomputable def t9(q:Ask):D:=dS (txt q.1++tls q.2)
def bij(H:R.OK){T:Int}(h:σ.vars "closed" = some (.list (pls.map fun p=>dS (txt (clo R T p))))):E45 σ=some (.list ((mj R T).map t9)):=by
 have hlen:∀p,(txt (clo R T p)).length<=2000:=fun p=>by have:=ano (clo R T p);have:=a3c H T p;exact O.c0 [_,_] [.le .x0 (.m 10 .x1),.le .x1 (.c 200)] (.le .x0 (.c 2000)) (.l [1,10,1]) rfl ‹_› this
 have e1:a7 [] (au (var "closed")) (ax "text") tt (bin bb (bin bb (kD (.str ")")) (var "text")) (kD (.str "("))) σ=some (.list (pls.map fun p=>dS (txt ((false,0)::(clo R T p++[(true,0)]))))):=by
  refine fw (fun p=>dS (txt (clo R T p))) _ (xs:=pls) (by dsimp only[au,var];rw[h];rfl) (by decide) fun p _=>⟨_,rfl,?_⟩
  have a1:bin bb (kD (.str ")")) (var "text") ((σ.only []).set "text" (dS (txt (clo R T p))))=some (dS (41::txt (clo R T p))):=by
   refine ajr▸?_;exact ak2 [41] _ (by have:=hlen p;simp only[qg];exact O.ck [_] [.le .x0 (.c 2000)] (.le (.a (.c 1) .x0) (.c 16777216)) 11 rfl this)
  rw[bin,a1];refine apw▸?_;have:=yg (41::txt (clo R T p)) [40] (by have:=hlen p;simp only[dh,jt];exact O.ck [_] [.le .x0 (.c 2000)] (.le (.a (.a .x0 (.c 1)) (.a (.c 0) (.c 1))) (.c 16777216)) 11 rfl this)
  refine aay this ?_;have e:txt ((false,0)::(clo R T p++[(true,0)]))=41::(txt (clo R T p)++[40]):=by
   show blk (false,0)++txt (clo R T p++[(true,0)])=_;rw[aw3];rfl
  rw[e];rfl
 have e2:a7 [] (au (var "closed")) (ax "text") tt (bin bb (var "text") (kD (.str "\"("))) σ=some (.list (pls.map fun p=>dS (txt (clo R T p)++tls true))):=by
  refine fw (fun p=>dS (txt (clo R T p))) _ (xs:=pls) (by dsimp only[au,var];rw[h];rfl) (by decide) fun p _=>⟨_,rfl,?_⟩
  rw[lit "\"("];exact yg (txt (clo R T p)) (tls true) (aw (aus (hlen p) _) (by decide))
 dsimp only[E45];rw[bin,bin,e1,e2];show((σ.vars "closed").bind fun a=>(some _).bind fun b=>bb a b).bind _=_
 rw[h];have f1:(pls.map fun p=>dS (txt (clo R T p)))=(pls.map fun p=>(clo R T p,false)).map t9:=by
  rw[b5];apply j3;intro p _;show _=dS (txt (clo R T p)++[]);rw[fo]
 have f2:(pls.map fun p=>dS (txt ((false,0)::(clo R T p++[(true,0)]))))=(pls.map fun p=>(((false,0)::(clo R T p++[(true,0)]):List Blk),false)).map t9:=by
  rw[b5];apply j3;intro p _;show _=dS (txt ((false,0)::(clo R T p++[(true,0)]))++[]);rw[fo]
 have f3:(pls.map fun p=>dS (txt (clo R T p)++tls true))=(pls.map fun p=>(clo R T p,true)).map t9:=by rw[b5];rfl
 refine f1▸f2▸f3▸?_;refine ei▸ei▸?_;rfl
def a5x(H:R.OK)(p:Pl):(R.und p).length=(S R.F p).length - (T R.F p).length:=by
 show((S R.F p).drop _).length=_;rw[nz];rfl
def a3n(H:R.OK)(T:Int)(p:Pl):bal 0 ((ldg R T p).map (·.1))=some (R.und p).length:=by
 rw[bbx,a5x H];exact bgy (p:=p) H.done.inv.f1
def a9w(H:R.OK)(T:Int)(p:Pl):okX (ldg R T p)=(R.und p).isEmpty:=by
 dsimp only[okX];rw[a3n H];cases R.und p<;>rfl
def a9x(H:R.OK)(T:Int)(p:Pl):okX (clo R T p)=true:=by
 dsimp only[okX,clo];rw[ei,a3o,a3n H,ar];have:(af2 (R.und p).length).map (·.1)=k9 (R.und p).length false:=by dsimp only[af2];rw[List.map_replicate]
 rw[this,bg0,if_pos (ay _)];simp
noncomputable def nr(q:Ask):Bool:=okX q.1 && !q.2
def bhi(H:R.OK)(T:Int):(mj R T).map nr=[true,true,true,true,true,true,false,false,false,false,false,false,false,false,false,false,false,false]:=by
 have h1:∀p,nr (clo R T p,false)=true:=fun p=>by dsimp only[nr];rw[a9x H];rfl
 have h2:∀p,nr ((false,0)::(clo R T p++[(true,0)]),false)=false:=fun p=>by
  have:okX ((false,0)::(clo R T p++[(true,0)]))=false:=rfl;dsimp only[nr];rw[this];rfl
 have h3:∀p,nr (clo R T p,true)=false:=fun p=>by dsimp only[nr];simp
 unfold mj;rw[ei,ei,b5,b5,b5];rw[j3 (l:=pls) (f:=nr ∘ fun p=>(clo R T p,false)) (g:=fun _=>true) fun p _=>h1 p,j3 (l:=pls) (f:=nr ∘ fun p=>((false,0)::(clo R T p++[(true,0)]),false)) (g:=fun _=>false) fun p _=>h2 p,
  j3 (l:=pls) (f:=nr ∘ fun p=>(clo R T p,true)) (g:=fun _=>false) fun p _=>h3 p]
 rfl
end
section
open Mine.L
noncomputable def C1:PS->Option Bool:=(cmp eqD (ao f_quote [(kD (.str ""))]) (kD (.str "")))
noncomputable def C2:PS->Option Bool:=(cmp eqD (var "sent") (a7 [] (au (var "due")) (ax "text") tt (bin bb (var "text") (kD (.str "\r\n.\r\n")))))
noncomputable def C3:PS->Option Bool:=(cmp eqD (a7 [] (au (var "texts")) (ax "text") tt (b6 vk (ao f_periods [(b6 oi (ao f_eols [(var "text")]) [])]) [])) (aa "due"))
noncomputable def C4:PS->Option Bool:=(cmp eqD (a7 [] (au (var "texts")) (ax "text") tt (b6 vk (ao f_periods [(b6 oi (aa "text") [])]) [])) (aa "bare"))
noncomputable def C5:PS->Option Bool:=(cmp eqD (a7 [] (au (var "mails")) (ax "mail") tt (ao f_rfc [(b6 gw (kD (.str "'")) [(sl (aa "mail") pN (pI (kD (.int 2))) pN)])])) (a7 [] (au (var "mails")) (ax "mail") tt (tup [(kD .none),(kD .none),(b6 gw (kD (.str "'")) [(sl (aa "mail") pN (pI (kD (.int 2))) pN)])])))
noncomputable def C6:PS->Option Bool:=(cmp eqD (ao f_on [(var "log"),(kD (.str "send"))]) (ao f_on [(var "log"),(kD (.str "take"))]))
noncomputable def C7:PS->Option Bool:=(cmp eqD (var "aside") (aa "laid"))
noncomputable def C8:PS->Option Bool:=(cmp eqD (var "books") (ao f_told [(var "log"),(var "held"),(var "sums")]))
noncomputable def C9:PS->Option Bool:=(cmp eqD (var "noted") (aa "told"))
noncomputable def C10:PS->Option Bool:=(cmp eqD (var "whole") (tup [(bin subD (un cx (aa "first")) (un cx (aa "come"))),(un cx (aa "come")),(bin subD (ao eg [(var "held")]) (ao eg [(a7 [] (au (var "under")) (ax "row") tt (sub (aa "row") (kD (.int 2))))])),(var "came"),(var "table")]))
noncomputable def C11:PS->Option Bool:=(cmp eqD (a7 [] (au (var "counts")) (ax "n") (toB (ofB (tst afi (var "n")))) (var "n")) (bin bb (a7 ["told"] (au (kD (.str "abc"))) (ax "hand") tt (sub (sub (aa "told") (var "hand")) (kD (.int 3)))) (lst [(var "came")])))
noncomputable def C12:PS->Option Bool:=(cmp eqD (sub (aa "again") (kD (.int 0))) (aa "noted"))
noncomputable def C13:PS->Option Bool:=(cmp eqD (i4 ["noted", "after"] (au (kD (.str "abc"))) (ax "hand") tt (var "hand") (ao f_stats [(sub (aa "noted") (var "hand")),(sub (sub (aa "after") (kD (.int 0))) (var "hand"))])) (aa "books"))
noncomputable def C14:PS->Option Bool:=(cmp eqD (var "kept") (a7 [] (qp (var "shown") (var "unders")) (cz ["ledger", "row"]) tt (ife (cmp eqD (var "row") (lst [])) (var "ledger") (kD (.str "('', '')")))))
noncomputable def C15:PS->Option Bool:=(cmp eqD (var "ledgers") (aa "shown"))
noncomputable def C16:PS->Option Bool:=(cmp eqD (a7 [] (xr (var "asked")) (cz ["k", "text"]) tt (ofB (cmp (af3 fun a b=>a==b) (ao f_check [(var "text")]) (ofB (cmp (j0 fun a b=>decide (a<b)) (var "k") (kD (.int 6))))))) (bin kr (lst [(kD (.bool true))]) (kD (.int 18))))
def bii:E46=ofB (bx C1 (bx C2 (bx C3 (bx C4 (bx C5 (bx C6 (bx C7 (bx C8 (bx C9 (bx C10 (bx C11 (bx C12 (bx C13 (bx C14 (bx C15 C16))))))))))))))):=rfl
variable {R:fy}
theorem apm:∀(l:List Nat) (b:Bool),Low l->Low (stf b l)
 |[],_,h=>h
 |c::r,b,h=>by
  have ih:=apm r (c==10) fun x hx=>h x (er _ hx)
  dsimp only[aem,n6];intro x hx;rcases ji.mp hx with hx|hx
  .split at hx
   .simp at hx;subst hx;decide
   .simp at hx;subst hx;exact h x (.head _)
  .exact ih x hx
def apn:∀l:List Nat,Low l->Low (crl l):=by
 intro l
 fun_induction crl l with
 |case1=>intro h;exact h
 |case2 r ih=>
  intro h x hx;simp only[dt]at hx;rcases hx with rfl|rfl|hx
  .decide
  .decide
  .exact ih (fun y hy=>h y (by simp[hy])) x hx
 |case3 a r _ _ ih=>
  intro h x hx;simp only[dt]at hx;rcases hx with rfl|rfl|hx
  .decide
  .decide
  .exact ih (fun y hy=>h y (.tail _ (by assumption))) x hx
 |case4 a r _ _ ih=>
  intro h x hx;simp only[dt]at hx;rcases hx with rfl|hx
  .exact h _ (.head _)
  .exact ih (fun y hy=>h y (.tail _ (by assumption))) x hx
variable{l:List Nat}
def bbg(h:Low l):ac7 (mkS l)=true:=by
 delta ac7;rw[ani];intro c hc;have:c∈l:=by simpa[mkS]using hc
 simpa using h c this
def a2l(h:Low l)(hl:l.length<=100000):oi (dS l) []=some (.bytes (enc (mkS l))):=by
 show(if ac7 (mkS l)=true/\4 * (mkS l).length<=sizeLine then some (D.bytes (enc (mkS l)))else none)=_
 rw[if_pos ⟨bbg h,by rw[fe,et];exact O.ck [_] [.le .x0 (.c 100000)] (.le (.m 4 .x0) (.c 16777216)) 41 rfl hl⟩]
def a21(h:Low l)(h1:1<=l.length)(hl:l.length<=1000000):vk (.bytes (enc (mkS l))) []=some (dS l):=by
 show(acz (enc (mkS l))).map D.str=_;rw[bfy (by rw[gc];exact h) (by rw[fe];exact h1) (by rw[fe,et];exact O.ck [_] [.le (.c 1) .x0,.le .x0 (.c 1000000)] (.le .x0 (.c 16777216)) 11 rfl h1 hl)];rfl
def axx:∀(l:List Nat) (b:Bool),1<=l.length->1<=(stf b l).length
 |c::r,b,_=>by dsimp only[aem,n6];split<;>exact gf _
def bf0:∀l:List Nat,1<=l.length->1<=(crl l).length:=by
 intro l
 fun_induction crl l with
 |case1=>intro h;exact h
 |case2 r ih=>intro _;exact gf _
 |case3 a r _ _ ih=>intro _;exact gf _
 |case4 a r _ _ ih=>intro _;exact gf _
def acr(k:Nat)(x:List Nat):ky (k+1) (dS x) (dS x)=some true:=bey k x
def bjk(σ:PS):C1 σ=some true:=by
 refine cmp_at (a:=dS []) (b:=.str "") ?_ rfl ?_
 .have:evL [(kD (.str ""))] σ=some [dS []]:=by show some [D.str (aj "")]=_;rw[vh];rfl
  delta ao;exact this▸(a11 [] (by decide))
 .show eqD (.str (mkS [])) (.str (aj ""))=_;rw[vh];rfl
variable{ds:List cv}{σ:PS}
def bjj{ps:List (List (List Nat))}(H:ou ds ps)(h1:σ.vars "sent" = some (i0 (mailsOf ps)))(h2:σ.vars "due" = some (.list (ps.map fun p=>dS (j9 (d7 p))))):C2 σ=some true:=by
 have e:i0 (mailsOf ps)=.list (ps.map fun p=>dS (j9 (d7 p)++eot)):=by
  delta i0;rw[show((ed (mailsOf ps).M).map fun m=>dS (itL (mailsOf ps) (some m)))=ps.map fun p=>dS (j9 (d7 p)++eot)from(aok (fun p=>dS (j9 (d7 p)++eot)) ps []).symm]
 refine cmp_at (b:=.list (ps.map fun p=>dS (j9 (d7 p)++eot))) h1 ?_ ?_
 .refine fw (fun p=>dS (j9 (d7 p))) _ (xs:=ps) (by delta au var;rw[h2];rfl) (by have:=H.few;exact aw (by assumption) (by decide)) fun p hp=>⟨_,rfl,?_⟩
  obtain⟨m,hm,P⟩:=s7 H hp;obtain⟨_,_,_,_,_,hl,_⟩:=n9 P hm;have:=aj6 (d7 p);refine apx▸?_;exact yg _ _ (by simp only[dh,jt];exact O.ck [_,_] [.le .x1 (.c 40),.an (.h _) (.an (.n (.h _)) (.an (.h _) (.an (.n (.h _)) (.an (.h _) (.le (.c 1) .x1))))),.le .x0 (.m 4 .x1)] (.le (.a .x0 (.a (.a (.a (.a (.a (.c 0) (.c 1)) (.c 1)) (.c 1)) (.c 1)) (.c 1))) (.c 16777216)) 4011 rfl hl ‹_› this)
 .exact e▸(vi fun p _=>acr 6 _)
def bji{ps:List (List (List Nat))}(H:ou ds ps)(h1:σ.vars "texts" = some (.list (ps.map fun p=>dS (d7 p))))(h2:aa "due" σ=some (.list (ps.map fun p=>dS (j9 (d7 p))))):C3 σ=some true:=by
 refine cmp_at (a:=.list (ps.map fun p=>dS (j9 (d7 p)))) ?_ h2 (vi fun p _=>acr 6 _)
 refine fw (fun p=>dS (d7 p)) _ (xs:=ps) (by delta au var;rw[h1];rfl) (by have:=H.few;exact aw (by assumption) (by decide)) fun p hp=>⟨_,rfl,?_⟩
 obtain⟨m,hm,P⟩:=s7 H hp;obtain⟨_,_,_,_,_,hl,hlow,_,_,_,_,h1⟩:=n9 P hm;generalize d7 p=x at hl hlow h1;have hc:=aak x;have hs:=ze (crl x) true;have e1:ao f_eols [(var "text")] ((σ.only []).set "text" (dS x))=some (dS (crl x)):=by
  delta ao var;dsimp only[cn,b0,m8,if_true,ar,bt];exact bdy x (O.ao4 hl h1)
 have e2:b6 oi (ao f_eols [(var "text")]) [] ((σ.only []).set "text" (dS x))=some (.bytes (enc (mkS (crl x)))):=by
  delta b6;exact e1▸(a2l (apn x hlow) (O.az6 hl h1 hc))
 have e3:ao f_periods [(b6 oi (ao f_eols [(var "text")]) [])] ((σ.only []).set "text" (dS x))=some (.bytes (enc (mkS (stf true (crl x))))):=by
  show(evL [(b6 oi (ao f_eols [(var "text")]) [])] ((σ.only []).set "text" (dS x))).bind f_periods=_;simp only[cn,b0,e2,ar,bt];exact a12 (crl x) (apn x hlow) (O.az6 hl h1 hc)
 rw[b6,e3,aqs];exact a21 (apm _ _ (apn x hlow)) (axx _ _ (bf0 x h1)) (O.ck [_,_,_] [.le .x1 (.c 40),.le (.c 1) .x1,.le .x2 (.m 2 .x1),.le .x0 (.m 2 .x2)] (.le .x0 (.c 1000000)) 40211 rfl hl h1 hc hs)
def bjh{ps:List (List (List Nat))}(H:ou ds ps)(h1:σ.vars "texts" = some (.list (ps.map fun p=>dS (d7 p))))(h2:aa "bare" σ=some (.list (ps.map fun p=>dS (stf true (d7 p))))):C4 σ=some true:=by
 refine cmp_at (a:=.list (ps.map fun p=>dS (stf true (d7 p)))) ?_ h2 (vi fun p _=>acr 6 _)
 refine fw (fun p=>dS (d7 p)) _ (xs:=ps) (by unfold au var;rw[h1];rfl) (by have:=H.few;exact aw (by assumption) (by decide)) fun p hp=>⟨_,rfl,?_⟩
 obtain⟨m,hm,P⟩:=s7 H hp;obtain⟨_,_,_,_,_,hl,hlow,_,_,_,_,h1⟩:=n9 P hm;generalize d7 p=x at hl hlow h1;have hs:=ze x true;have e2:b6 oi (aa "text") [] ((σ.only []).set "text" (dS x))=some (.bytes (enc (mkS x))):=a2l hlow (O.ao4 hl h1);have e3:ao f_periods [(b6 oi (aa "text") [])] ((σ.only []).set "text" (dS x))=some (.bytes (enc (mkS (stf true x)))):=by
  unfold ao;simp only[cn,b0,e2,ar,bt];exact a12 x hlow (O.ao4 hl h1)
 rw[b6,e3];exact a21 (apm _ _ hlow) (axx _ _ h1) (O.ck [_,_] [.le .x1 (.c 40),.le (.c 1) .x1,.le .x0 (.m 2 .x1)] (.le .x0 (.c 1000000)) 2011 rfl hl h1 hs)
def bjg{ps:List (List (List Nat))}(H:ou ds ps)(h1:σ.vars "mails" = some (.list (ps.map ew))):C5 σ=some true:=by
 have two:∀p∈ps,b6 gw (kD (.str "'")) [(sl (aa "mail") pN (pI (kD (.int 2))) pN)] ((σ.only []).set "mail" (ew p))=some (dS (cf [39] (p.take 2))):=fun p hp=>by
  obtain⟨m,hm,P⟩:=s7 H hp;have h2:=(aza P hm).2;obtain⟨a,b,c,e,_⟩:=n9 P hm;have e1:sl (aa "mail") pN (pI (kD (.int 2))) pN ((σ.only []).set "mail" (ew p))=some (.list ((p.take 2).map dS)):=by
   show jl (.list (p.map dS)) none (some (2:Int)) none=_;rw[u9 _ _ _ _ (by rw[b8,e];exact o8 rfl) (by decide),xg]
   have:=aot p 2;rw[show((2:Nat):Int)=2 from rfl]at this;rw[this]
  have e2:evL [(sl (aa "mail") pN (pI (kD (.int 2))) pN)] ((σ.only []).set "mail" (ew p))=some [.list ((p.take 2).map dS)]:=by rw[b0,e1];rfl
  show(evL [(sl (aa "mail") pN (pI (kD (.int 2))) pN)] ((σ.only []).set "mail" (ew p))).bind (fun ds=>gw (.str "'") ds)=_
  rw[e2];exact ajv apv (p.take 2) (by rw[e];simp) (by simp only[qg];exact O.ck [_] [.le .x0 (.c 40)] (.le (.a .x0 (.c 1)) (.c 1000000)) 11 rfl h2)
 refine cmp_at (a:=.list (ps.map fun p=>.tup [.none,.none,dS (cf [39] (p.take 2))])) (b:=.list (ps.map fun p=>.tup [.none,.none,dS (cf [39] (p.take 2))])) ?_ ?_ (vi fun p _=>?_)
 .refine fw ew _ (xs:=ps) (by unfold au var;rw[h1];rfl) (by have:=H.few;exact aw (by assumption) (by decide)) fun p hp=>⟨_,rfl,?_⟩
  obtain⟨m,hm,P⟩:=s7 H hp;obtain⟨q1,q2⟩:=aza P hm;unfold ao;simp only[cn,b0,two p hp,ar,bt];rw[aqi _ (aw (by assumption) (by decide)),if_pos q1]
 .refine fw ew _ (xs:=ps) (by unfold au var;rw[h1];rfl) (by have:=H.few;exact aw (by assumption) (by decide)) fun p hp=>⟨_,rfl,?_⟩
  unfold tup;simp only[cn,b0,two p hp,kD,ar,bt]
 .exact bex (k:=6) rfl (vo (F:=ky 6) rfl (vo (F:=ky 6) rfl (vo (F:=ky 6) (acr 5 _) rfl)))
def bjf(H:R.OK)(h1:σ.vars "log" = some (.list (R.st.lg.map (bz true)))):C6 σ=some true:=by
 have hon:∀k:Bool,f_on [.list (R.st.lg.map (bz true)),dS (kL k)]=some (onD k R.st.lg):=fun k=>a13 true k _ (by have:=H.lg;exact O.ajd this)
 refine cmp_at (a:=onD true R.st.lg) (b:=onD false R.st.lg) ?_ ?_ ?_
 .delta ao;simp only[cn,b0,var,kD,h1,ar,bt];rw[ach];exact hon true
 .delta ao;simp only[cn,b0,var,kD,h1,ar,bt];rw[z9];exact hon false
 .refine vi fun p _=>?_
  have e:onL true R.st.lg p=onL false R.st.lg p:=H.done.law p;exact e▸(a2t (k:=6) fun m _=>afv 5 _)
def bje(H:R.OK)(h1:σ.vars "aside" = some (dH (dH qD) (br R.st.nt R.st.ad)))(h2:aa "laid" σ=some (dH (dH qD) (br hds (qw R)))):C7 σ=some true:=cmp_at h1 h2 (bhj H)
def axa(s:Nat->Int)(held:Hd->Int)(X:List Row):told s held X=br hds (tB s held X):=rfl
variable{l:List Hd}
def aqp(hl:l.Nodup)(h3:l.length=3){f f':Hd->Bk}(h:∀x∈l,ago (f x) (f' x)):eqD (dH bkD (br l f)) (dH bkD (br hds f'))=some true:=by
 refine a2f (a02 hl f) (by delta br;rw[b8,b8,h3];rfl) fun p hp=>?_
 obtain⟨x,hx,rfl⟩:=ia.mp hp;exact⟨f' x,apq (xl x),h x hx⟩
def bjd(H:R.OK)(h1:σ.vars "books" = some (dH bkD (br hds R.st.bk)))(h2:σ.vars "log" = some (.list (R.st.lg.map (bz true))))(h3:σ.vars "held" = some (fg R.held))(h4:σ.vars "sums" = some (.list (R.L.map .int))):C8 σ=some true:=by
 refine cmp_at (b:=dH bkD (told R.s R.held R.st.lg)) h1 ?_ ?_
 .delta ao;simp only[cn,b0,var,h2,h3,h4,ar,bt];exact a1z true R.L (by rw[H.hL];decide) R.held R.st.lg (by have:=H.lg;exact O.ajd this) fun r hr=>by have:=H.rows r hr;have:=H.hM;exact H.hL▸(O.ao7 ‹_› this)
 .rw[axa];exact aqp (by decide) rfl fun x _=>(H.done.inv.bk x).eq (axm _ _ _ _)
def bjc(H:R.OK)(h1:σ.vars "noted" = some (dH bkD (br R.st.nt R.st.nb)))(h2:aa "told" σ=some (dH bkD (told R.s R.held R.F))):C9 σ=some true:=by
 refine cmp_at h1 h2 ?_;rw[axa];exact aqp H.done.inv.nd (apd H) fun x hx=>(H.done.inv.nb x hx).eq (axm _ _ _ _)
def bbi(hl:l.Nodup)(h3:l.length=3)(ha:∀x,x∈l){f f':Hd->Bk}(h:∀x,ago (f x) (f' x)):eqD (dH bkD (br hds f)) (dH bkD (br l f'))=some true:=by
 refine a2f (a02 (by decide) f) (by delta br;rw[b8,b8,h3];rfl) fun p hp=>?_
 obtain⟨x,hx,rfl⟩:=ia.mp hp;exact⟨f' x,apq (ha x),h x⟩
def bjp(H:R.OK)(h1:aa "again" σ=some (rt R.ml R.st2))(h2:aa "noted" σ=some (dH bkD (br R.st.nt R.st.nb))):C12 σ=some true:=by
 refine cmp_at (a:=dH bkD (br hds R.st2.bk)) ((c5 h1 rfl).trans rfl) h2 ?_;exact bbi H.done.inv.nd (apd H) H.done.all fun x=>(H.a2.bk x).eq (H.done.inv.nb x (H.done.all x))
def a32(σ:PS):au (kD (.str "abc")) σ=some (hds.map fun h=>dS (hl h)):=by
 show(if(aj "abc").cps.all (·<128)=true then some (iu (aj "abc"))else none)=_
 rw[ajm,if_pos (by decide+kernel)];rfl
def bjo(H:R.OK)(h1:σ.vars "noted" = some (dH bkD (br R.st.nt R.st.nb)))(h2:σ.vars "after" = some (rt R.ml R.st3))(h3:aa "books" σ=some (dH bkD (br hds R.st.bk))):C13 σ=some true:=by
 refine cmp_at (a:=dH bkD (br hds fun h=>pf (R.st.nb h) (R.st3.bk h))) ?_ h3 ?_
 .rw[xv (fun h:Hd=>dS (hl h)) (fun _=>true) hs (fun h=>bkD (pf (R.st.nb h) (R.st3.bk h))) (xs:=hds) (a32 σ) (by decide) fun h _=>⟨_,rfl,rfl,fun _=>⟨_,rfl,rfl,?_⟩⟩]
  .rw[xp];have:(hds.map fun h=>(hs h,bkD (pf (R.st.nb h) (R.st3.bk h))))=a8 hs bkD (br hds fun h=>pf (R.st.nb h) (R.st3.bk h)):=by unfold a8 br;rw[b5];rfl
   rw[this,xt ku,zo (apy _)];rfl
  .have e1:sub (aa "noted") (var "hand") ((σ.only ["noted", "after"]).set "hand" (dS (hl h)))=some (bkD (R.st.nb h)):=ajz H (σ:=(σ.only ["noted", "after"]).set "hand" (dS (hl h))) h1 h rfl rfl (by intro i e;cases e)
   have e2:sub (aa "after") (kD (.int 0)) ((σ.only ["noted", "after"]).set "hand" (dS (hl h)))=some (dH bkD (br hds R.st3.bk)):=(c5 (d:=rt R.ml R.st3) h2 rfl).trans rfl;have e3:sub (sub (aa "after") (kD (.int 0))) (var "hand") ((σ.only ["noted", "after"]).set "hand" (dS (hl h)))=some (bkD (R.st3.bk h)):=by
    refine(c5 e2 (k:=dS (hl h)) rfl).trans ?_;show jq (a8 hs bkD (br hds R.st3.bk)) (hs h)=_;rw[z7,if_pos (xl h)]
   simp only[ao,cn,b0,e1,e3,ar,bt,aj4]
 .refine aqp (by decide) rfl fun x _=>?_
  have h1:=(H.done.inv.nb x (H.done.all x)).add (H.a3.bk x);have h2:Bks (R.held x) R.s (hand x R.st.lg) (pf (R.st.nb x) (R.st3.bk x)):=by
   have e:R.held x+0=R.held x:=yz _;rw[e]at h1;exact h1.perm (a7g _ _)
  exact h2.eq (H.done.inv.bk x)
noncomputable def l9(f:Pl->Int):Int:=f 0+f 1+f 2+f 3+f 4+f 5
def acc{A B C a b:Int}(h:C=A+B):C+(a+b)=A+a+(B+b):=h▸ak4
def axr(f g:Pl->Int):l9 (fun q=>f q+g q)=l9 f+l9 g:=
 acc (acc (acc (acc ak4)))
def a6v(p:Pl)(a:Int)(f:Pl->Int):l9 (fun q=>(if p=q then a else 0)+f q)=a+l9 f:=by
 rw[axr];refine congrArg (·+l9 f) ?_;revert p;exact c6 (by simp[l9]) (by simp[l9]) (by simp[l9]) (by simp[l9]) (by simp[l9]) (aa7 _)
def ayj(s:Nat->Int)(b:Bool)(F:List Row->Pl->List Nat)(g:List Row->List Row)(F0:∀p,F [] p=[])(g0:g []=[])(hg:∀r X,g (r::X)=if r.snd=b then r::g X else g X)
  (hF:∀r X q,F (r::X) q=(if r.snd=b/\r.p=q then [r.m]else [])++F X q) (X:List Row):c9 s (g X)=l9 fun p=>((F X p).map s).sum:=by
 induction X with
 |nil=>rw[g0];simp only[F0];rfl
 |cons r X ih=>
  have h:∀q,((F (r::X) q).map s).sum=(if r.p=q then(if r.snd=b then s r.m else 0)else 0)+((F X q).map s).sum:=fun q=>by
   rw[hF,ei,ady];by_cases h1:r.snd=b<;>by_cases h2:r.p=q<;>simp[h1,h2]
  simp only[h];rw[a6v,<-ih,hg];split
  .rfl
  .rw[aa7]
def a5u(s:Nat->Int)(X:List Row):c9 s (ups X)=l9 fun p=>((S X p).map s).sum:=
 ayj s true (fun X p=>S X p) ups (fun _=>rfl) rfl (fun _ _=>List.filter_cons) (fun r X q=>by rw[<-vw];exact pz (X:=[r])) X
def bes(s:Nat->Int)(X:List Row):c9 s (bq X)=l9 fun p=>((T X p).map s).sum:=
 ayj s false (fun X p=>T X p) bq (fun _=>rfl) rfl (fun r X=>by obtain⟨b,_,_,_⟩:=r;cases b<;>rfl) (fun r X q=>by rw[<-vu];exact px (X:=[r])) X
def a5t(H:R.OK):(R.ne.map R.us).sum=c9 R.s (ups R.F) - c9 R.s (bq R.F):=by
 have h1:∀p,((S R.F p).map R.s).sum=((T R.F p).map R.s).sum+R.us p:=fun p=>by
  have:S R.F p=T R.F p++R.und p:=H.done.und p;rw[this,ei,ady];rfl
 have h2:∀l:List Pl,((l.filter fun p=>!(R.und p).isEmpty).map R.us).sum=(l.map R.us).sum:=by
  intro l;induction l with
  |nil=>rfl
  |cons p l ih=>
   by_cases h:(R.und p).isEmpty=true
   .have:R.us p=0:=by
     unfold fy.us;rw[amg.mp h];rfl
    simp[h,this,ih]
   .have h':(R.und p).isEmpty=false:=ad7.2 (by assumption)
    simp[h',ih]
 show((pls.filter fun p=>!(R.und p).isEmpty).map R.us).sum=_
 rw[h2,a5u,bes];rw[funext h1,axr,qm,abo];show R.us 0+(R.us 1+(R.us 2+(R.us 3+(R.us 4+(R.us 5+0)))))=l9 R.us;delta l9;rw[yz,my,my,my,my]
def a6l(s:Nat->Int)(X:List Row)(k:Hd):look (abw s X) k=n5 s X k:=by
 delta abw;rw[apr (fun r:Row=>g r.p) (fun k=>c9 s (dk X k)) k]
 delta n5;have key:k∈(bq X).map (fun r=>g r.p)↔(dk X k).isEmpty=false:=by
  delta bq dk;induction X with
  |nil=>simp
  |cons r Y ih=>
   refine if h1:r.snd=true then ?_ else ?_
   .simpa[h1]using ih
   .refine if h2:g r.p=k then ?_ else ?_
    .simp[h1,h2]
    .simp[h1,h2,g7 h2]at ih |-;exact ih
 refine if hk:k∈(bq X).map (fun r=>g r.p)then ?_ else ?_
 .rw[if_pos hk,key.mp hk];rfl
 .refine(if_neg hk)▸?_;have:(dk X k).isEmpty=true:=by
   cases hq:(dk X k).isEmpty with
   |true=>rfl
   |false=>exact absurd (key.mpr hq) hk
  rw[this];rfl
noncomputable def aac(held:Hd->Int):Int:=held 0+held 1+held 2
def awt(H:R.OK):Bks (aac R.held) R.s R.F R.whole:=by
 have h:=fun x=>H.done.inv.nb x (H.done.all x)
 exact(((h 0).add (h 1)).add (h 2)).perm (bc0 _)
noncomputable def awv(R:fy):Bk:=⟨(R.F.length:Int) - (bq R.F).length,(bq R.F).length,aac R.held - (R.ne.map R.us).sum,c9 R.s (bq R.F),abw R.s R.F⟩
def a5j(H:R.OK):Bks (aac R.held) R.s R.F (awv R) where
 n:=by
  have:R.F.length=(ups R.F).length+(bq R.F).length:=by
   have:=(avh (fun r:Row=>r.snd) R.F).length_eq
   rw[de]at this;exact this.symm
  show(R.F.length:Int) - (bq R.F).length=_;rw[this,ahk,abo]
 m:=rfl
 s:=by
  show aac R.held - (R.ne.map R.us).sum=_;rw[a5t H,abm,Int.neg_sub,abm,abm,<-my];exact Int.add_right_comm ..
 t:=rfl
 keys:=apz _ _ qb
 tab:=a6l _ _
def bcx(held:Hd->Int):eg [fg held]=some (.int (aac held)):=by
 have:=rq (([0,1,2]:List Hd).map held);rw[b5]at this;refine aay this ?_;show some (D.int (held 0+(held 1+(held 2+0))))=some (D.int (held 0+held 1+held 2));rw[yz,my]
def bjr(H:R.OK)(h1:σ.vars "whole" = some (bkD R.whole))(h2:aa "first" σ=some (.list (R.F.map (bz false))))(h3:aa "come" σ=some (.list ((bq R.F).map (kz R.s))))(h4:σ.vars "held" = some (fg R.held))(h5:σ.vars "under" = some (.list (R.ne.map (wz R))))
  (h6:σ.vars "came" = some (.int (c9 R.s (bq R.F)))) (h7:σ.vars "table" = some (dH .int (abw R.s R.F))):C10 σ=some true:=by
 have hF:=v9 H;have hd:(bq R.F).length<=R.F.length:=jv _ _;refine cmp_at (b:=bkD (awv R)) h1 ?_ ?_
 .have e1:un cx (aa "first") σ=some (.int (R.F.length:Int)):=by delta un;exact h2▸(xm (bz false) R.F (O.ao6 hF))
  have e2:un cx (aa "come") σ=some (.int ((bq R.F).length:Int)):=by delta un;exact h3▸(xm (kz R.s) (bq R.F) (aw hd (aw hF (by decide))))
  have e3:ao eg [(var "held")] σ=some (.int (aac R.held)):=by
   delta ao;simp only[cn,b0,var,h4,ar,bt];exact bcx _
  have e4:ao eg [(a7 [] (au (var "under")) (ax "row") tt (sub (aa "row") (kD (.int 2))))] σ=some (.int (R.ne.map R.us).sum):=by
   have e:=fw (fs:=[]) (F:=au (var "under")) (b:=ax "row") (f:=sub (aa "row") (kD (.int 2))) (σ:=σ) (wz R) (fun p=>D.int (R.us p)) (xs:=R.ne) (by delta au var;rw[h5];rfl) (by have:R.ne.length<=6:=jv _ _;exact O.az7 this) fun p _=>⟨_,rfl,rfl⟩
   delta ao;simp only[cn,b0,e,ar,bt];have:=rq (R.ne.map R.us);rw[b5]at this;exact this
  have e5:bin subD (un cx (aa "first")) (un cx (aa "come")) σ=some (.int ((R.F.length:Int) - (bq R.F).length)):=by
   show(un cx (aa "first") σ).bind (fun a=>(un cx (aa "come") σ).bind fun b=>subD a b)=_
   rw[e1,e2];rfl
  have e6:bin subD (ao eg [(var "held")]) (ao eg [(a7 [] (au (var "under")) (ax "row") tt (sub (aa "row") (kD (.int 2))))]) σ=some (.int (aac R.held - (R.ne.map R.us).sum)):=by
   show(ao eg [(var "held")] σ).bind (fun a=>(ao eg [(a7 [] (au (var "under")) (ax "row") tt (sub (aa "row") (kD (.int 2))))] σ).bind fun b=>subD a b)=_
   rw[e3,e4];rfl
  have e7:var "came" σ=some (.int (c9 R.s (bq R.F))):=h6;have e8:var "table" σ=some (dH .int (abw R.s R.F)):=h7;delta tup;simp only[cn,b0,e5,e2,e6,e7,e8,ar,bt];rfl
 .show jf 8 _ _=_;exact a2r (k:=5) ((awt H).eq (a5j H))
def bjq(H:R.OK)(h1:σ.vars "counts" = some (.list ((hds.map R.nb++[R.whole]).map t8)))(h2:σ.vars "told" = some (dH bkD (told R.s R.held R.F)))(h3:σ.vars "came" = some (.int (c9 R.s (bq R.F)))):C11 σ=some true:=by
 refine cmp_at (a:=.list ((hds.map R.nb++[R.whole]).map t8)) (b:=.list ((hds.map R.nb++[R.whole]).map t8)) ?_ ?_ (vi fun b _=>afv 6 _)
 .have:=r0 (fs:=[]) (F:=au (var "counts")) (b:=ax "n") (ts:=toB (ofB (tst afi (var "n")))) (f:=var "n") (σ:=σ) t8 (fun _=>true) t8 (xs:=hds.map R.nb++[R.whole]) (by unfold au var;rw[h1];rfl) (o8 rfl) fun b _=>⟨_,rfl,rfl,fun _=>rfl⟩
  rw[xp]at this;exact this
 .have e1:a7 ["told"] (au (kD (.str "abc"))) (ax "hand") tt (sub (sub (aa "told") (var "hand")) (kD (.int 3))) σ=some (.list (hds.map fun h=>t8 (R.nb h))):=by
   refine fw (fun h=>dS (hl h)) _ (xs:=hds) (a32 σ) (by decide) fun h _=>⟨_,rfl,?_⟩
   have e2:sub (aa "told") (var "hand") ((σ.only ["told"]).set "hand" (dS (hl h)))=some (bkD (tB R.s R.held R.F h)):=by
    refine(c5 (d:=dH bkD (told R.s R.held R.F)) (k:=dS (hl h)) h2 rfl).trans ?_;show jq (a8 hs bkD (br hds (tB R.s R.held R.F))) (hs h)=_;rw[z7,if_pos (xl h)]
   rw[c5 e2 rfl];have hnb:=H.done.inv.nb h (H.done.all h);have e3:((R.nb h).tb.map (·.2)).sum=(tB R.s R.held R.F h).t:=hnb.count.trans hnb.t;show some (D.int (tB R.s R.held R.F h).t)=some (D.int ((R.nb h).tb.map (·.2)).sum);rw[e3]
  have e4:lst [(var "came")] σ=some (.list [t8 R.whole]):=by
   have hw:=awt H;unfold lst var;simp only[cn,b0,h3,ar,bt];delta t8;rw[(hw.count.trans hw.t:(R.whole.tb.map (·.2)).sum=c9 R.s (bq R.F))]
  show(a7 ["told"] (au (kD (.str "abc"))) (ax "hand") tt (sub (sub (aa "told") (var "hand")) (kD (.int 3))) σ).bind (fun a=>(lst [(var "came")] σ).bind fun b=>bb a b)=_
  rw[e1,e4,ei,b5];rfl
def bjn(H:R.OK){T:Int}(h1:σ.vars "kept" = some (a04 R T))(h2:σ.vars "shown" = some (.list (pls.map fun p=>dS (txt (ldg R T p)))))(h3:σ.vars "unders" = some (.list (pls.map fun p=>fu (R.und p)))):C14 σ=some true:=by
 refine cmp_at (b:=.list (pls.map fun p=>if okX (ldg R T p)=true then dS (txt (ldg R T p))else vm)) h1 ?_ (vi fun p _=>?_)
 .refine fw (fun p:Pl=>D.tup [dS (txt (ldg R T p)),fu (R.und p)]) _ (xs:=pls) (aib (a:=fun p=>dS (txt (ldg R T p))) (b:=fun p=>fu (R.und p)) h2 h3) (by decide) fun p _=>⟨_,mh _ _ _ _ _,?_⟩
  have t:cmp eqD (var "row") (lst []) (((σ.only []).set "ledger" (dS (txt (ldg R T p)))).set "row" (fu (R.und p)))=some (R.und p).isEmpty:=by
   refine cmp_at (a:=fu (R.und p)) (b:=.list []) rfl rfl ?_;cases R.und p<;>rfl
  delta ife;rw[t,ar,a9w H];cases(R.und p).isEmpty<;>rfl
 .split
  .exact acr 6 _
  .show some (aj "('', '')" == aj "('', '')")=_;rw[beq_self_eq_true]
def bjm{l:List Pl}{f:Pl->List Nat}(h1:σ.vars "ledgers" = some (.list (l.map fun p=>dS (f p))))(h2:aa "shown" σ=some (.list (l.map fun p=>dS (f p)))):C15 σ=some true:=cmp_at h1 h2 (vi fun p _=>acr 6 _)
def bhh(H:R.OK)(T:Int):∀q∈mj R T,q.1.length<=1000:=by
 intro q hq;have hc:=a3c H T;delta mj at hq;refine iy (ji.mp hq) (fun hq=>?_) fun hq=>?_
 .refine iy (ji.mp hq) (fun hq=>?_) fun hq=>?_
  .refine oEA (ia.mp hq) fun p _ ez2=>?_;subst ez2;have:=hc p;dsimp only;exact O.az5 this
  .refine oEA (ia.mp hq) fun p _ ez2=>?_;subst ez2;have:=hc p;simp only[dh,de,jt];exact O.ck [_] [.le .x0 (.c 200)] (.le (.a (.a .x0 (.a (.c 0) (.c 1))) (.c 1)) (.c 1000)) 11 rfl this
 .refine oEA (ia.mp hq) fun p _ ez2=>?_;subst ez2;have:=hc p;dsimp only;exact O.az5 this
def a5e{α:Type}{l:List α}:∀{x:Nat×α},x∈(ed l.length).zip l->l[x.1]?=some x.2:=by
 intro x hx;obtain⟨i,hi,e⟩:=aur.mp hx;rw[<-e];simp only[List.getElem_zip,ahy];rw[gq]
def bjl(H:R.OK){T:Int}(h1:σ.vars "asked" = some (.list ((mj R T).map t9))):C16 σ=some true:=by
 have hl:(mj R T).length=18:=rfl;refine cmp_at (a:=.list (((ed (mj R T).length).zip (mj R T)).map fun _=>.bool true)) (b:=.list (((ed (mj R T).length).zip (mj R T)).map fun _=>.bool true)) ?_ ?_ (vi fun _ _=>rfl)
 .refine fw (fun x:Nat×Ask=>D.tup [.int (x.1:Int),t9 x.2]) _ (xs:=(ed (mj R T).length).zip (mj R T)) ?_ (by rw[List.length_zip,amn,hl];decide) fun x hx=>⟨_,mh _ _ _ _ _,?_⟩
  .delta xr var;refine h1▸?_;show some (nk ((mj R T).map t9))=_;unfold nk;rw[b8,avb,ank]
  .have hmem:=a5e hx;have hv:nr x.2=decide ((x.1:Int)<6):=by
    have h2:((mj R T).map nr)[x.1]?=some (nr x.2):=by rw[abk,hmem];rfl
    replace h2:=(bhi H T).symm▸h2;obtain⟨i,q⟩:=x;dsimp only at h2 |-;have hi:i<18:=by
     have:=anb.mp hmem;refine oE this fun hlt _=>?_;clear this
     replace hlt:=hl.symm▸hlt;exact hlt
    exact dn (h2.symm.trans ((by decide:∀i:Nat,i<18->([true,true,true,true,true,true,false,false,false,false,false,false,false,false,false,false,false,false]:List Bool)[i]?=some (decide ((i:Int)<6))) i hi))
   have e1:ao f_check [(var "text")] (((σ.only []).set "k" (.int (x.1:Int))).set "text" (t9 x.2))=some (.bool (nr x.2)):=by
    delta ao;dsimp only[cn,b0,var,m8,if_true,ar,bt];exact a15 x.2.1 x.2.2 (bhh H T _ (qe hmem:x.2∈mj R T))
   have e3:cmp (af3 fun a b=>a==b) (ao f_check [(var "text")]) (ofB (cmp (j0 fun a b=>decide (a<b)) (var "k") (kD (.int 6)))) (((σ.only []).set "k" (.int (x.1:Int))).set "text" (t9 x.2))=some true:=by
    refine cmp_at e1 (rfl:ofB (cmp (j0 fun a b=>decide (a<b)) (var "k") (kD (.int 6))) (((σ.only []).set "k" (.int (x.1:Int))).set "text" (t9 x.2))=some (.bool (decide ((x.1:Int)<6)))) ?_
    show some (nr x.2==decide ((x.1:Int)<6))=_;rw[hv,beq_self_eq_true]
   unfold ofB at e3 |-;rw[e3];rfl
 .rfl
end
section
open Mine.L
def a9m{R:fy}{L:List Int}{held:Hd->Int}{T:Int}{ds:List cv}{ps:List (List (List Nat))}{c:Fin 6}(H:R.OK)(D0:ou ds ps)(hml:R.ml=mailsOf ps)(hL:R.L=L)(hh:R.held=held){σ:PS}(F0:Fs σ (lC R (lB (mailsOf ps) ps (lA L held T ds ps c)))) :
  (ag (c7 "unders" E27) (bw "unders" (ag (b3 "under" E29) (ag (c7 "laid" E30) (bw "laid" (ag (f7 ["told", "notes"] [shI alb,shI ala]) (ag (b3 "whole" E33) (ag (b3 "come" E34) (ag (c7 "table" E35) (bw "table" (ag (f7 ["came", "counts"] [shI ak9,shI ar2]) (ag (b3 "pieces" E38) (ag (b3 "signs" E39) (ag (c7 "ledgers" E40) (bw "ledgers" (ag (f7 ["shown", "kept"] [shI ak8,shI ak7]) (ag (c7 "closed" E43) (bw "closed" (ag (b3 "asked" E45) (ag (ej E46) nxt)))))))))))))))))))) σ=some (.ret (.bool true)):=by
 subst hL;subst hh;have hF:=v9 H;refine qx F0 rfl (bi3 H (F0.v 1 rfl) (F0.v 0 rfl)) fun σ1 F1=>?_
 refine tm F1 rfl (bi2 H (F1.v 23 rfl) (F1.v 0 rfl) (F1.v 21 rfl)) fun σ2 F2=>?_
 refine qx F2 rfl (bi0 H (F2.v 0 rfl)) fun σ3 F3=>?_
 refine aco F3 rfl rfl (biz H (F3.v 8 rfl) (F3.v 22 rfl) (F3.v 23 rfl)) (biy H (F3.o 11 rfl)) fun σ4 F4=>?_
 refine tm F4 rfl (bix (F4.o 0 rfl)) fun σ5 F5=>?_
 refine tm F5 rfl (biw H (F5.v 11 rfl) (F5.v 26 rfl)) fun σ6 F6=>?_
 refine qx F6 rfl (biv (aw (by assumption) (by decide)) (F6.v 0 rfl)) fun σ7 F7=>?_
 refine aco F7 rfl rfl (biu (aw (by assumption) (by decide)) (F7.v 1 rfl)) (bis (F7.v 3 rfl) (F7.v 2 rfl)) fun σ8 F8=>?_
 refine tm F8 rfl (bir σ8) fun σ9 F9=>?_
 refine tm F9 rfl (biq H (F9.v 16 rfl) (F9.v 0 rfl) (F9.v 32 rfl)) fun σ10 F10=>?_
 refine qx F10 rfl (bio H (F10.v 34 rfl) (F10.v 0 rfl)) fun σ11 F11=>?_
 refine aco F11 rfl rfl (bim (by rw[b8];decide) (F11.o 0 rfl)) (bil H (F11.v 0 rfl)) fun σ12 F12=>?_
 refine qx F12 rfl (bik H (F12.v 1 rfl) (F12.v 14 rfl)) fun σ13 F13=>?_
 refine tm F13 rfl (bij H (F13.v 0 rfl)) fun σ14 F14=>?_
 refine n7 ?_;refine bii▸?_;exact congrArg (o9 D.bool) (iw (bjk σ14) (iw (bjj D0 (σ:=σ14) (F14.v 30 rfl) (F14.v 32 rfl)) (iw (bji D0 (σ:=σ14) (F14.v 33 rfl) (F14.o 32 rfl)) (iw (bjh D0 (σ:=σ14) (F14.v 33 rfl) (F14.o 31 rfl)) (iw (bjg D0 (σ:=σ14) (F14.v 34 rfl)) (iw (bjf H (σ:=σ14) (F14.v 23 rfl)) (iw (bje H (σ:=σ14) (F14.v 24 rfl) (F14.o 14 rfl)) (iw (bjd H (σ:=σ14) (F14.v 27 rfl) (F14.v 23 rfl) (F14.v 36 rfl) (F14.v 37 rfl)) (iw (bjc H (σ:=σ14) (F14.v 25 rfl) (F14.o 13 rfl)) (iw (bjr H (σ:=σ14) (F14.v 11 rfl) (F14.o 22 rfl) (F14.o 10 rfl) (F14.v 36 rfl) (F14.v 15 rfl) (F14.v 8 rfl) (F14.v 9 rfl)) (iw (bjq H (σ:=σ14) (F14.v 7 rfl) (F14.v 13 rfl) (F14.v 8 rfl)) (iw (bjp H (σ:=σ14) (F14.o 20 rfl) (F14.o 25 rfl)) (iw (bjo H (σ:=σ14) (F14.v 25 rfl) (F14.v 19 rfl) (F14.o 27 rfl)) (iw (bjn H (σ:=σ14) (T:=T) (F14.v 2 rfl) (F14.v 3 rfl) (F14.v 16 rfl)) (iw (bjm (l:=pls) (f:=fun p=>txt (ldg R T p)) (σ:=σ14) (F14.v 4 rfl) (F14.o 3 rfl)) (bjl H (σ:=σ14) (T:=T) (F14.v 0 rfl)))))))))))))))))
def plain:arx:=fun is hl=>by
 let bs:List Int:=[457,1796,17,18,3,7705,2,2,22,2,2560,4600]
 have key:ari f_check f_eols f_on f_parts qy f_run f_told f_valid f_periods f_stats f_count f_rfc f_quote (cq ["script"] [.list (is.map .int)])=some (.ret (.bool true)):=by
  delta ari;rw[bby,jm (d:=.list (bs.map .int)) rfl];have F0:Fs ((cq ["script"] [.list (is.map .int)]).set "bases" (.list (bs.map .int))) [("bases",.list (bs.map .int)),("script",.list (is.map .int))]:=fun p hp=>by
   simp only[dt,ahp,or_false]at hp;rcases hp with rfl|rfl<;>exact⟨rfl,rfl⟩
  generalize(cq ["script"] [.list (is.map .int)]).set "bases" (.list (bs.map .int))=σ at F0;refine a9o is hl bs rfl F0 fun σ1 L held T ds ps c hL12 D0 F1=>?_
  refine a9n hL12 D0 F1 fun σ2 R H hml hL hh F2=>?_
  exact a9m H D0 hml hL hh F2
 delta aqj fnF;rw[key];rfl
end
end Mine.A
namespace Mine
def a8r{l:List DefRec}(h:(l.take 18).map (fun d=>(d.name,d.params,d.body,d.scope))=(ed 18).map fun i=>(jn i,xh i,en i,eu i))(i:Nat)(hi:i<18):∃d∈l,d.name=jn i/\d.params=xh i/\d.body=en i/\d.scope=eu i:=by
 obtain⟨d,m,e⟩:=ia.1 (h▸List.mem_map_of_mem (y0.2 hi));exact⟨d,List.mem_of_mem_take m,congrArg (·.1) e,congrArg (·.2.1) e,congrArg (·.2.2.1) e,congrArg (·.2.2.2) e⟩
def a73:OpenLaw.wellSaid PySem.Challenge.rw_wz0001_01=true:=by
 rw[Fast.te9446332074065402090];decide+kernel
noncomputable def qv:dm:=view PySem.Challenge.pw_wz0001_01 [0,2,3,4,5,6,7,8,10,11,12,13,14,15,17,18,19,21,22,23,24,25,26,27]
noncomputable def qd:DefRec:=((defOf qv PySem.Challenge.rw_wz0001_01.name).getD (⟨default,default,[],default,default⟩,[])).1
def beh:PySem.Challenge.rw_wz0001_01.Holds:=by
 w_on
 refine holds_law a73 fun _=>?_
 exact holds_open (q:=qv) (d:=qd) (kwd:=[]) (loose:=["_twin_re_1", "_twin_re_2", "_twin_re_3"].map aj) (Xt:=fun s=>xlAt qv [] s && recOk [] s) (XP:=XL qv []) (Yf:=adi.obs) (Ya:=adi.val) (YP:=adi.says) (N:=1724)
  (fun w=>by kernel_rfl) adi.of adi.keeps (fun s e=>xl_of s (l8.mp e).1) XL.keeps
  (by kernel_rfl) (by kernel_rfl) (by kernel_rfl) (fun s e=>recFacts_of (l8.mp e).2) (by kernel_rfl) (by assumption) (by decide+kernel) ⟨by kernel_rfl,by kernel_rfl,by kernel_rfl,by kernel_rfl,by kernel_rfl,by decide+kernel⟩ (by w_witness2)
  (a5l ⟨a8r (by kernel_rfl),by kernel_rfl,by kernel_rfl,qe (i:=0) (by kernel_rfl),qe (i:=1) (by kernel_rfl),qe (i:=2) (by kernel_rfl),by decide+kernel⟩ A.plain (by kernel_rfl))
end Mine
theorem PySem.Challenge.cw_wz0001_01_holds : PySem.Challenge.rw_wz0001_01.Holds := by
 exact Mine.beh
