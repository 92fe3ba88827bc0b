import PyProof.Rows.All
import Wide.All
import OpenK.AllK
import Wide.FinOn
import KE.KSortTup
import KE.KEqDict
import PyProof.IsiHeapPairs
import Lean
import PySem.Challenge.RW_oy0180_02
set_option Elab.async false
set_option genCtorIdx false
set_option tactic.hygienic false
set_option compiler.extract_closed false
set_option linter.unusedVariables false
set_option maxRecDepth 1000000
set_option maxHeartbeats 8000000
open PySem PySem.W PyProof.Rows
namespace Mine.Internal
@[elab_as_elim] theorem RwS1 {α : Sort _} {p : α → Prop} {a b : α} (h : b = a) (n : p a) : p b := Eq.substr h n
@[elab_as_elim] theorem RwT1 {α : Sort _} {p : α → Prop} {a b : α} (h : a = b) (n : p a) : p b := Eq.subst h n
local macro_rules (kind := Lean.Parser.Tactic.rewriteSeq) | s => do
  let q := s[2]
  let a := q[1]
  let f := a[0]
  if s[1][0].getNumArgs + s[3].getNumArgs != 0 then Lean.Macro.throwUnsupported
  if a.getNumArgs == 1 then
    let h := ⟨f[1]⟩
    let c := Lean.mkCIdent (if f[0].getNumArgs == 0 then ``RwS1 else ``RwT1)
    `(tactic| first | refine $c $h ?_ | refine $c ($h ..) ?_ | fail)
  else
    let g := fun x => s.setArg 2 (q.setArg 1 (Lean.mkNullNode x))
    return Lean.mkNullNode #[g #[f], g (a.getArgs.drop 2)]
local macro_rules (kind := Lean.Parser.Tactic.omega) | s => `(tactic| lia)
local macro_rules (kind := Lean.Parser.Tactic.omega) | s => `(tactic| decide)
local macro_rules (kind := Lean.Parser.Command.declaration) | s => do
  if (s.getPos? true).isNone then Lean.Macro.throwUnsupported
  let s := s.setHeadInfo .none
  return if s[1].isOfKind ``Lean.Parser.Command.definition then s.setArg 0 (s[0].setArg 4 (Lean.mkNullNode #[Lean.mkNode ``Lean.Parser.Command.noncomputable #[Lean.mkAtom "noncomputable"]])) else s
open _root_.Nat renaming le_trans->Aa,le_add_left->Aj,le_refl->An,lt_of_lt_of_le->Ao,lt_of_le_of_lt->Az,le_of_eq->AB,le_of_ble_eq_true->AO,le_add_right->AS,le_of_lt->AY,zero_le->AZ,le_of_lt_succ->A7,add_le_add_left->A9,le_succ->Bq,succ_le_succ->Bv,le_of_not_lt->Bz,le_succ_of_le->BD,succ->BZ,not_lt->B7,add_le_add_right->B8,add_right_comm->Ch,zero_add->Ct,ne_of_lt->Cu,lt_trans->Cw,lt_succ_self->CK,lt_succ_of_le->CP,le_of_succ_le->CQ,ne_of_gt->Dz,min_eq_left->DA,succ_pos->DQ,lt_of_succ_lt_succ->DR,ble_eq->DS,not_lt_of_le->Ep,blt->Eu,add_comm->Ev,testBit_or->EA,add_sub_of_le->EF,min_le_left->EJ,le_antisymm->EK,lt_irrefl->EY,add_assoc->EZ,eq_of_testBit_eq->Ft,sub_lt_sub_left->FK,mul_le_mul_left->FL,min_le_right->FP,add_le_add->FQ,or_lt_two_pow->Gs,lt_succ_of_lt->Gu,mod_two_eq_zero_or_one->GR,min_eq_right->G5,le_of_not_le->G6,testBit_two_pow->Ha,not_lt_zero->Hq,lt_add_of_pos_right->HE,toDigits->Ih,le_of_add_right_le->Ii,succ_lt_succ->IM,pow_lt_pow_right->I4,pow_le_pow_right->I5,zero_lt_two->Jl,sub_le->J0,lt_of_le_of_ne->J1,pow_succ'->KZ,mul_assoc->K0,sub_sub_self->LU,mul_div_cancel_left->LV,testBit_lt_two_pow->Ms,lt_or_ge->Mt,lt_min->Mu,lt_asymm->Mv,le_of_succ_le_succ->Mw,beq->QI
open _root_.Option renaming some->Ab,none->Ah,bind_eq_some_iff->AM,map_eq_some_iff->Bp,none->CD,isSome_iff_exists->G9,or_eq_some_iff->L7
open _root_.PySem renaming wpAny_bind->Ac,Value->Ae,Addr->Ai,Shared->Aq,wpAny_pure->Ar,Str->As,wpAny->Aw,wpAny_execs_cons->Ay,Heap->AT,wpAny_standAt->A0,wpAny_loadPart'->Bc,ExcName->Bd,Scope->Bg,Stmt->Bs,wpAny_holding->Bt,wpAny_execs_nil->BN,rawInt->BS,wpAny_newObj_type->B3,wpAny_Call_NameR->B4,callEnvC->B5,sliceBounds->Cd,mainGlobals->Ce,codeAmong->Cg,wpAny_with_toks->Cz,wpAny_truthy_bool->CB,GenState->CC,Pos->CE,cellsFrom->CF,wpAny_field->CU,Around->Dj,swapsWithSole->Dk,Model->Dr,wpAny_isTrue_Compare1->DB,Sem->DJ,wpAny_mono->DK,Arguments->Ea,pushCells_keeps->Ed,Obj->Eo,codeAny->Es,Result->Ex,wpAny_of_eq->EI,wpAny_Return_some->EP,compareOp->EQ,Env->E9,excClassObj->Fc,typeLookup->Fj,binaryOp->Fn,wpAny_loadName_local->FB,Program->FD,FuncData->FF,Flow->FG,Comprehension->FR,newFunctionEnv->F8,codeAny_builtin->Gz,NameKind->GA,seqIndex?->GC,wpAny_loadPart_at->GU,OsState->GZ,sizeLine->HH,wpAny_setField_rec->Ia,wpAny_call->Ic,nsFind->Ie,call_meets->Ig,wpAny_getItem_str_slice->Ij,wpAny_callSpecial?_slot->Ik,Fin->Ix,wpAny_setField->IH,wpAny_assign_Name->II,cLine->Ja,wpAny_call_entry->Jd,builtinsNs->Ji,assignEach->Jk,Builtin->Jy,unbindBehindTheSuite->JA,compPost->JB,codeAny_call_builtin->JC,IsEnum->J2,wpAny_loadName_cell->J4,codeAny_forLoop_any->Kn,wpAny_ite->KD,strKind->KI,wpAny_If->KT,wpAny_Constant_str->KU,typeIs_str->KV,sliceRange->KW,arm_eval_Tuple->KX,wpAny_BinOp->LX,getItem->L0,InCallC->Mb,typeOf->Md,comprehension->Ml,arm_eval_List->Mr,wpAny_updatePart->MZ,wpAny_Try_except->M0,storeName->M3,starEach->M4,callWith_excType->M6,intText?->M7,Drawn->M8,wpAny_runOwn->NO,wpAny_rule->NP,wpAny_Name->NQ,sysModules->NR,relabel->NS,assign->NV,post_val_or_str->N4,bindL->Oi,codeAny_call_function->OE,Code->OJ,wpAny_alloc->OT,recursionLimit->OY,callSpecialIfBound?->QF,bindC->Q3,bindArgs->Tq,pushCells->U1,noteFrame->U3,backTo->U4,TriplesOk->U6,standAt->X9,closureFor->ZQ,setFlight->jX,holding->pU,firstIterPos->pV
open _root_.List renaming mem_cons_self->Ad,mem_cons_of_mem->Af,mem_cons->Ak,length_map->Al,getD_eq_getElem?_getD->Am,range->Ap,mem_range->Au,mem_filter->Ax,getElem?_eq_getElem->AA,mem_map->AH,mem_append->AL,length_append->AQ,all_eq_true->AR,mem_append_right->AV,length_filter_le->AX,mem_append_left->A8,map_map->Be,replicate->Bi,map_cons->Bl,getElem?_map->Bo,nodup_cons->BA,not_mem_nil->BH,length->BR,append_assoc->BY,any_eq_true->B9,mem_singleton->Cf,getElem?_eq_some_iff->Co,mem_of_getElem?->Cq,mem_iff_getElem->Cr,filter_congr->Cs,toArray->CG,length_range->CM,drop_eq_nil_of_le->CR,idxOf_lt_length_of_mem->CZ,lookup->C9,length_take->Dd,isEmpty_iff->De,getElem_mem->Dg,getElem?_take_of_lt->Du,all_cons->Dv,map_append->Dy,filter_eq_nil_iff->DO,mem_map_of_mem->DT,nil_append->D1,length_cons->Ee,getElem_idxOf->Ef,cons_append->Eg,forIn_cons->EG,append_nil->EH,map_congr_left->EM,take_of_length_le->ER,find?_cons_of_neg->ES,mem_reverse->E0,take_append_drop->E7,contains_iff_mem->E8,drop_eq_getElem_cons->Fi,length_reverse->FE,length_eq_zero_iff->FM,filter_cons->FN,getElem?_drop->F6,find?_cons_of_pos->F7,length_drop->G3,pairwise_iff_getElem->G7,map_take->Hm,filter_map->Hn,contains_cons->Hr,nodup_append->HX,mapM_cons->HY,getElem_take->HZ,mem_iff_getElem?->Iy,nodup_range->IF,sum_cons->IN,filter_eq_self->Jm,zipWith->Jw,take_subset_take_left->JU,pairwise_cons->JV,getElem?_append_left->Ks,getElem?_nil->KB,filter_cons_of_pos->Lu,filter_cons_of_neg->Lv,pairwise_lt_range->L9,length_pos_of_mem->Ma,length_singleton->MU,length_replicate->MV,mem_of_mem_drop->NN,getD->Q6,findIdx?->Wy
open _root_.Bool renaming true->Ag,false->Av,and_eq_true_iff->AC,and_eq_true->AG,false_eq_true->Bw,noConfusion->BI,eq_iff_iff->BJ,or_eq_true->CW,not_eq_true'->C3,false_ne_true->DC,and_true->EU,and_false->H9,or_true->Jz,not_true->KS,not_not->Mc
open _root_.PySem.Heap renaming get?_push_size->AD,get?_push_of_some->AI,lt_size->AU,ExtBut->BC,SameBut->BM,get?_update_self->B1,size_push->CV,get?_update_other->Dh
open _root_.PySem.Calls renaming spliced_cons->AE,spliced_nil->A6,evalArgs_plain->Bf,callWith_function->Cj,callWith_builtin->F4
open _root_.PySem.W.Fast renaming tw7966671052430208091->AJ,tw15066281185411960212->Ey,tw12456147031677567982->Ez,tw4202317264376624991->GJ,tw16098473122060591676->LS,tw8938917530802602619->L5,tw1166467894219422925->L6
open _root_.Option.some renaming inj->AN
open _root_.PySem.Builtin renaming bitAnd->AP,bitNot->Gn
open _root_.PySem.PyData renaming strOk->Ba,eqv->Dn
open _root_.Int renaming natCast_nonneg->BE,ofNat_lt->BO,ediv_ediv_of_nonneg->Ck,le_trans->Cx,toNat_of_nonneg->Dp,lt_of_le_of_lt->DD,ofNat_le->Fv,emod_nonneg->Gi,natCast_mul->Hs,lt_of_lt_of_le->Hv,emod_lt_of_pos->Hw,not_lt->IP,mul_assoc->I2,sub_nonneg_of_le->I7,add_mul_emod_self_left->J3,mul_left_comm->KO,ofNat_inj->K2,not_le->My,add_zero->Mz,negSucc->NW
open _root_.PySem.Value renaming ref->BK,none->E4
open _root_.PySem.Heap.SameBut renaming update->BP
open _root_.LawfulBEq renaming eq_of_beq->BQ
open _root_.Int.NonNeg renaming mk->BW
open _root_.PySem.Str renaming empty->Cb,ofString->Fs,cps->RZ
open _root_.PyProof.Rows renaming importsNone->Cn,tail_any->DL,seqObj->Eh,StrsAre->Qz
open _root_.PySem.NameKind renaming cell->Cp,free->Fh
open _root_.Eq renaming refl->Cy
open _root_.PySem.Obj renaming mapSeq->CJ,isFreed_of_fields->Eb,data_mapFields->En,mapFields->Et,cls_mapFields->KM,dropName->QH
open _root_.PySem.W.R renaming bindR->C4
open _root_.Array renaming getElem?_eq_some_iff->C8,length_toList->DP,all_eq_true_iff_forall_mem->HK,getElem?_toList->Ip,getElem?_modify->Iq,mem_toList_iff->IR,getElem?_eq_none->LW
open _root_.PySem.Builtin.List renaming listSameRef->DH
open _root_.PySem.Builtin.Str renaming strKind->EC,strSliceIndices->Gy
open _root_.Classical renaming byContradiction->E5
open _root_.ForInStep renaming yield->E6
open _root_.PySem.F renaming slot_tuple_iterator_next->Ff,slot_enumerate_next->Gg,slot_str_split->MA
open _root_.PySem.W.Looks renaming of_pure->Fu,ld->HI
open _root_.PySem.ScopeKind renaming function->FC
open _root_.PySem.W renaming Looks->FX,looks_field->Im,handedIn->IJ,tabObj->Me,emptyDict->M5,codeHd_of_K->Pc
open _root_.PySem.MeetsSeq3 renaming plain_eq_loop->GF
open _root_.List.Nodup renaming idxOf_getElem->GL
open _root_.List.Perm renaming eq_of_pairwise->GS
open _root_.List.Pairwise renaming nil->G8,imp_of_mem->I6,filter->KC
open _root_.False renaming elim->Ho
open _root_.Nat.succ renaming inj->Hp
open _root_.List.cons renaming inj->H6
open _root_.PySem.Around renaming under_plainId->IG
open _root_.PySem.Txt renaming split->IL,slice->JT,replace->KJ
open _root_.Int.ofNat renaming inj->JD
open _root_.Iff renaming of_eq->JW
open _root_.Char renaming toNat->JY
open _root_.PySem.Builtin.SmallTypes renaming nextOf->M9
open _root_.ToString renaming toString->OV
open _root_.PySem.Code renaming builtin->QD
open _root_.PySem.Builtin.Int renaming intBits->UZ
noncomputable abbrev Jc:=Ae->Aq->Prop
theorem Jt {G:Prop}(H:∀g:Prop,(G->g)->g):G:=H G id
theorem rM (h:n=L-i):n-1=L-(i+1):=h▸Nat.sub_sub L i 1
theorem yC (h:n=L-i)(a:i<L):n-1<n:=Nat.sub_lt (h▸Nat.sub_pos_of_lt a) Nat.one_pos
theorem rU (n:Nat):((n:Int)<0)=False:=eq_false (IP.mpr (BE n))
theorem UH (i n:Nat):max (0:Int) (min (i:Int) (n:Int))=((min i n:Nat):Int):=by
 rcases Nat.le_total i n with h |h
 ·rw[DA h,Int.min_eq_left (Fv.mpr h),Int.max_eq_right (BE _)]
 ·rw[G5 h,Int.min_eq_right (Fv.mpr h),Int.max_eq_right (BE _)]
theorem yE (x:Int){n:Nat}(h:0<n):(x%(n:Int)).toNat<n:=(Int.toNat_lt (Gi _ (Int.ne_of_gt (BO.mpr h)))).mpr (Hw _ (BO.mpr h))
theorem tR {x:Int}{n:Nat}(a:-(n:Int)<x)(b:x<n):x.natAbs<n:=by
 cases x with
 |ofNat m=>exact BO.mp b
 |negSucc m=>exact BO.mp (Int.neg_lt_neg_iff.mp a)
theorem uO {x:Int}{n:Nat}(a:0<=x)(h:x<n):∃m:Nat,x=m/\m<n:=⟨x.toNat,(Dp a).symm,BO.mp ((Dp a).symm▸h)⟩
theorem zW (p:Int):0+p*1=p:=by rw[Int.mul_one,Int.zero_add]
theorem Fg {P:Nat->Prop}(h:∀n<m,P n)(k:P m):∀n<m+1,P n:=λ n a=>(Nat.lt_succ_iff_lt_or_eq.mp a).elim (h n) λ e=>e▸k
theorem Kv {P:Nat->Prop}:∀n<0,P n:=λ n h=>absurd h (Hq n)
theorem yK {b:Type}{P:List b->Prop}(h:P []):∀l:List b,l.length<=0->P l:=λ l c=>by
 cases l with
 |nil=>exact h
 |cons a l=>exact absurd c (Nat.not_succ_le_zero _)
theorem Uc {b:Type}{P:List b->Prop}(c:P [])(h:∀(a:b)(l:List b),l.length<=n->P (a::l)):∀l:List b,l.length<=n+1->P l:=λ l d=>by
 cases l with
 |nil=>exact c
 |cons a l=>exact h a l (Mw d)
theorem QR {b:Type}{P:List b->Prop}(h:∀(a:b)(l:List b),l.length=n->P (a::l)):∀l:List b,l.length=n+1->P l:=λ l c=>by
 cases l with
 |nil=>contradiction
 |cons a l=>exact h a l (Hp c)
theorem yI {e:Type}{P:List e->Prop}(h:∀a b c d:e,P [a,b,c,d]):∀l:List e,l.length=4->P l:=
 QR λ a=>QR λ b=>QR λ c=>QR λ d l f=>by rw[FM.mp f];exact h a b c d
theorem Do {a:Type}{P:Prop}{x:Option a}{o:a}(h:x=Ah)(k:x=Ab o):P:=by rw[h] at k;contradiction
theorem A4 {c:Type}{x:Option c}{a b:c}(h:x=Ab a)(k:x=Ab b):a=b:=AN (h.symm.trans k)
theorem rS {i L:Nat}(h:i<=L)(k:¬i<L):i=L:=EK h (B7.mp k)
theorem TW (h:a+c*(n+1)<m)(d:b<=c):a+b+c*n<m:=
 Az (by rw[Nat.mul_succ,Ch,<-EZ];exact A9 d _) h
inductive PV where
 |none
 |bool (b:Bool)
 |int (i:Int)
 |str (s:As)
 |list (xs:List PV)
 |ba (xs:List PV)
 |dict (es:List (As×PV))
 |obj (v:Ae)
 deriving Inhabited
def B2:Nat:=1048576
theorem Kz:5000<=B2:=by decide+kernel
theorem FW:B2<=HH:=by decide+kernel
structure BV where
 prog:FD
 w:World
 h0:AT
 TB:List Ai
 di:AT->Prop
 ch:∀h h',(∀b o vs,h.get? b=Ab o->o.data=.fields vs->(o.cls=.none\/o.cls=.type "code")->h'.get? b=Ab o)->di h->di h'
noncomputable abbrev BV.M (W:BV):Dr:=model W.prog W.w
noncomputable abbrev BV.K (W:BV):KeyKind W.prog W.w As:=KI W.prog W.w
noncomputable abbrev I3 (a:Array Ae)(n:Nat):Eo:={cls:=.type "list",data:=.seq a n}
noncomputable abbrev M1 (a:Array Ae)(n:Nat):Eo:={cls:=.type "tuple",data:=.seq a n}
mutual
inductive Rp (W:BV)(X:List Ai)(h:AT):Ae->PV->Prop
 |none:Rp W X h .none .none
 |bool (b):Rp W X h (.bool b) (.bool b)
 |int (i t):Rp W X h (.int i t) (.int i)
 |str (x t):Ba x=Ag->x.length<=B2->Rp W X h (.str x t) (.str x)
 |obj (v):Rp W X h v (.obj v)
 |list {a vs n xs}:h.get? a=Ab (I3 vs n)->a∉X->vs.size<=B2->RpL W X h vs.toList xs->Rp W X h (.ref a) (.list xs)
 |ba {a vs n xs}:h.get? a=Ab (M1 vs n)->a∉X->vs.size<=B2->RpL W X h vs.toList xs->Rp W X h (.ref a) (.ba xs)
 |dict {a kvs es}:h.DictOf W.K a kvs->a∉X->(a==NR)=Av->kvs.length<=B2->kvs.map (·.1)=es.map (·.1)->RpL W X h (kvs.map (·.2)) (es.map (·.2))->Rp W X h (.ref a) (.dict es)
inductive RpL (W:BV)(X:List Ai)(h:AT):List Ae->List PV->Prop
 |nil:RpL W X h [] []
 |cons {v vs d ds}:Rp W X h v d->RpL W X h vs ds->RpL W X h (v::vs) (d::ds)
end
inductive C? (W:BV)(X:List Ai)(h:AT)(v:Ae)(xs:List PV):Prop
 |mk (a:Ai) (vs:Array Ae) (n:Nat) (e:v=.ref a) (g:h.get? a=Ab (I3 vs n)) (x:a∉X) (z:vs.size<=B2) (r:RpL W X h vs.toList xs)
inductive z8 (W:BV)(X:List Ai)(h:AT)(v:Ae)(xs:List PV):Prop
 |mk (a:Ai) (vs:Array Ae) (n:Nat) (e:v=.ref a) (g:h.get? a=Ab (M1 vs n)) (x:a∉X) (z:vs.size<=B2) (r:RpL W X h vs.toList xs)
inductive D! (W:BV)(X:List Ai)(h:AT)(v:Ae)(es:List (As×PV)):Prop
 |mk (a:Ai) (kvs:List (As×Ae)) (e:v=.ref a) (g:h.DictOf W.K a kvs) (x:a∉X) (y:(a==NR)=Av) (z:kvs.length<=B2) (q:kvs.map (·.1)=es.map (·.1)) (r:RpL W X h (kvs.map (·.2)) (es.map (·.2)))
def b? (W:BV)(X:List Ai)(h:AT)(v:Ae):PV->Prop
 | .none=>v=.none
 | .bool b=>v=.bool b
 | .int i=>∃t,v=.int i t
 | .str x=>∃t,v=.str x t/\Ba x=Ag/\x.length<=B2
 | .obj w=>v=w
 | .list a=>C? W X h v a
 | .ba a=>z8 W X h v a
 | .dict c=>D! W X h v c
theorem Rp.aj (r:Rp W X h v d):b? W X h v d:=by
 cases r with
 |none=>exact rfl
 |bool=>exact rfl
 |int _ t=>exact⟨t,rfl⟩
 |str _ t a b=>exact⟨t,rfl,a,b⟩
 |obj=>exact rfl
 |list e n z r=>exact⟨_,_,_,rfl,e,n,z,r⟩
 |ba e n z r=>exact⟨_,_,_,rfl,e,n,z,r⟩
 |dict e n y z q r=>exact⟨_,_,rfl,e,n,y,z,q,r⟩
def B! (W:BV)(X:List Ai)(h:AT)(a:List Ae):List PV->Prop
 |[]=>a=[]
 |d::b=>∃v r,a=v::r/\Rp W X h v d/\RpL W X h r b
theorem RpL.aj (r:RpL W X h c d):B! W X h c d:=by
 cases r with
 |nil=>exact rfl
 |cons a b=>exact⟨_,_,rfl,a,b⟩
theorem RpL.gy (r:RpL W X h (v::c) (d::f)):Rp W X h v d/\RpL W X h c f:=by
 obtain⟨_,_,e,a,b⟩:=r.aj;cases e;exact⟨a,b⟩
theorem RpL.bt {P:List Ae->List PV->Prop}(r:RpL W X h c e)(f:P [] [])(g:∀v c d e,Rp W X h v d->RpL W X h c e->P c e->P (v::c) (d::e)):P c e:=
 r.rec (motive_1:=λ _ _ _=>True) trivial (λ _=>trivial) (λ _ _=>trivial) (λ _ _ _ _=>trivial) (λ _=>trivial) (λ _ _ _ _ _=>trivial) (λ _ _ _ _ _=>trivial) (λ _ _ _ _ _ _ _=>trivial) f λ a b _ i=>g _ _ _ _ a b i
theorem RpL.k6 (r:RpL W X h b [a]):∃x,b=[x]/\Rp W X h x a:=by
 obtain⟨x,d,rfl,c,r⟩:=r.aj;cases r.aj;exact⟨x,rfl,c⟩
theorem RpL.kz (r:RpL W X h c [a,b]):∃x y,c=[x,y]/\Rp W X h x a/\Rp W X h y b:=by
 obtain⟨x,f,rfl,d,r⟩:=r.aj;obtain⟨y,rfl,e⟩:=r.k6;exact⟨x,y,rfl,d,e⟩
theorem RpL.lw (r:RpL W X h vs [a,b,c]):∃x y z,vs=[x,y,z]/\Rp W X h x a/\Rp W X h y b/\Rp W X h z c:=by
 obtain⟨x,g,rfl,d,r⟩:=r.aj;obtain⟨y,z,rfl,e,f⟩:=r.kz;exact⟨x,y,z,rfl,d,e,f⟩
section
variable {A:Dj}{E:Jc}{s:Aq}{α β:Type}
theorem ML {M:Dr}{Q:α->Aq->Prop}(h:∀b d,(∀v a,Q v a->b v a)->(∀v a,E v a->d v a)->Aw M A c b d s):Aw M A c Q E s:=h Q E (λ _ _ h=>h) λ _ _ h=>h
theorem vT {M:Dr}{Q:α->Aq->Prop}(h:∀a,(∀v b,Q v b->a v b)->Aw M A c a E s):Aw M A c Q E s:=h Q λ _ _ h=>h
theorem PW {a b:Prop}(h:a):if Ag=Ag then a else b:=by rw[if_pos rfl];exact h
theorem VU {a b:Prop}(h:b):if Av=Ag then a else b:=by rw[if_neg DC];exact h
theorem MN {M:Dr}{st:Bs}{a:List Bs}{b:E9}{Q:FG->Aq->Prop}(h:∀K:FG->Aq->Prop,(∀c,Aw M A (execs a b) Q E c->K .next c)->(∀f c,f≠.next->Q f c->K f c)->Aw M A (exec st b) K E s):Aw M A (execs (st::a) b) Q E s:=
 Ay (h _ (λ _ h=>h) λ f c d h=>by
  cases f
  ·exact absurd rfl d
  all_goals exact h)
theorem XE {M:Dr}{f:α->DJ β}{Q:β->Aq->Prop}(h:∀K:α->Aq->Prop,(∀x a,Aw M A (f x) Q E a->K x a)->Aw M A c K E s):Aw M A (c >>=f) Q E s:=Ac (h _ λ _ _ h=>h)
end
theorem sB {b:List Ae}(h:b.length=n+1):∃a r,b=a::r/\r.length=n:=by
 cases b with
 |nil=>contradiction
 |cons a r=>exact⟨a,r,rfl,Hp h⟩
theorem QS {b:List Ae}(h:b.length=1):∃a,b=[a]:=by
 obtain⟨a,r,rfl,q⟩:=sB h;exact⟨a,congrArg _ (List.eq_nil_of_length_eq_zero q)⟩
theorem Nr {c:List Ae}(h:c.length=2):∃a b,c=[a,b]:=by
 obtain⟨a,r,rfl,q⟩:=sB h;obtain⟨b,rfl⟩:=QS q;exact⟨a,b,rfl⟩
theorem vI {d:List Ae}(h:d.length=3):∃a b c,d=[a,b,c]:=by
 obtain⟨a,r,rfl,q⟩:=sB h;obtain⟨b,c,rfl⟩:=Nr q;exact⟨a,b,c,rfl⟩
def BB (W:BV)(h c:AT):Prop:=
 (∀b o,h.get? b=Ab o->c.get? b=Ab o\/(W.h0.get? b=CD/\o.cls=.type "frame"/\∃e,c.get? b=Ab {o with slots:=e})\/
  (b∈W.TB/\∃d a,o=Me d/\c.get? b=Ab (Me (d++a))))/\(W.di h->W.di c)
section
variable {W:BV}{X:List Ai}{h H:AT}
theorem BB.af (k:∀b o,h.get? b=Ab o->H.get? b=Ab o):BB W h H:=
 ⟨λ b o e=>.inl (k b o e),W.ch _ _ λ b o _ e _ _=>k b o e⟩
theorem BB.refl (h:AT):BB W h h:=.af λ _ _ e=>e
theorem BB.push (h:AT)(o:Eo):BB W h (h.push o):=.af λ _ _ e=>AI _ e
theorem BB.keep (c:BB W h H)(e:h.get? b=Ab o)(d:o.cls≠.type "frame")(f:o.cls≠.none):H.get? b=Ab o:=by
 rcases c.1 b o e with k |⟨_,k,_⟩ |⟨_,g,a,k,_⟩
 ·exact k
 ·exact absurd k d
 ·subst k;exact absurd rfl f
theorem BB.trans (p:BB W h H)(G:BB W H a):BB W h a:=by
 refine⟨λ b o e=>?_,λ t=>G.2 (p.2 t)⟩;rcases p.1 b o e with k |⟨n,k,q,j⟩ |⟨n,f,c,k,j⟩
 ·exact G.1 b o k
 ·rcases G.1 b _ j with g |⟨_,g,l,i⟩ |⟨_,f,c,g,i⟩
  ·exact .inr (.inl ⟨n,k,q,g⟩)
  ·exact .inr (.inl ⟨n,k,l,i⟩)
  ·have:({o with slots:=q}:Eo).cls=.none:=by rw[g]
   have:=this;cases k.symm.trans this
 ·subst k;rcases G.1 b _ j with g |⟨_,g,_⟩ |⟨_,m,d,g,i⟩
  ·exact .inr (.inr ⟨n,f,c,rfl,g⟩)
  ·contradiction
  ·have r:f++c=m:=by injection g with _ _ g;injection g
   subst r;exact .inr (.inr ⟨n,f,c++d,rfl,by rw[<-Array.append_assoc];exact i⟩)
theorem BB.az (f:BB W h H)(l:h.get? a=Ah)(g:∀o i,H.get? a=Ab o->o.data=.fields i->o.cls≠.none/\o.cls≠.type "code")(j:BM a H c):BB W h c:=by
 refine⟨λ b o e=>?_,λ t=>W.ch _ _ (λ b o i e k hc=>?_) (f.2 t)⟩
 ·have d:b≠a:=by rintro rfl;exact Do l e
  rw[j.2 b d];exact f.1 b o e
 ·have d:b≠a:=by
   rintro rfl;rcases hc with hc |hc
   ·exact(g _ _ e k).1 hc
   ·exact(g _ _ e k).2 hc
  rw[j.2 b d];exact e
theorem OC (d:h.DictOf W.K a b)(hk:∀o,h.get? a=Ab o->o.cls=.type "dict"->H.get? a=Ab o):H.DictOf W.K a b:=by
 obtain⟨o,e,f,g,c,r⟩:=d;exact⟨o,e,f,hk o g c.1,c,r⟩
theorem Rp.to {W':BV}(hk:∀b o,h.get? b=Ab o->b∉X->(o.cls=.type "list"\/o.cls=.type "tuple"\/o.cls=.type "dict")->H.get? b=Ab o/\b∉Y)(f:∀a c,h.DictOf W.K a c->a∉X->H.DictOf W'.K a c/\a∉Y)(r:Rp W X h v d):Rp W' Y H v d:=
 r.rec (motive_2:=λ g k _=>RpL W' Y H g k) .none .bool .int .str .obj (λ e n z _ i=>.list (hk _ _ e n (.inl rfl)).1 (hk _ _ e n (.inl rfl)).2 z i)
   (λ e n z _ i=>.ba (hk _ _ e n (.inr (.inl rfl))).1 (hk _ _ e n (.inr (.inl rfl))).2 z i) (λ e n y z q _ i=>.dict (f _ _ e n).1 (f _ _ e n).2 y z q i) .nil λ _ _ i j=>.cons i j
theorem RpL.map (f:∀v d,Rp W X h v d->Rp b Y H v d)(r:RpL W X h c e):RpL b Y H c e:=r.bt .nil λ _ _ _ _ a _ i=>.cons (f _ _ a) i
theorem Rp.bi (hk:∀b o,h.get? b=Ab o->b∉X->(o.cls=.type "list"\/o.cls=.type "tuple"\/o.cls=.type "dict")->H.get? b=Ab o/\b∉Y)(r:Rp W X h v d):Rp W Y H v d:=
 r.to hk λ a f e n=>by
   obtain⟨o,_,_,c,g,_⟩:=id e;exact⟨OC e λ o c hc=>(hk _ o c n (.inr (.inr hc))).1,(hk _ o c n (.inr (.inr g.1))).2⟩
theorem RpL.bi (hk:∀b o,h.get? b=Ab o->b∉X->(o.cls=.type "list"\/o.cls=.type "tuple"\/o.cls=.type "dict")->H.get? b=Ab o/\b∉Y)(r:RpL W X h a c):RpL W Y H a c:=r.map λ _ _=>Rp.bi hk
theorem D6 (a:BB W h H)(e:h.get? b=Ab o)(c:o.cls=.type "list"\/o.cls=.type "tuple"\/o.cls=.type "dict"):H.get? b=Ab o:=by
 refine a.keep e ?_ ?_<;>(rcases c with c |c |c<;>rw[c]<;>decide)
theorem Rp.ae (a:BB W h H)(r:Rp W X h v d):Rp W X H v d:=r.bi λ _ _ e n c=>⟨D6 a e c,n⟩
theorem RpL.ae (d:BB W h H)(r:RpL W X h a b):RpL W X H a b:=r.bi λ _ _ e n c=>⟨D6 d e c,n⟩
theorem Rp.az (c:BM a h H)(f:a∈X)(r:Rp W X h v d):Rp W X H v d:=
 r.bi λ b _ e n _=>⟨by rw[c.2 b (λ q=>n (q▸f))];exact e,n⟩
theorem RpL.az (f:BM a h H)(g:a∈X)(r:RpL W X h c d):RpL W X H c d:=
 r.bi λ b _ e n _=>⟨by rw[f.2 b (λ q=>n (q▸g))];exact e,n⟩
theorem Rp.be (H:h.get? a=CD)(r:Rp W X h v d):Rp W (a::X) h v d:=
 r.bi λ b _ e n _=>⟨e,λ q=>by
  rcases Ak.mp q with q |q
  ·subst q;exact Do H e
  ·exact n q⟩
theorem RpL.be (H:h.get? a=CD)(r:RpL W X h c d):RpL W (a::X) h c d:=
 r.bi λ b _ e n _=>⟨e,λ q=>by
  rcases Ak.mp q with q |q
  ·subst q;exact Do H e
  ·exact n q⟩
theorem Rp.ai (H:∀a∈Y,a∈X)(r:Rp W X h v d):Rp W Y h v d:=r.bi λ _ _ e n _=>⟨e,λ q=>n (H _ q)⟩
theorem RpL.ai (H:∀a∈Y,a∈X)(r:RpL W X h b c):RpL W Y h b c:=r.bi λ _ _ e n _=>⟨e,λ q=>n (H _ q)⟩
theorem RpL.length {a:List Ae}{b:List PV}(r:RpL W X h a b):a.length=b.length:=r.bt (P:=λ a b=>a.length=b.length) rfl λ _ _ _ _ _ _ i=>congrArg (·+1) i
theorem RpL.append (r:RpL W X h b c)(q:RpL W X h d e):RpL W X h (b++d) (c++e):=r.bt (P:=λ b c=>RpL W X h (b++d) (c++e)) q λ _ _ _ _ a _ i=>.cons a i
theorem RpL.bq (r:Rp W X h v d):RpL W X h [v] [d]:=.cons r .nil
theorem RpL.get {b:List Ae}{c:List PV}(r:RpL W X h b c){k:Nat}{d:PV}:c[k]? =Ab d->∃v,b[k]? =Ab v/\Rp W X h v d:=
 r.bt (P:=λ b c=>∀k,c[k]? =Ab d->∃v,b[k]? =Ab v/\Rp W X h v d) (λ _ e=>absurd (KB.symm.trans e) nofun) (λ v _ _ _ a _ i k=>k.casesOn (λ e=>⟨v,rfl,AN e▸a⟩) i) k
theorem RpL.lv {b:List Ae}{c:List PV}(r:RpL W X h b c){k:Nat}{v:Ae}:b[k]? =Ab v->∃d,c[k]? =Ab d/\Rp W X h v d:=
 r.bt (P:=λ b c=>∀k,b[k]? =Ab v->∃d,c[k]? =Ab d/\Rp W X h v d) (λ _ e=>absurd (KB.symm.trans e) nofun) (λ _ _ d _ a _ i k=>k.casesOn (λ e=>⟨d,rfl,AN e▸a⟩) i) k
end
def Dq {b:Type}(W:BV)(A:Dj)(t:DJ b)(s:Aq)(P:b->AT->Prop):Prop:=
 ∀(Q:b->Aq->Prop)(E:Jc),(∀a c d,BB W s.heap c->s.toks<=d->P a c->Q a {s with heap:=c,toks:=d})->Aw W.M A t Q E s
section
variable {α β:Type}{W:BV}{A:Dj}{s:Aq}
theorem Dq.ae {P R:α->AT->Prop}(h:Dq W A t s P)(c:∀a b,BB W s.heap b->P a b->R a b):Dq W A t s R:=λ Q E d=>h Q E λ a b tk k l p=>d a b tk k l (c a b k p)
end
variable {A:Dj}{E Q:Jc}{k:Nat}{W:BV}{X Z:List Ai}{z:E9}{fd:FF}{h H N:AT}{V:Bg}{mb mg:As->Option Ae}{o:Eo}{s:Aq}{w:World}
theorem TI (name:As)(o:Int)(h v:Ae)(k:Eo)(z:k.data=.dict a b):(Obj.putName name o h v k).cls=k.cls/\(Obj.putName name o h v k).isFreed=Av/\∃s w,(Obj.putName name o h v k).data=.dict s w:=by
 obtain⟨c,d,A,E⟩:=k;simp only at z;subst z;rw[Obj.putName_eq,Obj.putNameByArray];split<;>exact⟨rfl,rfl,_,_,rfl⟩
def F3 (w z:AT):Prop:=∀b o A E,w.get? b=Ab o->o.data=.dict A E->∃h k s,z.get? b=Ab h/\h.cls=o.cls/\h.data=.dict k s
theorem R4 {M:Dr}{m:As->Option Ae}{c:Unit->Aq->Prop}(f:s.heap.Ns a m)
 (N:∀h,h.Ns a (λ x=>if x=name then Ab v else m x)->BM a s.heap h->F3 s.heap h->c () {s with heap:=h,toks:=s.toks+1}):
 Aw M A (nsSet a name v) c E s:=by
 intro l p Q;have k:=(wpAny_nsSet (M:=M) (A:=A) (E:=E) f (Q:=λ _ g=>F3 s.heap g.heap->c () g) λ h r u y=>N h r u y) l p Q;obtain⟨o,B,L,V,i,hk,O⟩:=f;have w:B.any (·.refKey)=Av:=by
  rw[Array.any_eq_false'];intro e C;obtain⟨n,t,N⟩:=hk e C;simp[DictEntry.refKey,N]
 simp only[nsSet,strHash,Sem.wp_bind',Sem.wp_cmd_ask,Sem.wp_pure',Sem.wp_cmd_mkText] at k ⊢;rw[Sem.wp_loadPart_of _ _ _ _ {s with toks:=s.toks+1} _ V] at k ⊢;simp only[i,aRefKeyMayBeTheName_eq,aRefKeyMayBeTheNameByArray,w,H9,Bw,if_false,Sem.wp_cmd_updatePart] at k ⊢;refine⟨k.1,k.2 λ b D W Z j d=>?_⟩;by_cases q:b=a
 ·subst b;obtain rfl:=A4 V j;obtain⟨G,I,z,H,J⟩:=TI name _ _ v o i;exact⟨_,z,H,B1 _ V I,G,J⟩
 ·exact⟨D,W,Z,by rw[Dh _ _ (Ne.symm q)];exact j,rfl,d⟩
theorem C5 {M:Dr}{m:As->Option Ae}{a:Unit->Aq->Prop}(k:z.kindOf name=Ab .local)(o:s.heap.Ns z.locals m)
 (w:∀h,h.Ns z.locals (λ x=>if x=name then Ab v else m x)->BM z.locals s.heap h->F3 s.heap h->a () {s with heap:=h,toks:=s.toks+1})
 (H:(z.scope.kind== .class||(z.scope.kind== .module&&z.locals !=z.globals))=Av):Aw M A (M3 z name v) a E s:=by
 rw[storeName_local k H];exact R4 o w
theorem F3.af (k:∀b o,h.get? b=Ab o->H.get? b=Ab o):F3 h H:=λ b o s w e z=>⟨o,s,w,k b o e,rfl,z⟩
theorem F3.trans (a:F3 h H)(b:F3 H d):F3 h d:=λ c o w z e A=>by
 obtain⟨_,_,_,E,N,Q⟩:=a c o w z e A;obtain⟨V,k,s,W,Z,f⟩:=b c _ _ _ E Q;exact⟨V,k,s,W,Z.trans N,f⟩
variable {v:Ae} in
set_option genCtorIdx true in
inductive Dt where
 |aa (d:PV)
 |own (d:PV)
 |av (v:Ae)
 |cg (v:Ae) (d:PV)
noncomputable abbrev A5:=List (As×Dt)
variable {O:A5}
def D5 (x:As):Bool:=!(x==("__debug__":As))&&!(x==("__classdict__":As))
structure CY (k:Nat)(A:Dj):Prop where
 handled:A.handled=Ah
 depth:A.depth+10*k<900
 units:A.units+100*k<9000
theorem CY.ai (h:CY k A)(o:j<=k):CY j A:=⟨h.handled,Az (A9 (FL 10 o) _) h.depth,Az (A9 (FL 100 o) _) h.units⟩
theorem CY.u (h:CY k A)(o:9000+b<=d):A.units+b<d:=Ao (Nat.add_lt_add_right (Az (AS ..) h.units) b) o
theorem CY.d (h:CY k A){d:Nat}(o:900<=d):A.depth<d:=Ao (Az (AS ..) h.depth) o
variable {r:List Bs}{g:Array CC} in
inductive wY (W:BV)(X:List Ai)(h:AT)(a:Ai)(xs:List PV):Prop
 |mk (vs0:Array Ae) (n0:Nat) (g:h.get? a=Ab (I3 vs0 n0)) (z:vs0.size<=B2) (r:RpL W X h vs0.toList xs)
variable {r:List Bs}{q:CE}{g:Array CC}{y:As} in
inductive wZ (W:BV)(X:List Ai)(h:AT)(a:Ai)(es:List (As×PV)):Prop
 |mk (kvs:List (As×Ae)) (g:h.DictOf W.K a kvs) (y:(a==NR)=Av) (z:kvs.length<=B2) (q:kvs.map (·.1)=es.map (·.1)) (r:RpL W X h (kvs.map (·.2)) (es.map (·.2)))
variable {b:List PV}{c:List (As×PV)} in
def BX (h:BV)(X:List Ai)(k:AT)(a:Ai):PV->Prop
 | .list b=>wY h X k a b
 | .dict c=>wZ h X k a c
 |_=>False
def BU (h:BV)(o X:List Ai)(k:AT)(v:Ae):Dt->Prop
 | .aa d=>Rp h X k v d
 | .own d=>∃a,v=.ref a/\a∈X/\a∉o/\BX h X k a d
 | .av u=>v=u
 | .cg u d=>v=u/\Rp h X k v d
def AW (h:E9):List Ai:=h.locals::h.cells.map (·.2)
def eO (h:Bg)(x:As):Prop:=h.names.lookup x=Ab .local\/h.names.lookup x=Ab .cell\/h.names.lookup x=Ab .free
variable {m:As->Option Ae} in
inductive C! (W:BV)(sc:Bg)(ah:E9)(Z X:List Ai)(h:AT)(ρ:A5):Prop
 |mk (m:As->Option Ae) (hm:h.Ns ah.locals m) (hv:∀x sl,sc.names.lookup x=Ab .local->ρ.lookup x=Ab sl->∃v,m x=Ab v/\BU W Z X h v sl)
variable {c:Ai}{i:Nat} in
inductive iZ (W:BV)(ah:E9)(Z X:List Ai)(h:AT)(ρ:A5)(x:As):Prop
 |mk (c:Ai) (ov:Option Ae) (e:ah.cells.lookup x=Ab c) (i:h.IsCell c ov) (k:∀sl,ρ.lookup x=Ab sl->∃v,ov=Ab v/\BU W Z X h v sl)
structure FI (W:BV)(sc:Bg)(ah:E9)(Z X:List Ai)(h:AT)(ρ:A5):Prop where
 bb:∀a∈AW ah,a∈Z
 zx:∀a∈Z,a∈X
 kind:ah.scope.kind=.function
 bx:ah.globals=Ce
 blt:ah.builtins=Ji
 ea:∀x,sc.names.lookup x=Ab .local->ah.kindOf x=Ab .local
 da:∀x,sc.names.lookup x=Ab .cell->ah.kindOf x=Ab .cell
 df:∀x,sc.names.lookup x=Ab .free->ah.kindOf x=Ab .free\/ah.kindOf x=Ab .cell
 dp:∀x,sc.names.lookup x=Ab .globalImplicit->ah.kindOf x=Ab .globalImplicit
 ns:C! W sc ah Z X h ρ
 cell:∀x,(sc.names.lookup x=Ab .cell\/sc.names.lookup x=Ab .free)->iZ W ah Z X h ρ x
 inj:∀x y c,ah.cells.lookup x=Ab c->ah.cells.lookup y=Ab c->x=y
 dt:∀x sl,ρ.lookup x=Ab sl->eO sc x/\D5 x=Ag
 alive:∀a∈X,W.h0.get? a=CD/\∃o,h.get? a=Ab o
 ci:∀x y d e,ρ.lookup x=Ab (.own d)->ρ.lookup y=Ab (.own e)->x=y
section
theorem BX.to {W':BV}(hk:∀o,h.get? a=Ab o->(o.cls=.type "list"\/o.cls=.type "tuple"\/o.cls=.type "dict")->H.get? a=Ab o)(E:∀k,h.DictOf W.K a k->H.DictOf W'.K a k)(w:∀s A,RpL W X h s A->RpL W' Y H s A)(r:BX W X h a d):BX W' Y H a d:=by
 cases d with
 |list=>obtain⟨s,n,e,z,r⟩:=r;exact⟨s,n,hk _ e (.inl rfl),z,w _ _ r⟩
 |dict=>obtain⟨k,e,y,z,q,r⟩:=r;exact⟨k,E _ e,y,z,q,w _ _ r⟩
 |_=>exact r.elim
theorem BX.map (hk:∀o,h.get? a=Ab o->(o.cls=.type "list"\/o.cls=.type "tuple"\/o.cls=.type "dict")->H.get? a=Ab o)(w:∀k s,RpL W X h k s->RpL W Y H k s)(r:BX W X h a d):BX W Y H a d:=
 r.to hk (λ _ e=>OC e λ o z hc=>hk o z (.inr (.inr hc))) w
theorem BU.to (k:∀v d,Rp W X h v d->Rp W' Y H v d)(s:∀a d,a∈X->a∉Z->BX W X h a d->a∈Y/\a∉c/\BX W' Y H a d)(r:BU W Z X h v b):BU W' c Y H v b:=by
 cases b with
 |aa=>exact k _ _ r
 |own=>obtain⟨a,e,m,z,o⟩:=r;exact⟨a,e,s a _ m z o⟩
 |av=>exact r
 |cg=>exact⟨r.1,k _ _ r.2⟩
theorem BX.ae (k:BB W h H)(r:BX W X h a d):BX W X H a d:=r.map (λ _=>D6 k) λ _ _=>RpL.ae k
theorem BU.ae (k:BB W h H)(r:BU W Z X h v a):BU W Z X H v a:=r.to (λ _ _=>Rp.ae k) λ _ _ m z o=>⟨m,z,o.ae k⟩
theorem BX.az (o:BM b h H)(s:b∈X)(k:a≠b)(r:BX W X h a d):BX W X H a d:=r.map (λ _ e _=>(o.2 _ k).trans e) λ _ _=>RpL.az o s
theorem kT {m:As->Option Ae}(N:BB W h H)(n:h.Ns a m)(Q:∀o,h.get? a=Ab o->∀s,o.data≠.fields s):H.Ns a m:=by
 obtain⟨o,w,z,O,A,r⟩:=n;rcases N.1 a o O with k |⟨_,_,V,k⟩ |⟨_,s,E,k,Z⟩
 ·exact⟨o,w,z,k,A,r⟩
 ·exact⟨_,w,z,k,A,r⟩
 ·subst k;contradiction
theorem Dl {m:As->Option Ae}(s:BB W h H)(n:h.Ns a m):H.Ns a m:=
 kT s n λ o w E z=>by obtain⟨N,O,Q,k,A,_⟩:=n;obtain rfl:=A4 w k;cases A.symm.trans z
theorem G4 (z:BB W h H)(n:h.IsCell c a):H.IsCell c a:=by
 obtain⟨o,A,s⟩:=n;rcases z.1 c o A with k |⟨_,_,E,k⟩ |⟨_,N,w,k,O⟩
 ·exact⟨o,k,s⟩
 ·exact⟨_,k,s⟩
 ·subst k;contradiction
theorem BL (w:BB W h H)(n:∃o,h.get? a=Ab o):∃o,H.get? a=Ab o:=by
 obtain⟨o,z⟩:=n;rcases w.1 a o z with k |⟨_,_,A,k⟩ |⟨_,E,s,_,k⟩<;>exact⟨_,k⟩
theorem BB.bh (s:BB W h H)(e:H.get? a=CD):h.get? a=CD:=by
 cases q:h.get? a with
 |none=>rfl
 |some o=>obtain⟨w,k⟩:=BL s ⟨o,q⟩;exact Do e k
theorem FI.map {l:BV}{f:A5}(F:FI W V z Z X h O)(n:∀a∈AW z,a∈g)(p:∀a∈g,a∈j)(t:∀m,h.Ns z.locals m->H.Ns z.locals m)(hc:∀x c A,z.cells.lookup x=Ab c->h.IsCell c A->H.IsCell c A)
 (E:∀x s,f.lookup x=Ab s->∃w,O.lookup x=Ab w/\∀v,BU W Z X h v w->BU l g j H v s) (u:∀a∈j,l.h0.get? a=Ah/\∃o,H.get? a=Ab o) (N:∀x y d e,f.lookup x=Ab (.own d)->f.lookup y=Ab (.own e)->x=y):FI l V z g j H f where
 bb:=n
 zx:=p
 kind:=F.kind
 bx:=F.bx
 blt:=F.blt
 ea:=F.ea
 da:=F.da
 df:=F.df
 dp:=F.dp
 ns:=by
  obtain⟨m,B,k⟩:=F.ns;refine⟨m,t m B,λ x s a b=>?_⟩;obtain⟨w,e,r⟩:=E x s b;obtain⟨v,Q,q⟩:=k x w a e;exact⟨v,Q,r v q⟩
 cell:=λ x C=>by
  obtain⟨c,A,e,i,k⟩:=F.cell x C;refine⟨c,A,e,hc x c A e i,λ s b=>?_⟩;obtain⟨w,e,r⟩:=E x s b;obtain⟨v,Q,q⟩:=k w e;exact⟨v,Q,r v q⟩
 inj:=F.inj
 dt:=λ x s b=>by
  obtain⟨w,e,_⟩:=E x s b;exact F.dt x w e
 alive:=u
 ci:=N
theorem FI.same {f:BV}(F:FI W V z Z X h O)(w:∀a∈AW z,a∈b)(A:∀a∈b,a∈d)(E:∀m,h.Ns z.locals m->H.Ns z.locals m)(hc:∀x c s,z.cells.lookup x=Ab c->h.IsCell c s->H.IsCell c s)
 (N:∀x v k,O.lookup x=Ab k->BU W Z X h v k->BU f b d H v k) (Q:∀a∈d,f.h0.get? a=Ah/\∃o,H.get? a=Ab o):FI f V z b d H O:=
 F.map w A E hc (λ x k e=>⟨k,e,λ v=>N x v k e⟩) Q F.ci
theorem FI.ae (F:FI W V z Z X h O)(k:BB W h H):FI W V z Z X H O:=
 F.same F.bb F.zx (λ _=>Dl k) (λ _ _ _ _=>G4 k) (λ _ _ _ _=>BU.ae k) λ a o=>⟨(F.alive a o).1,BL k (F.alive a o).2⟩
theorem FI.aw (F:FI W V z Z X h O)(o:∀x k,c.lookup x=Ab k->O.lookup x=Ab k):FI W V z Z X h c:=
 F.map F.bb F.zx (λ _ h=>h) (λ _ _ _ _ h=>h) (λ x k e=>⟨k,o x k e,λ _ h=>h⟩) F.alive λ x y d e a b=>F.ci x y d e (o _ _ a) (o _ _ b)
theorem HV (h:D5 x=Ag):(x==("__debug__":As))=Av/\(x==("__classdict__":As))=Av:=by
 unfold D5 at h;cases k:x==("__debug__":As)<;>cases o:x==("__classdict__":As)<;>simp_all
theorem FI.load (F:FI W V z Z X s.heap O)(w:O.lookup x=Ab a)(o:∀v,BU W Z X s.heap v a->Q v s):
 Aw W.M A (loadName z x) Q E s:=by
 obtain⟨b,H⟩:=F.dt x a w;rcases b with h |h
 ·obtain⟨m,d,N⟩:=F.ns;obtain⟨v,e,r⟩:=N x a h w;exact FB F.kind (F.ea x h) d e (o v r)
 ·obtain⟨c,f,e,i,N⟩:=F.cell x h;obtain⟨v,rfl,r⟩:=N a w;rcases h with h |h
  ·exact J4 F.kind (F.da x h) e i (o v r)
  ·rcases F.df x h with k |k
   ·exact wpAny_loadName_free F.kind k e i (o v r) (HV H).2
   ·exact J4 F.kind k e i (o v r)
theorem FI.name (F:FI W V z Z X s.heap O)(h:O.lookup x=Ab sl)(k:∀v,BU W Z X s.heap v sl->Q v s):
 Aw W.M A (eval (.Name x a) z) Q E s:=
 NQ (F.load h k) (HV (F.dt x sl h).2).1
def Ec (k:Bg)(h:E9)(a:Ai):Prop:=a=h.locals\/∃x,k.names.lookup x=Ab .cell/\h.cells.lookup x=Ab a
def t6 (k:BV)(P:Ai->Prop)(o s:AT):Prop:=∀h,(∀a,P a->h.get? a=CD)->BB k h o->BB k h s
structure Ls (W:BV)(P:Ai->Prop)(h h':AT):Prop where
 keep:∀b o,¬P b->h.get? b=Ab o->h'.get? b=Ab o
 j9:t6 W P h h'
 cls:F3 h h'
theorem t6.gj {P:Ai->Prop}(o:BB W h H):t6 W P h H:=λ _ _ k=>k.trans o
theorem t6.trans {P:Ai->Prop}(a:t6 W P h H)(b:t6 W P H c):t6 W P h c:=λ o s k=>b o s (a o s k)
theorem Ls.af {P:Ai->Prop}(k:∀b o,h.get? b=Ab o->H.get? b=Ab o):Ls W P h H:=⟨λ b o _ e=>k b o e,.gj (.af k),.af k⟩
theorem Ls.refl {P:Ai->Prop}:Ls W P h h:=.af λ _ _ e=>e
theorem Ls.trans {P:Ai->Prop}(a:Ls W P h H)(b:Ls W P H d):Ls W P h d:=⟨λ c o hc e=>b.keep c o hc (a.keep c o hc e),a.j9.trans b.j9,a.cls.trans b.cls⟩
theorem Rp.bj {P:Ai->Prop}(k:∀a,P a->a∈X)(S:Ls W P h H)(r:Rp W X h v d):Rp W X H v d:=r.bi λ b o e n _=>⟨S.keep b o (λ q=>n (k b q)) e,n⟩
theorem RpL.bj {P:Ai->Prop}(k:∀a,P a->a∈X)(S:Ls W P h H)(r:RpL W X h c d):RpL W X H c d:=r.bi λ b o e n _=>⟨S.keep b o (λ q=>n (k b q)) e,n⟩
theorem AK {a:Type}{x:As}{v:a}{l:List (As×a)}(h:y≠x):C9 y ((x,v)::l)=C9 y l:=by
 simp only[List.lookup_cons];have:(y==x)=Av:=by simpa using h
 rw[this]
theorem AF {a:Type}{x:As}{v:a}{l:List (As×a)}:C9 x ((x,v)::l)=Ab v:=by
 simp
theorem BU.az (k:BM b h H)(s:b∈X)(w:b∈Z)(r:BU W Z X h v a):BU W Z X H v a:=r.to (λ _ _=>Rp.az k s) λ _ _ m z o=>⟨m,z,o.az k s λ q=>z (q▸w)⟩
theorem MQ {m:As->Option Ae}(i:h.IsCell c a)(n:h.Ns L m):c≠L:=by
 rintro rfl;obtain⟨o,w,z⟩:=i;obtain⟨A,E,H,k,s,_⟩:=n;obtain rfl:=A4 w k;cases z.symm.trans s
theorem Di (e:z.cells.lookup x=Ab c):c∈AW z:=
 Af _ (AH.mpr ⟨(x,c),mem_of_lookup e,rfl⟩)
theorem GD (k:BM b h H)(s:∃o,H.get? b=Ab o)(w:∃o,h.get? a=Ab o):∃o,H.get? a=Ab o:=by
 by_cases q:a=b
 ·subst a;exact s
 ·rw[k.2 a q];exact w
theorem FI.dr (F:FI W V z Z X h O)(s:eO V x)(o:D5 x=Ag):∀y k,C9 y ((x,sl)::O)=Ab k->eO V y/\D5 y=Ag:=by
 intro y k e;by_cases q:y=x
 ·exact q▸⟨s,o⟩
 ·rw[AK q] at e;exact F.dt y k e
theorem FI.dm (F:FI W V z Z X h O)(o:∀d,a=.own d->∀y e,O.lookup y=Ab (.own e)->y=x):∀y s d e,C9 y ((x,a)::O)=Ab (.own d)->C9 s ((x,a)::O)=Ab (.own e)->y=s:=by
 have k:∀{y d},C9 y ((x,a)::O)=Ab (.own d)->y=x/\a=.own d\/O.lookup y=Ab (.own d):=λ{y d} h=>by
  by_cases q:y=x
  ·rw[q,AF] at h;exact .inl ⟨q,AN h⟩
  ·rw[AK q] at h;exact .inr h
 intro y s d e N Q;rcases k N with⟨w,b⟩ |A<;>rcases k Q with⟨E,c⟩ |H
 ·exact w.trans E.symm
 ·exact w.trans (o d b s e H).symm
 ·exact(o e c y d A).trans E.symm
 ·exact F.ci y s d e A H
theorem FI.cw (F:FI W V z Z X s.heap O){f:Unit->Aq->Prop}(hx:V.names.lookup x=Ab .local\/V.names.lookup x=Ab .cell)(T:D5 x=Ag)
 (C:BU W Z X s.heap v sl) (D:∀d,sl=.own d->∀y e,O.lookup y=Ab (.own e)->y=x)
 (a2:∀p tk,FI W V z Z X p ((x,sl)::O)->Ls W (Ec V z) s.heap p->s.toks<=tk->f () {s with heap:=p,toks:=tk}):
 Aw W.M A (M3 z x v) f E s:=by
 have g:=F.dr (sl:=sl) (hx.elim .inl λ k=>.inr (.inl k)) T;have j:=F.dm D;obtain⟨m,G,hv⟩:=F.ns;rcases hx with l |l
 ·have Q:=F.bb _ Ad;have U:=F.zx _ Q;refine C5 (F.ea x l) G (λ p I h Y=>a2 p _ {F with ns:=?_,cell:=?_,dt:=g,ci:=j,alive:=?_} ⟨λ b o J e=>by rw[h.2 b (λ q=>J (.inl q))];exact e,λ J hf k=>k.az (hf _ (.inl rfl)) (λ o vs t hd=>?_) h,Y⟩ (Bq _)) (by rw[F.kind];rfl)
  ·refine⟨_,I,λ y w a b=>?_⟩;by_cases q:y=x
   ·subst y;rw[AF] at b;injection b with b;subst b;exact⟨v,by simp,C.az h U Q⟩
   ·rw[AK q] at b;obtain⟨u,e,r⟩:=hv y w a b;exact⟨u,by simpa[q] using e,r.az h U Q⟩
  ·intro y B;obtain⟨c,ov,e,i,k⟩:=F.cell y B;refine⟨c,ov,e,i.sameBut h (MQ i G),λ w b=>?_⟩;have q:y≠x:=by rintro rfl;rcases B with B |B<;>cases l.symm.trans B
   rw[AK q] at b;obtain⟨u,n,r⟩:=k w b;exact⟨u,n,r.az h U Q⟩
  ·intro a L;refine⟨(F.alive a L).1,GD h ?_ (F.alive a L).2⟩;obtain⟨o,_,_,t,_⟩:=I;exact⟨o,t⟩
  ·exfalso;obtain⟨o',es,ep,H,N,_⟩:=G;obtain rfl:=A4 t H;cases hd.symm.trans N
 ·obtain⟨c,ov,e,i,k⟩:=F.cell x (.inl l);have Q:=F.bb _ (Di e);have mx:=F.zx _ Q;refine wpAny_storeName_cell F.kind (F.da x l) e i λ p M h=>a2 p _ {F with ns:=?_,cell:=?_,dt:=g,ci:=j,alive:=?_} ⟨λ b o J n=>by rw[h.2 b (λ q=>J (.inr ⟨x,l,q▸e⟩))];exact n,λ J hf k=>k.az (hf _ (.inr ⟨x,l,e⟩)) (λ o vs t hd=>?_) h,λ b o es ep R S=>⟨o,es,ep,by rw[h.2 b (λ q=>by cases q;obtain⟨o',H,N⟩:=i;obtain rfl:=A4 R H;cases S.symm.trans N)];exact R,rfl,S⟩⟩ (An _)
  ·refine⟨m,G.sameBut h (Ne.symm (MQ i G)),λ y w a b=>?_⟩;have q:y≠x:=by rintro rfl;cases l.symm.trans a
   rw[AK q] at b;obtain⟨u,n,r⟩:=hv y w a b;exact⟨u,n,r.az h mx Q⟩
  ·intro y B;by_cases q:y=x
   ·subst y;refine⟨c,Ab v,e,M,λ w b=>?_⟩;rw[AF] at b;injection b with b;subst b;exact⟨v,rfl,C.az h mx Q⟩
   ·obtain⟨c',a0,n,i',k'⟩:=F.cell y B;refine⟨c',a0,n,i'.sameBut h (λ a3=>q (F.inj y x c (a3▸n) e)),λ w b=>?_⟩;rw[AK q] at b;obtain⟨u,a1,r⟩:=k' w b;exact⟨u,a1,r.az h mx Q⟩
  ·intro a L;refine⟨(F.alive a L).1,GD h ?_ (F.alive a L).2⟩;obtain⟨o,t,_⟩:=M;exact⟨o,t⟩
  ·exfalso;obtain⟨o',H,N⟩:=i;obtain rfl:=A4 t H;cases hd.symm.trans N
theorem FI.wr (F:FI W V z Z X h O)(k:Ec V z a):a∈Z:=by
 rcases k with rfl |⟨x,_,e⟩
 ·exact F.bb _ Ad
 ·exact F.bb _ (Di e)
theorem FI.br (F:FI W V z Z X h O)(k:Ec V z a):a∈X:=F.zx _ (F.wr k)
theorem BB.ext (N:BB W c h)(V:c.get? a=CD)(O:∀o z,h.get? a=Ab o->o.data=.fields z->o.cls≠.none/\o.cls≠.type "code")(A:BC a h H):BB W c H:=by
 refine⟨λ b o e=>?_,λ t=>W.ch _ _ (λ b o z e Q hc=>?_) (N.2 t)⟩
 ·have s:b≠a:=by rintro rfl;exact Do V e
  rcases N.1 b o e with k |⟨n,k,Z,E⟩ |⟨n,z,w,k,E⟩
  ·exact .inl (A b o s k)
  ·exact .inr (.inl ⟨n,k,Z,A b _ s E⟩)
  ·exact .inr (.inr ⟨n,z,w,k,A b _ s E⟩)
 ·have s:b≠a:=by
   rintro rfl;rcases hc with hc |hc
   ·exact(O _ _ e Q).1 hc
   ·exact(O _ _ e Q).2 hc
  exact A b o s e
theorem Rp.ext (k:BC a h H)(s:a∈X)(r:Rp W X h v d):Rp W X H v d:=
 r.bi λ b o e n _=>⟨k b o (λ q=>n (q▸s)) e,n⟩
theorem RpL.ext (k:BC a h H)(s:a∈X)(r:RpL W X h c d):RpL W X H c d:=
 r.bi λ b o e n _=>⟨k b o (λ q=>n (q▸s)) e,n⟩
theorem BX.ext (o:BC b h H)(s:b∈X)(k:a≠b)(r:BX W X h a d):BX W X H a d:=r.map (λ _ e _=>o _ _ k e) λ _ _=>RpL.ext o s
theorem BU.ext (k:BC b h H)(s:b∈X)(w:b∈Z)(r:BU W Z X h v a):BU W Z X H v a:=r.to (λ _ _=>Rp.ext k s) λ _ _ m z o=>⟨m,z,o.ext k s λ q=>z (q▸w)⟩
theorem UJ (k:BC a h H)(q:c≠a)(i:h.IsCell c b):H.IsCell c b:=by
 obtain⟨o,s,w⟩:=i;exact⟨o,k c o q s,w⟩
theorem FI.ext (F:FI W V z Z X h O)(k:BC a h H)(s:a∈Z)(w:a∉AW z)(E:∃o,H.get? a=Ab o):FI W V z Z X H O:=
 F.same F.bb F.zx (λ _ n=>n.extBut k λ q=>w (q▸Ad)) (λ _ _ _ e=>UJ k λ q=>w (q▸Di e)) (λ _ _ _ _=>BU.ext k (F.zx _ s) s) λ b A=>⟨(F.alive b A).1,by
   by_cases q:b=a
   ·subst b;exact E
   ·obtain⟨o,N⟩:=(F.alive b A).2;exact⟨o,k b o q N⟩⟩
theorem BX.be (k:h.get? b=CD)(r:BX W X h a d):BX W (b::X) h a d:=r.map (λ _ e _=>e) λ _ _=>RpL.be k
theorem BX.alive (r:BX W X h a d):∃o,h.get? a=Ab o:=by
 cases d with
 |list=>obtain⟨w,n,e,_⟩:=r;exact⟨_,e⟩
 |dict=>obtain⟨k,⟨o,_,_,s,_⟩,_⟩:=r;exact⟨o,s⟩
 |_=>exact r.elim
theorem BU.be (k:h.get? b=CD)(r:BU W Z X h v c):BU W (b::Z) (b::X) h v c:=
 r.to (λ _ _=>Rp.be k) λ a _ m z o=>⟨Af _ m,λ q=>(Ak.mp q).elim (λ q=>by obtain⟨x,s⟩:=o.alive;simp only[q,k] at s;contradiction) z,o.be k⟩
theorem DE (s:BB W W.h0 h)(w:h.get? a=CD):W.h0.get? a=CD:=by
 cases e:W.h0.get? a with
 |none=>rfl
 |some o=>
  obtain⟨z,k⟩:=BL s ⟨o,e⟩;exact Do w k
theorem FI.fresh (F:FI W V z Z X h O)(R:BB W W.h0 h)(s:BB W h H)(w:h.get? a=CD)(A:∃o,H.get? a=Ab o):FI W V z (a::Z) (a::X) H O:=
 F.same (λ b k=>Af _ (F.bb b k)) (λ b k=>(Ak.mp k).elim (λ q=>q▸Ad) λ q=>Af _ (F.zx b q)) (λ _=>Dl s) (λ _ _ _ _=>G4 s) (λ _ _ _ _ r=>(r.be w).ae s)
   λ b k=>(Ak.mp k).elim (λ q=>q▸⟨DE R w,A⟩) λ q=>⟨(F.alive b q).1,BL s (F.alive b q).2⟩
end
variable {i:Nat}{xs:List PV} in
mutual
noncomputable def Iz:PV->PyData
 | .none=>.none
 | .bool b=>.bool b
 | .int i=>.int i
 | .str s=>.str s
 | .list xs=>.list (toPyL xs)
 | .ba xs=>.tuple (toPyL xs)
 | .dict _=>.none
 | .obj _=>.none
noncomputable def toPyL:List PV->List PyData
 |[]=>[]
 |x::xs=>Iz x::toPyL xs
end
variable {n:Nat}{xs:List PV} in
mutual
noncomputable def To:Nat->PV->Bool
 |_,.none=>Ag
 |_,.bool _=>Ag
 |_,.int _=>Ag
 |_,.str _=>Ag
 |0,.list _=>Av
 |n+1,.list xs=>lvlL n xs
 |0,.ba _=>Av
 |n+1,.ba xs=>lvlL n xs
 |_,.dict _=>Av
 |_,.obj _=>Av
noncomputable def lvlL:Nat->List PV->Bool
 |_,[]=>Ag
 |n,x::xs=>To n x&&lvlL n xs
end
def Rd (h:AT)(v:Ae)(d:PV)(n:Nat):Prop:=(∃k,Reads h v (Iz d) k)/\(Iz d).canLay0=Ag/\(Iz d).depth<=n
def B? (k:AT)(o:List Ae)(h:List PV)(n:Nat):Prop:=(∃s,ReadsAll k o (toPyL h) s)/\PyData.canLayAll0 (toPyL h)=Ag/\PyData.depthAll (toPyL h)<=n
theorem Rd.up {f:Nat->Bool}(g:∀m,f (m+1)=Ag->Rd h v d (m+1))(k:f 0=Av)(q:f n=Ag):Rd h v d n:=match n,q with
 |0,q=>nomatch k.symm.trans q
 |m+1,q=>g m q
theorem Rp.reads (r:Rp W X h v d):To n d=Ag->Rd h v d n:=
 Rp.rec (motive_2:=λ z w _=>∀n,lvlL n w=Ag->B? h z w n)
   (λ n _=>⟨⟨_,.none⟩,rfl,AZ _⟩) (λ b n _=>⟨⟨_,.bool b⟩,rfl,AZ _⟩) (λ i t n _=>⟨⟨_,.int i t⟩,rfl,AZ _⟩)
   (λ x t a _ n _=>⟨⟨_,.str x t⟩,a,AZ _⟩) (λ v n q=>nomatch (show To n (.obj v)=Av by cases n<;>rfl).symm.trans q)
   (λ e _ _ _ o n q=>Rd.up (f:=λ n=>To n (.list _)) (λ m q=>by obtain⟨⟨_,r⟩,c,k⟩:=o m q;exact⟨⟨_,.list e rfl rfl r⟩,c,Bv k⟩) rfl q)
   (λ e _ _ _ o n q=>Rd.up (f:=λ n=>To n (.ba _)) (λ m q=>by obtain⟨⟨_,r⟩,c,k⟩:=o m q;exact⟨⟨_,.tuple e rfl rfl r⟩,c,Bv k⟩) rfl q)
   (λ{_ _ A} _ _ _ _ _ _ _ n q=>nomatch (show To n (.dict A)=Av by cases n<;>rfl).symm.trans q)
   (λ n _=>⟨⟨_,.nil⟩,rfl,AZ _⟩)
   (λ _ _ i j n q=>by obtain⟨⟨_,r⟩,c,k⟩:=i n (AC.mp q).1;exact by obtain⟨⟨_,E⟩,H,s⟩:=j n (AC.mp q).2;exact⟨⟨_,.cons r E⟩,AC.mpr ⟨c,H⟩,Nat.max_le.mpr ⟨k,s⟩⟩) r n
theorem RpL.reads (r:RpL W X h d b):lvlL n b=Ag->B? h d b n:=
 r.bt (P:=λ d b=>lvlL n b=Ag->B? h d b n) (λ _=>⟨⟨_,.nil⟩,rfl,AZ _⟩) λ _ _ _ _ a _ i q=>by
   obtain⟨⟨_,r⟩,c,o⟩:=a.reads (AC.mp q).1;obtain⟨⟨_,s⟩,w,k⟩:=i (AC.mp q).2;exact⟨⟨_,.cons r s⟩,AC.mpr ⟨c,w⟩,Nat.max_le.mpr ⟨o,k⟩⟩
def xJ (b:Bool):Int:=if b then 1 else 0
def Un (c:Prop) [Decidable c] (d:PV):Option PV:=if c then Ab d else Ah
theorem O9 {c:Prop} [Decidable c] (h:c):Un c d=Ab d:=if_pos h
theorem Fp {c:Prop} [Decidable c] (e:Un c x=Ab d):c/\x=d:=by
 unfold Un at e;split at e
 ·exact⟨‹_›,AN e⟩
 ·contradiction
theorem no {a:Type}{d:a}{P:Prop}(e:Ah=Ab d):P:=(by contradiction)
theorem Rp.at (e:x=d)(r:Rp W X h v x):Rp W X h v d:=e▸r
theorem Rp.yes (e:Ab x=Ab d)(r:Rp W X h v x):Rp W X h v d:=AN e▸r
variable {y:As} in
def ZN (b:PV)(f:Int->Option PV):Option PV:=match b with
 | .int y=>f y
 |_=>Ah
def wT (a b:PV):Option PV:=match a with
 | .int x=>ZN b λ y=>Ab (.int (x+y))
 | .str x=>(match b with
   | .str y=>Un (x.length+y.length<=B2) (.str (x++y))
   |_=>Ah)
 | .list x=>(match b with
   | .list y=>Un (x.length+y.length<=B2) (.list (x++y))
   |_=>Ah)
 |_=>Ah
def uQ (a b:PV):Option PV:=match a with
 | .int x=>ZN b λ y=>Ab (.int (x-y))
 | .bool x=>(match b with
   | .bool y=>Ab (.int (xJ x-xJ y))
   |_=>Ah)
 |_=>Ah
def vR:List PV->Option PV
 |[x]=>Ab x
 |_=>Ah
variable {l:List E9} in
def u9 (a b:PV):Option PV:=match a with
 | .int x=>ZN b λ y=>Un (x.natAbs<4294967296) (.int (x*y))
 | .str x=>ZN b λ n=>Un (0<=n/\n<=100/\x.length<=100/\Ba (Txt.mul x n)=Ag/\(Txt.mul x n).length<=B2) (.str (Txt.mul x n))
 | .list l=>ZN b λ n=>(vR l).bind λ x=>Un (0<=n/\n<=1000) (.list (Bi n.toNat x))
 |_=>Ah
def QT (f:Int->Int->Option PV)(a b:PV):Option PV:=ZN a λ x=>ZN b (f x)
def GI (h:Operator)(a b:PV):Option PV:=match h with
 | .Add=>wT a b
 | .Sub=>uQ a b
 | .Mult=>u9 a b
 | .FloorDiv=>QT (λ x y=>Un (y≠0/\y.natAbs<1073741824) (.int (x.fdiv y))) a b
 | .Mod=>QT (λ x y=>Un (y≠0) (.int (x.fmod y))) a b
 | .Pow=>QT (λ x n=>Un (0<=n/\n<=64/\x.natAbs<1048576) (.int (x^n.toNat))) a b
 | .BitAnd=>QT (λ x y=>Ab (.int (AP x y))) a b
 | .BitOr=>QT (λ x y=>Ab (.int (Builtin.bitOr x y))) a b
 |_=>Ah
theorem Dq.of {b:Type}{t:DJ b}{P:b->AT->Prop}
 (w:∀(Q:b->Aq->Prop)(E:Jc),(∀a h o,BB W s.heap h->P a h->Q a {s with heap:=h,toks:=o})->Aw W.M A t Q E s):Dq W A t s P:=λ Q E z=>
 Cz (An _) (w _ _ λ a h o k p l=>z a h o k l p)
theorem Sg (h:Ba x=Ag)(k:Ba y=Ag):Ba (x++y)=Ag:=by
 unfold PyData.strOk at*;rw[Str.cps_append,Array.all_append,h,k];rfl
theorem Dq.newList (w:∀a∈X,∃o,s.heap.get? a=Ab o)(r:RpL W X s.heap c b)(h:b.length<=B2):Dq W A (PySem.newList c) s (λ v z=>Rp W X z v (.list b)):=.of λ Q E H=>by
 have k:=r.length;refine B3 (H _ _ _ (.push _ _) ?_) (Aa (Aa (AB k) h) FW);refine .list (AD _ rfl) (λ N=>?_) (Aa (AB k) h) (r.ae (.push _ _));obtain⟨o,O⟩:=w _ N;exact EY _ (AU O)
theorem Dq.newTuple (w:∀a∈X,∃o,s.heap.get? a=Ab o)(r:RpL W X s.heap c b)(h:b.length<=B2):Dq W A (PySem.newTuple c) s (λ v z=>Rp W X z v (.ba b)):=.of λ Q E H=>by
 have k:=r.length;refine B3 (H _ _ _ (.push _ _) ?_) (Aa (Aa (AB k) h) FW);refine .ba (AD _ rfl) (λ N=>?_) (Aa (AB k) h) (r.ae (.push _ _));obtain⟨o,O⟩:=w _ N;exact EY _ (AU O)
theorem IK (k:∀a∈X,∃o,h.get? a=Ab o):h.objs.size∉X:=λ s=>by
 obtain⟨o,w⟩:=k _ s;exact EY _ (AU w)
theorem L4 (x:Ae):∀n(h:Array Ae),List.foldl (λ a b=>a++b) h (Bi n #[x])=h++(Bi n x).toArray:=by
 intro n;induction n with
 |zero=>
  intro h;rfl
 |succ n k=>
  intro h;simp only[List.replicate_succ,List.foldl_cons,k,List.replicate_succ];apply Array.ext';simp
theorem RpL.replicate (r:Rp W X a v d):∀n,RpL W X a (Bi n v) (Bi n d):=by
 intro n;induction n with
 |zero=>
  exact .nil
 |succ n h=>
  exact .cons r (h)
theorem Mk (h:x.natAbs<4294967296):UZ x<=64:=by
 unfold Builtin.Int.intBits;split
 ·exact AZ _
 ·have:Nat.log2 x.natAbs<64:=(Nat.log2_lt (by simp_all)).mpr (Cw h (by decide+kernel))
  assumption
theorem Hk {f:Int->Option PV}{P:Ae->Prop}(rb:Rp W X h a b)(e:ZN b f=Ab d)(k:∀y u,f y=Ab d->P (.int y u)):P a:=by
 cases b with
 |int y=>obtain⟨u,rfl⟩:=rb.aj;exact k y u e
 |_=>exact no e
theorem JP {f:Int->Int->Option PV}{P:Ae->Ae->Prop}(k:Rp W X h g a)(rb:Rp W X h c b)(e:QT f a b=Ab d)(o:∀x t y u,f x y=Ab d->P (.int x t) (.int y u)):P g c:=
 Hk (P:=λ v=>P v c) k e λ x t e=>Hk rb e λ y u=>o x t y u
def mD (b:PV)(f:List PV->Option PV):Option PV:=match b with
 | .list x=>f x
 |_=>Ah
variable {y:As} in
def Vr (b:PV)(f:As->Option PV):Option PV:=match b with
 | .str y=>f y
 |_=>Ah
variable {r:List Bs} in
def Tm (l:List PV)(f:PV->Option PV):Option PV:=match l with
 |[]=>Ah
 |x::r=>(match r with
  |[]=>f x
  |_::_=>Ah)
variable {r:List Bs} in
def uN (l:List PV)(f:PV->PV->Option PV):Option PV:=match l with
 |[]=>Ah
 |x::r=>Tm r (f x)
theorem Nu {f:List PV->Option PV}{P:Ae->Prop}(rb:Rp W X h c b)(e:mD b f=Ab d)(s:∀a k n o,h.get? a=Ab (I3 k n)->k.size<=B2->RpL W X h k.toList o->f o=Ab d->P (.ref a)):P c:=by
 cases b with
 |list o=>obtain⟨a,k,n,rfl,w,_,z,r⟩:=rb.aj;exact s a k n o w z r e
 |_=>exact no e
theorem JG {f:As->Option PV}{P:Ae->Prop}(rb:Rp W X h a b)(e:Vr b f=Ab d)(k:∀y u,Ba y=Ag->y.length<=B2->f y=Ab d->P (.str y u)):P a:=by
 cases b with
 |str y=>obtain⟨t,rfl,o,z⟩:=rb.aj;exact k y t o z e
 |_=>exact no e
theorem N6 {f:PV->Option PV}{P:List Ae->Prop}(r:RpL W X h b l)(e:Tm l f=Ab d)(k:∀v x,Rp W X h v x->f x=Ab d->P [v]):P b:=by
 cases r with
 |nil=>exact no e
 |cons a r=>
  cases r with
  |nil=>exact k _ _ a e
  |cons=>exact no e
theorem Ra {f:PV->PV->Option PV}{P:List Ae->Prop}(r:RpL W X h c l)(e:uN l f=Ab d)(k:∀v x w y,Rp W X h v x->Rp W X h w y->f x y=Ab d->P [v,w]):P c:=by
 cases r with
 |nil=>exact no e
 |cons a r=>exact N6 (P:=λ l=>P (_::l)) r e λ w y b e=>k _ _ w y a b e
theorem UT {a b:Array Ae}(h:s.heap.get? l=Ab (I3 a n))(o:s.heap.get? m=Ab (I3 b k))(w:a.size+b.size<=B2)
 (z:Q (.ref s.heap.objs.size) {s with heap:=s.heap.push (I3 (a++b) 0)}):Aw W.M A (Fn .Add (.ref l) (.ref m)) Q E s:=
 concat_meets ⟨_,h,rfl⟩ ⟨_,o,rfl⟩ noFill_list_add seq_list_add PySem.F.slot_list_add PySem.F.entry_list_add (PySem.F.args_list_add_2 _ _)
  (PyProof.Rows.list_addW l m a b n k CD CD #[] #[] (Aa w FW)) ⟨h,o,z⟩
theorem T0 {a:Int}(h:s.heap.get? l=Ab (I3 #[v] n))(o:0<=a)(k:a<=1000)
 (w:Q (.ref s.heap.objs.size) {s with heap:=s.heap.push (I3 (Bi a.toNat v).toArray 0)}):Aw W.M A (Fn .Mult (.ref l) (.int a u)) Q E s:=by
 have hk:=Aa (AB (Nat.one_mul _)) (Int.toNat_le.mpr k);refine wpAny_binaryOp_repeat_ref (rfl) ⟨_,h,rfl⟩ (λ H=>typeIs_int H a u) noFill_list_mul F.fills_int_mul F.slot_int_rmul repeat_list F.slot_int_index.lookup
  (Ig F.slot_int_rmul (typeIs_int s a u) F.entry_int_rmul (F.args_int_rmul_2 _ _) (int___rmul___int_list a u l #[v] n)
   ⟨h,rfl,⟨_,h,rfl⟩,Ig F.slot_list_mul ⟨_,h,rfl⟩ F.entry_list_mul (F.args_list_mul_2 _ _)
     (AutoListH.list___mul___list_int_3 l #[v] n a u (by rw[show Builtin.List.listFitsIndex a=Ag from AC.mpr ⟨decide_eq_true (Cx (by decide+kernel) o),decide_eq_true (DD k (by decide+kernel))⟩];decide) (B7.mpr (Aa hk (by decide+kernel))) (λ z=>absurd (of_decide_eq_true z) (B7.mpr (Aa hk (by decide+kernel)))))
     ⟨h,?_⟩⟩)
 rw[show(if(#[v]:Array Ae).isEmpty=Ag then 0 else a.toNat)=a.toNat from rfl,L4];exact(Array.empty_append).symm▸w
theorem W4 {a b:Array Ae}{x y:List PV}(o:RpL W X h a.toList x)(s:RpL W X h b.toList y)(e:Un (x.length+y.length<=B2) (.list (x++y))=Ab d):a.size+b.size<=B2/\PV.list (x++y)=d/\(a++b).size<=B2/\RpL W X h (a++b).toList (x++y):=by
 have k:=(Fp e).1;rw[<-o.length,<-s.length] at k;have k:=k;exact⟨k,(Fp e).2,Array.size_append▸k,by rw[Array.toList_append];exact o.append s⟩
theorem W3 {a:Array Ae}{n:Int}(k:RpL W X h a.toList l)(e:((vR l).bind λ x=>Un (0<=n/\n<=1000) (.list (Bi n.toNat x)))=Ab d):
 ∃v x,a= #[v]/\(0<=n/\n<=1000)/\PV.list (Bi n.toNat x)=d/\(Bi n.toNat v).toArray.size<=B2/\RpL W X h (Bi n.toNat v) (Bi n.toNat x):=by
 obtain⟨o⟩:=a;cases l with
 |nil=>exact no e
 |cons x t=>
  cases t with
  |cons y t=>exact no e
  |nil=>
   obtain⟨v,_,rfl,r,q⟩:=k.aj;obtain rfl:=q.aj
   ·have q:=Fp e;refine⟨_,x,rfl,q.1,q.2,?_,.replicate r _⟩;rw[List.size_toArray,MV];exact Aa (Int.toNat_le.mpr q.1.2) (AO rfl)
theorem YP {x:Int}(k:x.natAbs<4294967296):IntMulOk x y:=by
 unfold IntMulOk;simp only[AG,decide_eq_true_eq,not_and];exact λ h=>absurd h.1 (B7.mpr (Mk k))
theorem lC {x:As}{n:Int}(o:0<=n)(h:n<=100)(k:x.length<=100):x.length*n.toNat<=10000:=Nat.mul_le_mul k (Int.toNat_le.mpr h)
theorem ZA (H:∀a∈X,∃o,s.heap.get? a=Ab o)(h:Rp W X s.heap f a)(rb:Rp W X s.heap c b)(e:wT a b=Ab d):
 Dq W A (Fn .Add f c) s (λ v N=>Rp W X N v d):=.of λ Q E w=>by
 cases a with
 |int x=>exact JP (f:=λ x y=>Ab (.int (x+y))) (P:=λ f c=>Aw W.M A (Fn .Add f c) Q E s) h rb e λ x t y u e=>PyProof.Rows.add_int (w _ _ _ (.refl _) (.yes e (.int _ _)))
 |str x=>
  obtain⟨t,rfl,O,z1⟩:=h.aj;refine JG (P:=λ c=>Aw W.M A (Fn .Add _ c) Q E s) rb e λ y u V z2 e=>?_;have z:=(Fp e).1;exact PyProof.Rows.add_str (λ p r=>w _ _ _ (.refl _) (.at (Fp e).2 (.str _ _ (Sg O V) (Str.length_append ..▸z)))) (Aa z FW)
 |list x=>
  obtain⟨l,B,n,rfl,Z,C,z1,g⟩:=h.aj;refine Nu (P:=λ c=>Aw W.M A (Fn .Add _ c) Q E s) rb e λ m D k y i z2 j e=>?_;have q:=W4 g j e;exact UT Z i q.1 (w _ _ _ (.push _ _) (.at q.2.1 (.list (AD _ rfl) (IK H) q.2.2.1 (q.2.2.2.ae (BB.push _ _)))))
 |_=>exact no e
theorem Yq (H:∀a∈X,∃o,s.heap.get? a=Ab o)(h:Rp W X s.heap f a)(rb:Rp W X s.heap c b)(e:u9 a b=Ab d):
 Dq W A (Fn .Mult f c) s (λ v N=>Rp W X N v d):=.of λ Q E w=>by
 cases a with
 |int x=>exact JP (f:=λ x y=>Un (x.natAbs<4294967296) (.int (x*y))) (P:=λ f c=>Aw W.M A (Fn .Mult f c) Q E s) h rb e λ x t y u e=>PyProof.Rows.mul_int (w _ _ _ (.refl _) (.at (Fp e).2 (.int _ _))) (YP (Fp e).1)
 |str x=>
  obtain⟨t,rfl,p,z1⟩:=h.aj;refine Hk (P:=λ c=>Aw W.M A (Fn .Mult _ c) Q E s) rb e λ n u e=>?_;have q:=Fp e;exact SB.mul ⟨Bool.or_eq_false_iff.mpr ⟨decide_eq_false (IP.mpr (Cx (by decide+kernel) q.1.1)),decide_eq_false (My.mpr (DD q.1.2.1 (by decide+kernel)))⟩,
   λ O _=>IP.mpr ((Int.le_ediv_iff_mul_le (IP.mp O)).mpr (Cx (Int.mul_le_mul (Fv.mpr q.1.2.2.1) q.1.2.1 q.1.1 (by decide)) (by decide+kernel))),
   λ _ _=>decide_eq_false (B7.mpr (Aa (lC q.1.1 q.1.2.1 q.1.2.2.1) (by decide+kernel)))⟩ λ r k=>w _ _ _ (.refl _) (.at q.2 (.str _ _ q.1.2.2.2.1 q.1.2.2.2.2))
 |list x=>
  obtain⟨l,B,m,rfl,V,C,z1,Z⟩:=h.aj;refine Hk (P:=λ c=>Aw W.M A (Fn .Mult _ c) Q E s) rb e λ n u e=>?_;obtain⟨v,x,rfl,z,g,i,j⟩:=W3 Z e;exact T0 V z.1 z.2 (w _ _ _ (.push _ _) (.at g (.list (AD _ rfl) (IK H) i (j.ae (BB.push _ _)))))
 |_=>exact no e
theorem kJ {x:Int}(h:0<=n/\n<=64/\x.natAbs<1048576):((UZ x:Nat):Int)*n<=64*64:=
 Int.mul_le_mul (Fv.mpr (Mk (Cw h.2.2 (by decide)))) h.2.1 h.1 (by decide)
theorem MR (N:∀a∈X,∃o,s.heap.get? a=Ab o)(h:Rp W X s.heap g a)(rb:Rp W X s.heap i b)(e:GI c a b=Ab d):
 Dq W A (Fn c g i) s (λ v H=>Rp W X H v d):=by
 have I:∀(c:Operator)(f:Int->Int->Option PV),QT f a b=Ab d->(∀(Q:Jc)(E:Jc) x t y u,f x y=Ab d->(∀z,PV.int z=d->Q (.int z s.toks) {s with toks:=s.toks+1})->Aw W.M A (Fn c (.int x t) (.int y u)) Q E s)->Dq W A (Fn c g i) s (λ v H=>Rp W X H v d):=
  λ c f e k=>.of λ Q E w=>JP (P:=λ g i=>Aw W.M A (Fn c g i) Q E s) h rb e λ x t y u e=>k Q E x t y u e λ z q=>w _ s.heap (s.toks+1) (.refl _) (.at q (.int _ _))
 cases c with
 |Add=>exact ZA N h rb e
 |Mult=>exact Yq N h rb e
 |Sub=>
  refine .of λ Q E w=>?_;cases a with
  |int x=>exact JP (f:=λ x y=>Ab (.int (x-y))) (P:=λ g i=>Aw W.M A (Fn .Sub g i) Q E s) h rb e λ x t y u e=>PyProof.Rows.sub_int (w _ _ _ (.refl _) (.yes e (.int _ _)))
  |bool x=>
   cases b with
   |bool y=>
    have q:g=.bool x:=h.aj;exact q▸rb.aj▸PyProof.Rows.sub_bool (w _ _ _ (.refl _) (.yes e (.int _ _)))
   |_=>exact no e
  |_=>exact no e
 |FloorDiv=>exact I _ _ e λ Q E x t y u e q=>PyProof.Rows.floordiv_int (Fp e).1.1 (q _ (Fp e).2) (.inl (PyProof.noPylong_small (Fp e).1.2))
 |Mod=>exact I _ _ e λ Q E x t y u e q=>PyProof.Rows.mod_int (Fp e).1 (q _ (Fp e).2)
 |Pow=>exact I _ _ e λ Q E x t y u e q=>PyProof.Rows.pow_int (Fp e).1.1 (Cx (kJ (Fp e).1) (by decide+kernel)) (q _ (Fp e).2)
 |BitAnd=>exact I _ _ e λ Q E x t y u e q=>PyProof.Rows.and_int (q _ (AN e))
 |BitOr=>exact I _ _ e λ Q E x t y u e q=>PyProof.Rows.or_int (q _ (AN e))
 |_=>exact no e
def NU (a b:PV):Option Bool:=if To 6 a&&To 6 b then Ab (Dn (Iz a) (Iz b)) else Ah
variable {c:List PV}{d:List (As×PV)} in
def YS (a b:PV):Option Bool:=match b with
 | .list c=>if To 6 a&&lvlL 6 c then Ab ((toPyL c).any λ y=>Dn y (Iz a)) else Ah
 | .dict d=>match a with
   | .str k=>Ab (d.any λ e=>e.1=k)
   |_=>Ah
 |_=>Ah
variable {y:As} in
def Zq (f:Int->Int->Bool)(a b:PV):Option Bool:=match a with
 | .int x=>(match b with
   | .int y=>Ab (f x y)
   |_=>Ah)
 |_=>Ah
def yT (n m:Bool)(a b:PV):Option Bool:=match b with
 | .none=>(match a with
   | .none=>Ab n
   | .obj _=>Ah
   |_=>Ab m)
 |_=>Ah
def I9 (h:CmpOp)(a b:PV):Option Bool:=match h with
 | .Eq=>NU a b
 | .NotEq=>(NU a b).map (!·)
 | .Lt=>Zq (λ x y=>decide (x<y)) a b
 | .LtE=>Zq (λ x y=>decide (x<=y)) a b
 | .Gt=>Zq (λ x y=>decide (y<x)) a b
 | .GtE=>Zq (λ x y=>decide (y<=x)) a b
 | .In=>YS a b
 | .NotIn=>(YS a b).map (!·)
 | .Is=>yT Ag Av a b
 | .IsNot=>yT Av Ag a b
variable {i:Nat}{a:List PV} in
def Pg:PV->Option Bool
 | .bool b=>Ab b
 | .list a=>Ab (!a.isEmpty)
 | .int i=>Ab (i !=0)
 |_=>Ah
def QW (h:Int):Bool:=decide (-9223372036854775808<=h)&&decide (h<9223372036854775808)
def aK (h:List PV)(k:Int):Option PV:=if QW k then(GC k h.length).bind (h[·]?) else Ah
variable {b:List PV}{d:List (As×PV)} in
def EW (a h:PV):Option PV:=match a with
 | .list b=>ZN h (aK b)
 | .ba b=>ZN h (aK b)
 | .str x=>ZN h λ h=>if QW h then((GC h x.length).bind (x.cps[·]?)).map λ c=>.str ⟨#[c]⟩ else Ah
 | .dict d=>Vr h λ h=>(d.find? λ e=>e.1=h).map (·.2)
 |_=>Ah
def Mf (h:List PV)(lo k st:Option Int):List PV:=
 (KW (Cd lo k st h.length).1 (Cd lo k st h.length).2.1 (Cd lo k st h.length).2.2).filterMap (h[·]?)
variable {b:List PV} in
def DV (a:PV)(lo h st:Option Int):Option PV:=match a with
 | .list b=>Un (st≠Ab 0/\(Mf b lo h st).length<=B2) (.list (Mf b lo h st))
 | .str x=>Un (st=Ah) (.str (JT x lo h))
 |_=>Ah
def QE (h:BV)(X:List Ai)(k:AT)(v:Ae)(d:PV):Prop:=Rp h X k v d\/∃a,v=.ref a/\BX h X k a d
theorem QE.list (r:QE W X h v (.list b)):∃a,v=.ref a/\wY W X h a b:=
 r.elim (λ r=>by obtain⟨a,vs,n,q,e,_,z,r⟩:=r.aj;exact⟨a,q,vs,n,e,z,r⟩) id
theorem QE.dict (r:QE W X h v (.dict b)):∃a,v=.ref a/\wZ W X h a b:=
 r.elim (λ r=>by obtain⟨a,k,q,e,_,y,z,p,r⟩:=r.aj;exact⟨a,q,k,e,y,z,p,r⟩) id
theorem Ke {a:Type}{x d:a}(e:(if c then Ab x else Ah)=Ab d):c=Ag/\x=d:=by
 cases c with
 |true=>exact⟨rfl,AN e⟩
 |false=>exact no e
theorem IC {a:Type}{x:Option a}{d:a}(e:(if c then x else Ah)=Ab d):c=Ag/\x=Ab d:=by
 cases c with
 |true=>exact⟨rfl,e⟩
 |false=>exact no e
theorem DG (h:(a&&b)=Ag):a=Ag/\b=Ag:=(AG a b).mp h
theorem w9 (h:u<=9000)(d:m<=6):u+min m n<Ja:=Az (FQ h (Aa (EJ ..) d)) (show(9006:Nat)<Ja by decide+kernel)
theorem Zh (h:A.units<9000)(k:Rp W X s.heap c a)(rb:Rp W X s.heap d b)(e:NU a b=Ab r)(o:Q (.bool r) s):
 Aw W.M A (EQ .Eq c d) Q E s:=
 have q:=Ke e;have⟨⟨_,w⟩,z,H⟩:=k.reads (DG q.1).1;have⟨⟨_,N⟩,O,V⟩:=rb.reads (DG q.1).2
 SeqAt.compareEq_reads w N z O (w9 (AY h) H) (q.2▸o)
theorem Yo (h:A.units<9000)(k:Rp W X s.heap c a)(rb:Rp W X s.heap d b)(e:NU a b=Ab r)(o:Q (.bool (!r)) s):
 Aw W.M A (EQ .NotEq c d) Q E s:=
 have q:=Ke e;have⟨⟨_,w⟩,z,H⟩:=k.reads (DG q.1).1;have⟨⟨_,N⟩,O,V⟩:=rb.reads (DG q.1).2
 SeqAt.compareNe_reads w N z O (w9 (AY h) H) (q.2▸o)
theorem LL {b:List (As×PV)}{a:List (As×Ae)}(o:As):a.map (·.1)=b.map (·.1)->RpL W X h (a.map (·.2)) (b.map (·.2))->
 ((a.find? λ k=>k.1=o).isSome=(b.any λ e=>e.1=o))/\∀d,(b.find? λ e=>e.1=o).map (·.2)=Ab d->∃v,(a.find? λ k=>k.1=o).map (·.2)=Ab v/\Rp W X h v d:=by
 induction a generalizing b with
 |nil=>
  intro e r;cases b with
  |nil=>exact⟨rfl,λ d q=>by contradiction⟩
  |cons _ _=>contradiction
 |cons k a E=>
  intro e r;cases b with
  |nil=>contradiction
  |cons x b=>
   obtain⟨s,H⟩:=H6 e;have w:=RpL.gy r;obtain⟨N,O⟩:=E H w.2;by_cases q:x.1=o
   ·have A:=decide_eq_true q;rw[F7 (p:=λ k:As×Ae=>decide (k.1=o)) (decide_eq_true (s.trans q)),F7 (p:=λ k:As×PV=>decide (k.1=o)) A,List.any_cons,A];exact⟨rfl,λ d z=>⟨k.2,rfl,AN z▸w.1⟩⟩
   ·rw[ES (a:=k) (λ z=>q (s.symm.trans (of_decide_eq_true z))),ES (a:=x) (λ z=>q (of_decide_eq_true z)),List.any_cons,decide_eq_false q,Bool.false_or];exact⟨N,O⟩
theorem Wp:W.K.is a (.str a t)=Ag:=beq_self_eq_true a
theorem Rg {b:List (As×PV)}{a:List (As×Ae)}(k:As)(q:a.map (·.1)=b.map (·.1))(r:RpL W X h (a.map (·.2)) (b.map (·.2))):(valueAt a k).isSome=b.any λ e=>e.1=k:=
 (Option.isSome_map ..).trans (LL k q r).1
theorem RG {c:List (As×PV)}{P:Ae->Prop}(k:Rp W X h b a)(e:YS a (.dict c)=Ab r)(o:∀y t,(c.any λ e=>e.1=y)=r->P (.str y t)):P b:=by
 cases a with
 |str y=>obtain⟨t,rfl,_⟩:=k.aj;exact o y t (AN e)
 |_=>exact no e
theorem YR (N:A.units<9000)(w:Rp W X s.heap c a)(rb:QE W X s.heap d b)(e:YS a b=Ab r)(H:∀O,Q (.bool r) {s with toks:=O}):
 Aw W.M A (EQ .In c d) Q E s:=by
 cases b with
 |list j=>
  have q:=Ke e;obtain⟨l,rfl,m,n,o,z1,h⟩:=rb.list;have⟨⟨_,h⟩,V,Z⟩:=h.reads (DG q.1).2;have⟨⟨_,f⟩,g,p⟩:=w.reads (DG q.1).1;exact SeqAt.in_list_reads (.list o rfl rfl h) f V g (w9 (Nat.succ_le_of_lt N) Z) (q.2▸H _)
 |dict u=>
  obtain⟨l,rfl,i,o,y,z,q,h⟩:=rb.dict;exact RG (P:=λ c=>Aw W.M A (EQ .In c _) Q E s) w e λ k t e=>wpAny_in_of Wp y o.mapOf ((Rg k q h).trans e▸H _)
 |_=>exact no e
theorem SE (N:A.units<9000)(w:Rp W X s.heap c a)(rb:QE W X s.heap d b)(e:YS a b=Ab r)(H:∀O,Q (.bool (!r)) {s with toks:=O}):
 Aw W.M A (EQ .NotIn c d) Q E s:=by
 cases b with
 |list j=>
  have q:=Ke e;obtain⟨l,rfl,m,n,o,z1,h⟩:=rb.list;have⟨⟨_,h⟩,V,Z⟩:=h.reads (DG q.1).2;have⟨⟨_,f⟩,g,p⟩:=w.reads (DG q.1).1;exact SeqAt.notIn_list_reads (.list o rfl rfl h) f V g (w9 (Nat.succ_le_of_lt N) Z) (q.2▸H _)
 |dict u=>
  obtain⟨l,rfl,i,o,y,z,q,h⟩:=rb.dict;exact RG (P:=λ c=>Aw W.M A (EQ .NotIn c _) Q E s) w e λ k t e=>wpAny_notIn_of Wp y o.mapOf ((Rg k q h).trans e▸H _)
 |_=>exact no e
theorem Wk {f:Int->Int->Bool}{P:Ae->Ae->Prop}(k:Rp W X h c a)(rb:Rp W X h d b)(e:Zq f a b=Ab r)(o:∀x t y u,f x y=r->P (.int x t) (.int y u)):P c d:=by
 cases a with
 |int x=>
  cases b with
  |int y=>obtain⟨t,rfl⟩:=k.aj;obtain⟨u,rfl⟩:=rb.aj;exact o x t y u (AN e)
  |_=>exact no e
 |_=>exact no e
theorem RE {P:Ae->Ae->Prop}(k:Rp W X h c a)(rb:Rp W X h d b)(e:yT n m a b=Ab r)(o:n=r->P .none .none)(s:∀v:Ae,PySem.plainIs v E4=Ag->v≠.none->m=r->P v .none):P c d:=by
 cases b with
 |none=>
  have q:=rb.aj;subst q;cases k with
  |none=>exact o (AN e)
  |obj=>exact no e
  |_=>exact s _ rfl nofun (AN e)
 |_=>exact no e
theorem vG {a:Option Bool}(e:a.map (!·)=Ab r):a=Ab !r:=by
 cases a with
 |none=>exact no e
 |some b=>exact congrArg Ab (by rw[<-AN e,Mc])
theorem HA (H:A.units<9000)(o:Rp W X s.heap d a)(rb:Rp W X s.heap c b\/((op=.In\/op=.NotIn)/\QE W X s.heap c b))(e:I9 op a b=Ab r)
 (N:∀O,Q (.bool r) {s with toks:=O}):Aw W.M A (EQ op d c) Q E s:=by
 have w:=N s.toks;have h (q:op≠.In/\op≠.NotIn):Rp W X s.heap c b:=rb.elim id λ k=>k.1.elim (λ k=>absurd k q.1) λ k=>absurd k q.2;have z:=rb.elim .inl And.right;have I:∀f,Zq f a b=Ab r->op≠.In/\op≠.NotIn->(∀x t y u,Q (.bool (f x y)) s->Aw W.M A (EQ op (.int x t) (.int y u)) Q E s)->Aw W.M A (EQ op d c) Q E s:=
  λ f e q k=>Wk (P:=λ d c=>Aw W.M A (EQ op d c) Q E s) o (h q) e λ x t y u e=>k x t y u (e▸w)
 cases op with
 |Eq=>exact Zh H o (h ⟨nofun,nofun⟩) e w
 |NotEq=>exact Yo H o (h ⟨nofun,nofun⟩) (vG e) (by rw[Mc];exact w)
 |Lt=>exact I _ e ⟨nofun,nofun⟩ λ x t y u q=>PyProof.Rows.lt_int q
 |LtE=>exact I _ e ⟨nofun,nofun⟩ λ x t y u q=>PyProof.Rows.le_int q
 |Gt=>exact I _ e ⟨nofun,nofun⟩ λ x t y u q=>PyProof.Rows.gt_int q
 |GtE=>exact I _ e ⟨nofun,nofun⟩ λ x t y u q=>PyProof.Rows.ge_int q
 |In=>exact YR H o z e N
 |NotIn=>exact SE H o z (vG e) λ O=>by rw[Mc];exact N O
 |Is=>exact RE (P:=λ d c=>Aw W.M A (EQ .Is d c) Q E s) o (h ⟨nofun,nofun⟩) e (λ q=>wpAny_is_self rfl (q▸w)) λ v p n q=>wpAny_is_other p n (q▸w)
 |IsNot=>exact RE (P:=λ d c=>Aw W.M A (EQ .IsNot d c) Q E s) o (h ⟨nofun,nofun⟩) e (λ q=>wpAny_isNot_self rfl (q▸w)) λ v p n q=>wpAny_isNot_other p n (q▸w)
theorem VV {n:Nat}(h:n<=B2):(n:Int)<2^63:=DD (Fv.mpr h) (by decide)
theorem RpL.empty {b:List PV}{a:List Ae}(r:RpL W X h a b):a.isEmpty=b.isEmpty:=
 r.bt (P:=λ a b=>a.isEmpty=b.isEmpty) rfl λ _ _ _ _ _ _ _=>rfl
theorem R6 (h:Rp W X s.heap d a)(e:Pg a=Ab r){c:Bool->Aq->Prop}(k:∀o,c r {s with toks:=o}):Aw W.M A (truthy d) c E s:=by
 cases a with
 |bool b=>
  have q:=h.aj;exact q▸CB (AN e▸k s.toks)
 |int i=>obtain⟨t,rfl⟩:=h.aj;exact PyProof.Rows.truthy_int (AN e▸k s.toks)
 |list N=>
  obtain⟨a,w,n,rfl,z,_,z1,H⟩:=h.aj;have q:(!w.isEmpty)=r:=by
   rw[<-AN e,<-Array.isEmpty_toList];exact congrArg (!·) (H.empty)
  exact wpAny_truthy_list ⟨_,z,rfl,_,rfl⟩ (VV z1) (q▸k _)
 |_=>exact no e
theorem Xt (h:QW a=Ag):-9223372036854775808<=a/\a<9223372036854775808:=
 have q:=DG h;⟨of_decide_eq_true q.1,of_decide_eq_true q.2⟩
theorem QO {n:Nat}(h:GC a n=Ab j):(0<=a/\a.toNat=j/\j<n)\/(a<0/\-(n:Int)<=a/\(a+n).toNat=j/\j<n):=by
 unfold seqIndex? at h;by_cases z:a<0
 ·rw[if_pos z] at h;have q:=Ke h;simp only[AG,decide_eq_true_eq] at q;obtain⟨⟨k,o⟩,rfl⟩:=q;have s:=BE n;refine .inr ⟨z,Int.zero_sub n▸Int.sub_right_le_of_le_add k,rfl,?_⟩;exact BO.mp ((Dp k).symm▸o)
 ·rw[if_neg z] at h;have q:=Ke h;simp only[AG,decide_eq_true_eq] at q;obtain⟨⟨k,o⟩,rfl⟩:=q;exact .inl ⟨k,rfl,BO.mp ((Dp k).symm▸o)⟩
theorem ME {i:Nat}(h:i<n):GC (i:Int) n=Ab i:=by
 unfold seqIndex?;exact if_pos (by rw[decide_eq_true (BE i),decide_eq_true (BO.mpr h)];rfl)
theorem Xs {i:Nat}(h:i<B2):QW (i:Int)=Ag:=by
 unfold QW;have:(i:Int)<9223372036854775808:=Int.lt_trans (BO.mpr h) (by decide+kernel);rw(occs:=.all) [decide_eq_true this,decide_eq_true (Cx (by decide) (BE i))];rfl
theorem WK {b:List Ae}(e:aK c a=Ab d)(r:RpL W X h b c):(-9223372036854775808<=a/\a<9223372036854775808)/\∃j v,GC a b.length=Ab j/\b[j]? =Ab v/\Rp W X h v d:=
 have q:=IC e;have⟨j,k,o⟩:=AM.mp q.2;have⟨v,s,w⟩:=r.get o
 ⟨Xt q.1,j,v,r.length▸k,s,w⟩
theorem jW {j:Nat}{x:As}{c:Nat}(k:Ba x=Ag)(o:x.cps[j]? =Ab c):Ba ⟨#[c]⟩=Ag:=by
 have⟨h,q⟩:=C8.mp o;have:=Array.all_eq_true.mp k j h;rw[q] at this;simp only[Ba];simpa using this
theorem X5 {a:Array Ae}(w:s.heap.get? l=Ab (I3 a n))(V:a.size<=B2)(r:RpL W X s.heap a.toList c)(e:aK c b=Ab d)(z:∀v,Rp W X s.heap v d->Q v s):
 Aw W.M A (L0 (.ref l) (.int b u)) Q E s:=by
 obtain⟨f,j,v,H,h,N⟩:=WK e r;rw[Ip] at h;simp only[DP] at H;rcases QO H with⟨k,o,O⟩ |⟨k,o,O,Z⟩
 ·exact wpAny_getItem_list ⟨_,w,rfl,_,rfl⟩ k (Hv f.2 (by decide+kernel)) (o▸h) (z v N)
 ·exact wpAny_getItem_list_neg ⟨_,w,rfl,_,rfl⟩ k o (Cx (by decide+kernel) f.1) (O▸h) (z v N)
theorem jP {a:Array Ae}(o:s.heap.get? l=Ab (M1 a n))(r:RpL W X s.heap a.toList c)(e:aK c b=Ab d)(w:∀v,Rp W X s.heap v d->Q v s):
 Aw W.M A (L0 (.ref l) (.int b u)) Q E s:=by
 obtain⟨f,j,v,h,k,z⟩:=WK e r;rw[Ip] at k;simp only[DP] at h;exact PyProof.Rows.getItem_tuple ⟨_,o,rfl,_,rfl⟩ (Cx (by decide+kernel) f.1) (Hv f.2 (by decide+kernel)) h k (w v z)
theorem Vl (N:QE W X s.heap f a)(O:Rp W X s.heap b g)(e:EW a g=Ab d)(w k:Expr)(h:∀f b,subscripted k Av f b=operate [f,b] (L0 f b)):
 Dq W A (PyProof.Rows.subscriptTail w k f b) s (λ v m=>Rp W X m v d):=.of λ Q E V=>by
 have h:=h f b;have Z:∀v,Rp W X s.heap v d->Q v s:=λ v r=>V _ _ s.toks (.refl _) r;cases a with
 |list p=>
  obtain⟨l,rfl,B,n,o,z1,H⟩:=N.list;refine DL ⟨_,o,rfl⟩ slot_list_getitem.lookup ?_ h;exact Hk (P:=λ b=>Aw W.M A (L0 _ b) Q E s) O e λ y u e=>X5 o z1 H e Z
 |ba p=>
  obtain⟨l,B,n,rfl,o,L,z1,H⟩:=(N.elim id λ⟨_,_,q⟩=>q.elim).aj;refine DL ⟨_,o,rfl⟩ F.slot_tuple_getitem.lookup ?_ h;exact Hk (P:=λ b=>Aw W.M A (L0 _ b) Q E s) O e λ y u e=>jP o H e Z
 |str x=>
  obtain⟨t,rfl,C,z1⟩:=(N.elim id λ⟨_,_,q⟩=>q.elim).aj;refine DL (KV _ _ _) F.slot_str_getitem.lookup ?_ h;refine Hk (P:=λ b=>Aw W.M A (L0 _ b) Q E s) O e λ y u e=>?_;have q:=IC e;have i:=Xt q.1;obtain⟨c,hc,rfl⟩:=Bp.mp q.2;have⟨j,_,D⟩:=AM.mp hc;exact PyProof.Rows.getItem_str (Bool.or_eq_false_iff.mpr ⟨decide_eq_false (IP.mpr (Cx (by decide+kernel) i.1)),decide_eq_false (My.mpr (Hv i.2 (by decide+kernel)))⟩) hc (V _ _ _ (.refl _) (.str _ _ (jW C D) (by show 1<=B2;decide)))
 |dict M=>
  obtain⟨l,rfl,G,o,y,z,q,H⟩:=N.dict;refine DL (o.typeIs) slot_dict_getitem.lookup ?_ h;refine JG (P:=λ b=>Aw W.M A (L0 _ b) Q E s) O e λ g u _ _ e=>?_;obtain⟨v,I,J⟩:=(LL g q H).2 d e;exact wpAny_getItem_of Wp o.mapOf I (V _ _ _ (.refl _) J)
 |_=>exact no e
theorem TE (k:Ba x=Ag)(l u:Option Int):Ba (JT x l u)=Ag:=by
 unfold Txt.slice;split
 ·exact k
 ·unfold PyData.strOk at*;simp only[List.all_toArray,AR,List.mem_filterMap];rintro c ⟨i,_,o⟩;obtain⟨h,rfl⟩:=C8.mp o;exact Array.all_eq_true.mp k i h
theorem RpL.jv (r:RpL W X h a b):∀k:List Nat,RpL W X h (k.filterMap (a[·]?)) (k.filterMap (b[·]?)):=by
 intro k;induction k with
 |nil=>
  exact .nil
 |cons j k o=>
  rw[List.filterMap_cons,List.filterMap_cons];cases s:b[j]? with
  |none=>
   have:a[j]? =CD:=by
    rw[List.getElem?_eq_none_iff] at s ⊢;rw[r.length];exact s
   rw[this];exact o
  |some d=>
   obtain⟨v,w,z⟩:=r.get s;rw[w];exact .cons z (o)
theorem Ps {a:Array Ae}(r:RpL W X h a.toList b)(lo k st:Option Int):RpL W X h (slicePick a lo k st).toList (Mf b lo k st):=by
 simp only[slicePick,Mf];rw[<-r.length,<-DP];have:=r.jv (KW (Cd lo k st a.toList.length).1 (Cd lo k st a.toList.length).2.1 (Cd lo k st a.toList.length).2.2);simpa using this
theorem Nc {lo st:Option Int}(y:QE W X s.heap f a)(M:∀a∈X,∃o,s.heap.get? a=Ab o)(V:s.heap.IsSliceOf c m p r)(B:IsPart m lo)(Z:IsPart p b)(C:IsPart r st)
 (e:DV a lo b st=Ab d) (O h:Expr) (N:subscripted h Av f (.ref c)=operate g (L0 f (.ref c))):
 Dq W A (PyProof.Rows.subscriptTail O h f (.ref c)) s (λ v R=>Rp W X R v d):=.of λ Q E D=>by
 cases a with
 |list U=>
  have q:=Fp e;obtain⟨l,rfl,Y,n,G,z1,S⟩:=y.list;have I:=Ps S lo b st;refine DL ⟨_,G,rfl⟩ slot_list_getitem.lookup ?_ N;exact wpAny_getItem_list_slice ⟨_,G,rfl,_,rfl⟩ V B Z C q.1.1 (D _ _ _ (.push _ _) (.at q.2 (.list (AD _ rfl) (IK M) (by rw[<-DP,I.length];exact q.1.2) (I.ae (.push _ _))))) (Aa z1 FW)
 |str x=>
  have q:=Fp e;have z:=q.1;subst z;cases C;obtain⟨t,rfl,T,z1⟩:=(y.elim id λ⟨_,_,q⟩=>q.elim).aj;refine DL (KV _ _ _) F.slot_str_getitem.lookup ?_ N;have w:∀J k,Q (.str (JT x lo b) J) {s with toks:=k}:=λ J k=>D _ _ _ (.refl _) (.at q.2 (.str _ _ (TE T _ _) (Aa (Txt.slice_le x _ _) z1)));have H:(JT x lo b).length<=HH:=Aa (Txt.slice_le x _ _) (Aa z1 FW);cases B with
  |none=>cases Z with
   |none=>exact Ij (l:=Ah) (u:=Ah) (st:=Ah) V rfl (N4 ⟨H,w⟩)
   |int j u=>exact Ij (l:=Ah) (u:=Ab (j,u)) (st:=Ah) V rfl (N4 ⟨H,w⟩)
  |int i L=>cases Z with
   |none=>exact Ij (l:=Ab (i,L)) (u:=Ah) (st:=Ah) V rfl (N4 ⟨H,w⟩)
   |int j u=>exact Ij (l:=Ab (i,L)) (u:=Ab (j,u)) (st:=Ah) V rfl (N4 ⟨H,w⟩)
 |_=>exact no e
def EL (h:Eo):Prop:=h.cls=.type "list"\/h.cls=.type "tuple"\/h.cls=.type "dict"
variable {a c:Ai} in
inductive Lw (W:BV)(X:List Ai)(h:AT)(I:Ai)(xs:List PV):Prop
 |list {ax vs0 n0}:h.IsListIter I ax 0->h.get? ax=Ab (I3 vs0 n0)->ax∉X->vs0.size<=B2->RpL W X h vs0.toList xs->Lw W X h I xs
 |ba {ax vs0 n0}:h.IsTupleIter I ax 0->h.get? ax=Ab (M1 vs0 n0)->ax∉X->vs0.size<=B2->RpL W X h vs0.toList xs->Lw W X h I xs
 |range {a c:Int} {cn:Nat}:IsRangeIter h I a cn c->cn<=B2->xs=(Ap cn).map (λ(i:Nat)=>.int (a+(i:Int)*c))->Lw W X h I xs
variable {g:Array CC} in
inductive w4 (h:AT)(I:Ai):Prop
 |mk (o:Eo) (g:h.get? I=Ab o) (c1:o.cls≠.none) (c2:o.cls≠.type "code") (c3:o.cls≠.type "frame") (d:¬EL o)
variable {i:Nat} in
structure MX (W:BV)(A:Dj)(X:List Ai)(I:Ai)(xs:List PV)(St:Nat->AT->Prop):Prop where
 small:xs.length<=B2
 frame:∀i h h',St i h->(∀o,h.get? I=Ab o->h'.get? I=Ab o)->(∀b o,b∉X->h.get? b=Ab o->EL o->h'.get? b=Ab o)->St i h'
 cj:∀i h,St i h->w4 h I
 item:∀i(s:Aq)(Q:Option Ae->Aq->Prop)(E:Jc) x,St i s.heap->xs[i]? =Ab x->
  (∀v h' tk,Rp W X h' v x->St (i+1) h'->BC I s.heap h'->Q (Ab v) {s with heap:=h',toks:=tk})->Aw W.M A (pyNext (.ref I)) Q E s
 done:∀(s:Aq)(Q:Option Ae->Aq->Prop)(E:Jc),St xs.length s.heap->
  (∀h' tk,BC I s.heap h'->Q Ah {s with heap:=h',toks:=tk})->Aw W.M A (pyNext (.ref I)) Q E s
 self:∀i(s:Aq)(Q:Jc)(E:Jc),St i s.heap->Q (.ref I) s->Aw W.M A (pyIter (.ref I)) Q E s
 dn:∀i(s:Aq)(Q:Unit->Aq->Prop)(E:Jc) target v,St i s.heap->Q () s->Aw W.M A (letOwnedTupleGo target (.ref I) v) Q E s
section
set_option tactic.hygienic true in
theorem Lc {c:Unit->Aq->Prop}(w:s.heap.get? I=Ab o)(hc:o.cls=.type n)(z:o.data=.fields d)
 (k:["enumerate","zip","dict_itemiterator","dict_reverseitemiterator","odict_iterator","itertools.zip_longest","itertools.pairwise"].contains n=Av) (h:c () s):
 Aw W.M A (letOwnedTupleGo b (.ref I) v) c E s:=by
 have H:(["enumerate","zip","dict_itemiterator","dict_reverseitemiterator","odict_iterator","itertools.zip_longest","itertools.pairwise"].contains n&&d[0]? ==Ab (BS (match v with | .ref a=>a |_=>0)))=Av:=by rw[k];rfl
 cases b<;>(first |exact Ar h |skip)
 all_goals
  cases v<;>(first |exact Ar h |skip)
  rename_i a;refine Ac (wpAny_load w ?_);rw[hc,z];simp only[k,Bool.false_and,Bw,if_false];exact Ar h
theorem MX.seq {d:Array Ae}{S:Nat->AT->Prop}{P:AT->Prop}(O:I∈X)(n:f∉X)(B:d.size<=B2)(C:RpL W X h d.toList g)(V:Walks W.prog W.w A I [I,f] [I] d.size (λ i v=>d[i]? =Ab v) λ i h=>S i h/\P h)(hP:∀h,h.get? f=Ab ob->P h)(D:EL ob)
 (G:∀i h,S i h->∃o,h.get? I=Ab o/\∀w:AT,w.get? I=Ab o->S i w) (J:∀i h,S i h->w4 h I) (L:∀i(s:Aq)(Q:Unit->Aq->Prop)(E:Jc) k v,S i s.heap->Q () s->Aw W.M A (letOwnedTupleGo k (.ref I) v) Q E s):
 MX W A X I g λ i h=>S i h/\h.get? f=Ab ob/\RpL W X h d.toList g:=by
 have Z:f≠I:=λ q=>n (q▸O);have N:=C.length;simp at N;exact{
  small:=Aa (AB N.symm) B
  frame:=λ i h w st M p=>⟨by obtain⟨o,a,b⟩:=G i h st.1;exact b w (M o a),p _ _ n st.2.1 D,st.2.2.bi λ b o e t c=>⟨p b o t e c,t⟩⟩
  cj:=λ i h st=>J i h st.1
  item:=λ i s Q E x st y H=>by
   have R:i<d.size:=by rw[N];exact(Co.mp y).1
   refine V.item i s Q E R ⟨st.1,hP _ st.2.1⟩ λ v w j T l hk=>?_;have z:BC I s.heap w:=λ b o m e=>hk b o (by simpa using m) e;obtain⟨u,U,r⟩:=st.2.2.get y;have:u=v:=by
    have Y:d[i]? =Ab u:=by simpa using U
    obtain rfl:=A4 Y T;rfl
   subst this;exact H _ w j (r.ext z O) ⟨l.1,z _ _ Z st.2.1,st.2.2.ext z O⟩ z
  done:=λ s Q E st H=>by
   rw[<-N] at st;exact V.done s Q E ⟨st.1,hP _ st.2.1⟩ λ w j hk=>H w j λ b o m e=>hk b o (by simpa using m) e
  self:=λ i s Q E st H=>V.self i s Q E ⟨st.1,hP _ st.2.1⟩ H
  dn:=λ i s Q E k v st H=>L i s Q E k v st.1 H}
theorem MX.of (G:Lw W X h I d)(f:I∈X)(j:A.handled=Ah):∃St,St 0 h/\MX W A X I d St:=by
 cases G with
 |@list N l n O V z m Z=>
  exact⟨_,⟨O,V,Z⟩,MX.seq (S:=λ i h=>h.IsListIter I N i) f z m Z (.list (prog:=W.prog) (w:=W.w) (A:=A) j I N (λ q=>z (q▸f)) l) (λ h e=>⟨_,e,rfl,_,rfl⟩) (.inl rfl)
   (λ i h q=>by obtain⟨o,a,b⟩:=q;exact⟨o,a,λ H e=>⟨o,e,b⟩⟩) (λ i h q=>by obtain⟨o,a,b,c⟩:=q;exact⟨o,a,by rw[b];decide,by rw[b];decide,by rw[b];decide,by unfold EL;rw[b];decide⟩) λ i s Q E k v q w=>by obtain⟨o,a,b,c⟩:=q;exact Lc a b c rfl w⟩
 |@ba N l n O V z m Z=>
  exact⟨_,⟨O,V,Z⟩,MX.seq (S:=λ i h=>h.IsTupleIter I N i) f z m Z (.tuple (prog:=W.prog) (w:=W.w) (A:=A) j I N (λ q=>z (q▸f)) l) (λ h e=>⟨_,e,rfl,_,rfl⟩) (.inr (.inl rfl))
   (λ i h q=>by obtain⟨o,a,b⟩:=q;exact⟨o,a,λ H e=>⟨o,e,b⟩⟩) (λ i h q=>by obtain⟨o,a,b,c⟩:=q;exact⟨o,a,by rw[b];decide,by rw[b];decide,by rw[b];decide,by unfold EL;rw[b];decide⟩) λ i s Q E k v q w=>by obtain⟨o,a,b,c⟩:=q;exact Lc a b c rfl w⟩
 |@range a c n O V z=>
  have p:d.length=n:=by rw[z];simp
  refine⟨λ i h=>IsRangeIter h I (a+(i:Int)*c) ((n:Int)-i) c,by simpa using O,?_⟩;have r:=Walks.range (prog:=W.prog) (w:=W.w) (A:=A) j I a c n;exact{
   small:=Aa (AB p) V
   frame:=λ i h H st J R=>J _ st
   cj:=λ i h st=>⟨_,st,by simp,by simp,by simp,by simp only[EL];simp⟩
   item:=λ i s Q E x st g w=>by
    have D:i<n:=by rw[<-p];exact(Co.mp g).1
    refine r.item i s Q E D st λ v H u L y hk=>?_;have B:BC I s.heap H:=λ b o C e=>hk b o (by simpa using C) e;obtain⟨t,rfl⟩:=L;have M:x=.int (a+(i:Int)*c):=by
     rw[z] at g;simp[D] at g;exact g.symm
    subst M;exact w _ H u (.int _ _) y B
   done:=λ s Q E st w=>by
    rw[p] at st;exact r.done s Q E st λ H u hk=>w H u λ b o C e=>hk b o (by simpa using C) e
   self:=λ i s Q E st w=>r.self i s Q E st w
   dn:=λ i s Q E k v st w=>Lc st rfl rfl (rfl) w}
theorem Lw.ae (k:BB W h H)(N:Lw W X h I d):Lw W X H I d:=by
 cases N with
 |@list O Q n s w z A E=>exact .list (by obtain⟨o,a,b,c⟩:=s;exact⟨o,k.keep a (by rw[b];decide) (by rw[b];decide),b,c⟩) (k.keep w (by simp) (by simp)) z A (E.ae k)
 |@ba O Q n s w z A E=>exact .ba (by obtain⟨o,a,b,c⟩:=s;exact⟨o,k.keep a (by rw[b];decide) (by rw[b];decide),b,c⟩) (k.keep w (by simp) (by simp)) z A (E.ae k)
 |@range a c n s w z=>exact .range (k.keep s (by simp) (by simp)) w z
theorem Lw.be (A:h.get? a=Ah)(O:Lw W X h I b):Lw W (a::X) h I b:=by
 have N:∀{s:Ai}{o:Eo},h.get? s=Ab o->s∉X->s∉a::X:=λ e n q=>by
  rcases Ak.mp q with q |q
  ·subst q;exact Do A e
  ·exact n q
 cases O with
 |@list s Q n w k z E H=>exact .list w k (N k z) E (H.be A)
 |@ba s Q n w k z E H=>exact .ba w k (N k z) E (H.be A)
 |@range a c n w k z=>exact .range w k z
variable {a0:Ae} in
inductive tY (W:BV)(X:List Ai)(h:AT):Ae->List PV->Prop
 |list {v0 xs0}:Rp W X h v0 (.list xs0)->tY W X h v0 xs0
 |ba {v0 xs0}:Rp W X h v0 (.ba xs0)->tY W X h v0 xs0
 |range {r0 a0 b t0 u v0}:IsRange h r0 a0 b 1 t0 u v0->a0<=b->b-a0<=100000->-1000000<=a0->b<=1000000->tY W X h (.ref r0) ((Ap (b-a0).toNat).map (λ(i:Nat)=>.int (a0+(i:Int)*1)))
theorem Hg (j:tY W X s.heap v c)
 (H:∀I z,s.heap.get? I=Ah->(∃o,z.get? I=Ab o)->(∀b o,s.heap.get? b=Ab o->z.get? b=Ab o)->(I∉X->Lw W (I::X) z I c)->Q (.ref I) {s with heap:=z}):Aw W.M A (pyIter v) Q E s:=by
 have h:s.heap.get? s.heap.objs.size=Ah:=by
  cases e:s.heap.get? s.heap.objs.size with
  |none=>rfl
  |some o=>exact absurd (AU e) (EY _)
 cases j with
 |list r=>
  obtain⟨a,l,n,rfl,k,N,z1,O⟩:=r.aj;refine wpAny_pyIter_list ⟨_,k,rfl,_,rfl⟩ (H _ _ h ⟨_,AD _ rfl⟩ (λ b o e=>AI _ e) λ Z=>?_);refine .list ⟨_,AD _ rfl,rfl,rfl⟩ (AI _ k) (λ q=>?_) z1 ((O.be h).ae (.push _ _));rcases Ak.mp q with q |q
  ·subst q;exact Do h k
  ·exact N q
 |ba r=>
  obtain⟨a,l,n,rfl,k,N,z1,O⟩:=r.aj;refine wpAny_pyIter_tuple ⟨_,k,rfl,_,rfl⟩ (H _ _ h ⟨_,AD _ rfl⟩ (λ b o e=>AI _ e) λ Z=>?_);refine .ba ⟨_,AD _ rfl,rfl,rfl⟩ (AI _ k) (λ q=>?_) z1 ((O.be h).ae (.push _ _));rcases Ak.mp q with q |q
  ·subst q;exact Do h k
  ·exact N q
 |@range r a b t u v m w d f V=>
  have g:Builtin.Range.rangeSize a b 1=((b-a).toNat:Int):=by
   unfold Builtin.Range.rangeSize;simp only[show(1:Int)>0 by decide,if_true,Int.ediv_one];split
   ·rename_i q;rw[Int.sub_add_cancel,Dp (I7 w)]
   ·rename_i q;rw[Int.le_antisymm w (IP.mp q),Int.sub_self];rfl
  refine wpAny_pyIter_range m (by
   unfold Builtin.Range.small;rw[g,Dp (I7 w)];simp only[Builtin.Range.rangeFitsLong,AG,CW,decide_eq_true_eq,show(1:Int)>0 by decide,if_true];have i:=Cx f w;refine⟨⟨⟨⟨⟨Cx (by decide) f,DD (Cx w V) (by decide)⟩,Cx (by decide) i,DD V (by decide)⟩,by decide⟩,Cx (by decide) (I7 w),DD d (by decide)⟩,.inr ?_⟩;rw[show(1:Int)-1=0 from rfl,Mz];exact⟨Cx (by decide) i,DD V (by decide)⟩) (H _ _ h ⟨_,AD _ rfl⟩ (λ b o e=>AI _ e) λ Z=>?_)
  refine .range ?_ (Int.toNat_le.mpr (Cx d (by decide))) rfl;rw[g];exact AD _ rfl
end
def A3 (h:Bg)(x:As):Bool:=D5 x&&(h.names.lookup x==Ab .local||h.names.lookup x==Ab .cell)
variable {es:List (As×PV)}{ks:List As}{p:Evs} in
structure EV where
 es:List Expr:=[]
 gs:List FR:=[]
 ks:List Keyword:=[]
 sc:Bg:=default
 ar:Ea:=default
 p:CE:=default
 k:Nat:=0
 nm:As:=""
variable {a c f:Ai}{d:List PV}{e:List Ae}{es:List (As×PV)}{ks:List As}{p:Evs} in
def JE:Expr->EV
 | .BoolOp _ d p=>{es:=d,p}
 | .NamedExpr a b p=>{es:=[a,b],p}
 | .BinOp a _ b p=>{es:=[a,b],p}
 | .UnaryOp _ a p=>{es:=[a],p}
 | .Lambda ar b sc p=>{es:=[b],ar,sc,p}
 | .IfExp a b c p=>{es:=[a,b,c],p}
 | .Dict ks e p=>{es:=ks.filterMap id++e,p}
 | .Set d k p=>{es:=d,p,k}
 | .ListComp a gs sc p=>{es:=[a],gs,sc,p}
 | .SetComp a gs sc p=>{es:=[a],gs,sc,p}
 | .DictComp a b gs sc p=>{es:=[a,b],gs,sc,p}
 | .GeneratorExp a gs sc p=>{es:=[a],gs,sc,p}
 | .Await a p=>{es:=[a],p}
 | .Yield o p=>{es:=o.toList,p}
 | .YieldFrom a p=>{es:=[a],p}
 | .Compare a _ h p=>{es:=a::h,p}
 | .Call f d ks p=>{es:=f::d,ks,p}
 | .FormattedValue a _ o p=>{es:=a::o.toList,p}
 | .JoinedStr d p=>{es:=d,p}
 | .Constant _ k p=>{p,k}
 | .Attribute a _ p=>{es:=[a],p}
 | .Subscript a b p=>{es:=[a,b],p}
 | .Starred a p=>{es:=[a],p}
 | .Name nm p=>{p,nm}
 | .List d p=>{es:=d,p}
 | .Tuple d k p=>{es:=d,p,k}
 | .Slice a b c p=>{es:=a.toList++b.toList++c.toList,p}
variable {es:List (As×PV)}{p:Evs} in
inductive A! where
 |name (x:As) (p:CE)
 |ba (es:List Expr) (k:Nat) (p:CE)
 |no
def pA (e:Expr):A! :=if e.ctorIdx==23 then .name (JE e).nm (JE e).p else if e.ctorIdx==25 then .ba (JE e).es (JE e).k (JE e).p else .no
variable {a:List (As×PV)}{p:Evs} in
def A!.is (e:Expr):A!->Prop
 | .name x p=>e=.Name x p
 | .ba a k p=>e=.Tuple a k p
 | .no=>True
theorem Vf (e:Expr):(pA e).is e:=by cases e<;>first |exact rfl |exact trivial
variable {a:List PV} in
def qH:PV->Option (List PV)
 | .ba a=>Ab a
 |_=>Ah
theorem Tu (h:qH d=Ab a):d=.ba a:=by
 cases d with
 |ba k=>cases h;rfl
 |_=>contradiction
def rR (e:Expr):Option As:=match pA e with
 | .name x _=>Ab x
 |_=>Ah
variable {a:List PV}{b:List (As×PV)} in
def FO (h:Bg):List Expr->List PV->A5->Option A5
 |[],a,O=>match a with
  |[]=>Ab O
  |_::_=>Ah
 |e::b,a,O=>match a with
  |[]=>Ah
  |d::a=>(rR e).bind λ x=>if A3 h x then FO h b a ((x,.aa d)::O) else Ah
theorem kX (h:rR e=Ab x):∃p,e=.Name x p:=by
 unfold rR at h;have k:=Vf e;generalize pA e=t at h k;cases t with
 |name y p=>cases h;exact⟨p,k⟩
 |_=>contradiction
variable {a:List (As×PV)} in
def Hl (h:Bg)(t:Expr)(d:PV)(k:A5):Option A5:=match pA t with
 | .name x _=>if A3 h x then Ab ((x,.aa d)::k) else Ah
 | .ba a _ _=>(qH d).bind λ o=>FO h a o k
 | .no=>Ah
theorem Xf {d:Type}{a b:d}(h:(if c=Ag then Ab a else Ah)=Ab b):c=Ag/\a=b:=by
 cases c with
 |true=>exact⟨rfl,AN h⟩
 |false=>exact absurd h.symm (Option.some_ne_none _)
theorem RU (e:Hl V t d O=Ab a):(∃x p,t=.Name x p/\A3 V x=Ag/\(x,.aa d)::O=a)\/∃h k p o,t=.Tuple h k p/\d=.ba o/\FO V h o O=Ab a:=by
 unfold Hl at e;have k:=Vf t;generalize pA t=v at e k;cases v with
 |name x p=>exact .inl ⟨x,p,k,Xf e⟩
 |ba h n p=>obtain⟨o,s,e⟩:=AM.mp e;exact .inr ⟨h,n,p,o,k,Tu s,e⟩
 |no=>contradiction
theorem Ju (e:FO V (c::f) a O=Ab b):∃d h x p,a=d::h/\c=.Name x p/\A3 V x=Ag/\FO V f h ((x,.aa d)::O)=Ab b:=by
 cases a with
 |nil=>contradiction
 |cons d h=>
  obtain⟨x,q,e⟩:=AM.mp (e);obtain⟨p,o⟩:=kX q;have k:=IC e;exact⟨d,h,x,p,rfl,o,k.1,k.2⟩
theorem Fw (h:A3 V x=Ag):D5 x=Ag/\(V.names.lookup x=Ab .local\/V.names.lookup x=Ab .cell):=by
 unfold A3 at h;simp only[AG,CW] at h;exact⟨h.1,h.2.imp (λ q=>by simpa using q) (λ q=>by simpa using q)⟩
theorem OF (F:FI W V z Z X s.heap O)(o:A3 V x=Ag)(r:Rp W X s.heap v d){a:Unit->Aq->Prop}
 (w:∀h k,FI W V z Z X h ((x,.aa d)::O)->Ls W (Ec V z) s.heap h->a () {s with heap:=h,toks:=k}):Aw W.M A (NV (.Name x b) z v) a E s:=
 II (F.cw (sl:=.aa d) (Fw o).2 (Fw o).1 r (λ _ q=>(by contradiction)) λ h k f c _=>w h k f c)
theorem OQ:∀(w:List Expr)(k:List PV)(o:List Ae)(H:A5)(s:Aq)(Q:Unit->Aq->Prop),FI W V z Z X s.heap H->FO V w k H=Ab b->RpL W X s.heap o k->
 (∀N j,FI W V z Z X N b->Ls W (Ec V z) s.heap N->Q () {s with heap:=N,toks:=j})->Aw W.M A (assignInOrder (List.map (λ x=>x.2) (Jk w z)) o) Q E s:=by
 intro w;induction w with
 |nil=>
  intro k o H s Q F e r h;cases k with
  |nil=>
   cases r;cases e
   exact wpAny_assignInOrder_none (h s.heap s.toks F .refl)
  |cons _ _=>contradiction
 |cons u w l=>
  intro k o H s Q F e r h;obtain⟨d,k,x,m,rfl,rfl,O,e⟩:=Ju e;obtain⟨v,o,rfl,r,n⟩:=r.aj;refine wpAny_assignInOrder_more (OF F O r λ N j f c=>?_);exact l k o _ _ Q f e (n.bj (λ a p=>F.br p) c) λ g i q t=>h g i q (c.trans t)
theorem OR:∀(k:List Expr)(h:List PV)(o:A5),FO V k h o=Ab a->(Jk k z).length=h.length/\Wy (λ x=>x.1) (Jk k z)=Ah:=by
 intro k;induction k with
 |nil=>
  intro h o e;cases h with
  |nil=>exact⟨rfl,rfl⟩
  |cons _ _=>contradiction
 |cons H k w=>
  intro h o e;obtain⟨d,h,x,A,rfl,rfl,E,e⟩:=Ju e;have s:=w h _ e;exact⟨congrArg (·+1) s.1,by rw[List.findIdx?_cons,s.2];rfl⟩
theorem NI (F:FI W V z Z X s.heap O)(y:A.handled=Ah)(e:Hl V t d O=Ab g)(r:Rp W X s.heap v d){i:Unit->Aq->Prop}
 (Q:∀h w,FI W V z Z X h g->Ls W (Ec V z) s.heap h->i () {s with heap:=h,toks:=w}):Aw W.M A (NV t z v) i E s:=by
 rcases RU e with⟨x,p,rfl,H,rfl⟩ |⟨j,_,_,l,rfl,rfl,e⟩
 ·exact OF F H r Q
 ·obtain⟨B,C⟩:=OR (z:=z) j l O e;obtain⟨a,D,n,rfl,G,I,z1,m⟩:=r.aj;have u:=m.length;simp only[DP] at u;refine wpAny_assign_Tuple y ⟨_,G,rfl,_,rfl⟩ (B.trans u.symm) C λ h H=>?_;have k:∀b o,s.heap.get? b=Ab o->h.get? b=Ab o:=λ b o q=>H b o (Cu (AU q)) q;exact OQ j l D.toList O _ i (F.ae (.af k)) e (m.ae (.af k)) λ N w f c=>Q N w f ((Ls.af k).trans c)
variable {a:List (As×PV)} in
def FS (t:Expr):List As:=match pA t with
 | .name x _=>[x]
 | .ba a _ _=>a.filterMap rR
 | .no=>[]
theorem Qt:∀(o:List Expr)(k:List PV)(w:A5),FO V o k w=Ab a->∀y s,y∉o.filterMap rR->w.lookup y=Ab s->a.lookup y=Ab s:=by
 intro o;induction o with
 |nil=>
  intro k w e y s _ h;cases k with
  |nil=>cases e;exact h
  |cons _ _=>contradiction
 |cons N o A=>
  intro k w e y s z h;obtain⟨d,k,x,E,rfl,rfl,H,e⟩:=Ju e;have z:=z;exact A k _ e y s (λ q=>z (Af _ q)) ((AK λ q:y=x=>z (q▸Ad)).trans h)
theorem Wo (e:Hl V t d O=Ab a)(s:(FS t).all (λ x=>(O.lookup x).isNone)=Ag):∀y k,O.lookup y=Ab k->a.lookup y=Ab k:=by
 intro y k h;have o:y∉FS t:=λ q=>by
  have:=AR.mp s y q;rw[h] at this;simp at this
 rcases RU e with⟨x,p,rfl,w,rfl⟩ |⟨z,_,_,A,rfl,rfl,e⟩
 ·exact(AK λ q=>o (Cf.mpr q)).trans h
 ·exact Qt _ _ _ e y k o h
structure Gd (W:BV)(s:Aq):Prop where
 ao:BB W W.h0 s.heap
 dl:W.di s.heap
 toks:1<=s.toks
theorem Gd.step (G:Gd W s)(h:BB W s.heap H)(k:s.toks<=tk):Gd W {s with heap:=H,toks:=tk}:=⟨G.ao.trans h,h.2 G.dl,Aa G.toks k⟩
theorem FI.bp (F:FI W V z (I::Z) (I::X) h O)(k:BC I h H)(w:I∉AW z)(f:I∉X)(A:∀a∈Z,a∈X):FI W V z Z X H O:=
 have N:∀v d,Rp W (I::X) h v d->Rp W X H v d:=λ _ _ r=>r.bi λ b o e n _=>⟨k b o (λ q=>n (q▸Ad)) e,λ q=>n (Af _ q)⟩
 F.same (λ a Q=>(Ak.mp (F.bb a Q)).resolve_left (λ q=>w (q▸Q))) A (λ _ n=>n.extBut k λ q=>w (q▸Ad)) (λ _ _ _ e=>UJ k λ q=>w (q▸Di e))
   (λ _ _ _ _ r=>r.to N λ a _ m c o=>have s:a≠I:=λ q=>c (q▸Ad)
    ⟨(Ak.mp m).resolve_left s,λ q=>c (Af _ q),o.map (λ _ e _=>k _ _ s e) λ _ _ r=>r.map N⟩)
   λ b E=>⟨(F.alive b (Af _ E)).1,by
    obtain⟨o,g⟩:=(F.alive b (Af _ E)).2;exact⟨o,k b o (λ q=>f (q▸E)) g⟩⟩
def VW (e:Expr)(s:DJ Unit)(w:List FR)(h:Nat)(z:Ae)(k:E9)(K:DJ Ix):DJ Ix:=
 match w[h+1]? with
 |some o=>do
  let x <-eval o.iter k
  X9 o.iter.pos
  if o.is_async !=0 then do
   let x <-foldedIterable o.iter x
   let _ <-runOwn (.compStart e (h+1) (<-pU [x] (if o.is_async !=0 then asyncIter x else pyIter x)) z k) k
   K
  else do
   let x <-foldedSetIterable o.iter k x
   let _ <-runOwn (.compStart e (h+1) (<-pU [x] (if o.is_async !=0 then asyncIter x else pyIter x)) z k) k
   K
 |none=>do
  s
  K
variable {v:Ae} in
structure OI (e:Expr)(gens:List FR)(emit:Ae->E9->DJ Unit):Prop where
 dc:clausesOf e=gens
 loop:∀depth it ck ah,(Code.compLoop e depth it ck ah).isFrame=Av
 start:∀depth it ck ah,(Code.compStart e depth it ck ah).isFrame=Av
 fi:∀(A:Dj) depth it ck ah,A.under (.compLoop e depth it ck ah)=A
 fh:∀(A:Dj) depth it ck ah,A.under (.compStart e depth it ck ah)=A
 cu:∀depth it ck ah target iter ifs,gens[depth]? =Ab ⟨target,iter,ifs,0⟩->compTurn e depth it ck ah=(do
  X9 iter.pos
  match <-pyNext it with
  |none=>pure (.done .next)
  |some v=>
   letOwnedTupleGo target it v
   NV target ah v
   let ok <-(forIn ifs Ag λ c r=>if r=Ag then do let ok <-isTrue c ah (eval c ah);pure (E6 ok) else pure (E6 r))
   if ok=Ag then VW e (emit ck ah) gens depth ck ah (again (.compLoop e depth it ck ah))
   else again (.compLoop e depth it ck ah))
def ND (h:Expr)(k:Ae)(o:E9):DJ Unit:=do let _ <-call (.builtin "list.append") [k,<-eval h o]
def Ln (s v:Expr)(k:Ae)(h:E9):DJ Unit:=do
 let o <-eval s h
 let w <-pU [o] (eval v h)
 match k with
 | .ref d=>do
   X9 {s.pos with endLine:=v.pos.endLine,endCol:=v.pos.endCol}
   pU [o,w] (dictSet d o w)
 |_=>unsupported "internal:dictcomp"
theorem GV (o:Expr)(h:List FR)(k:Bg)(w:CE):OI (.ListComp o h k w) h (ND o) where
 dc:=rfl
 loop:=λ _ _ _ _=>rfl
 start:=λ _ _ _ _=>rfl
 fi:=λ _ _ _ _ _=>rfl
 fh:=λ _ _ _ _ _=>rfl
 cu:=λ z O A E s iter H N=>by
  unfold compTurn;simp only[N];rfl
theorem Km (z v:Expr)(h:List FR)(k:Bg)(s:CE):OI (.DictComp z v h k s) h (Ln z v) where
 dc:=rfl
 loop:=λ _ _ _ _=>rfl
 start:=λ _ _ _ _=>rfl
 fi:=λ _ _ _ _ _=>rfl
 fh:=λ _ _ _ _ _=>rfl
 cu:=λ w O A E o iter H N=>by
  unfold compTurn;simp only[N];rfl
theorem EL.cls (h:EL o):o.cls≠.type "frame"/\o.cls≠.none:=by rcases h with h |h |h<;>rw[h]<;>exact⟨by decide,nofun⟩
structure ZK {β:Type}(D:Ai)(Acc:List Ai->AT->List β->Prop):Prop where
 bi:∀{X Y:List Ai}{h h':AT}{l:List β},Acc X h l->(∀b o,h.get? b=Ab o->b∉X->(o.cls≠.type "frame"/\o.cls≠.none)->h'.get? b=Ab o/\b∉Y)->(∀o,h.get? D=Ab o->h'.get? D=Ab o)->Acc Y h' l
 obj:∀{X:List Ai}{h:AT}{l:List β},Acc X h l->∃o,h.get? D=Ab o/\EL o
theorem Mm {R:Ex->Aq->Prop}{f:Ae->E9->DJ Unit}(E:OI e c f)(O:c[a]? =Ab g)(Q:g.is_async=0)
 (N:Es W.M A (.compLoop e a d b z) R s)
 (V:Aw W.M A (pyIter d) (λ h w=>Es W.M A (.compLoop e a h b z) R w) (notedBy W.M A z λ x w=>R (.error x) w) s):
 Es W.M A (.compStart e a d b z) R s:=by
 have k:(clausesOf e)[a]? =Ab g:=by rw[E.dc];exact O
 have H:((clausesOf e)[a]?.elim Av λ x=>x.is_async !=0)=Av:=by
  rw[k];simp[Q]
 refine codeAny_of_tree ?_;have o:(W.M.den (.compStart e a d b z))=((compStart e a d b z).onRaise (λ x=>do U3 x z;X9 theWindowsPlace)):=by
  show(if(Code.compStart e a d b z).isFrame=Ag then _ else _)=_;rw[(E.start a d b z)];rfl
 rw[o,(E.fh A a d b z)];refine wpAny_notedAt ?_;unfold compStart;rw[H,k];simp only[Bw,if_false];refine Ac (wpAny_askSetting ?_);refine KD ?_;split
 ·first
   |exact Ac (Ar (Ar (And.intro rfl N)))
   |exact Ar (And.intro rfl N)
 ·exact Ac (NP (Ac (A0 (Ac (DK V (λ h w Z=>Ar (And.intro rfl Z)) λ _ _ x=>x)))))
theorem R9 {a:Type}{l:List (List a)}{r:List a}(h:l[i]? =Ab r):(l.take (i+1)).flatten=(l.take i).flatten++r:=by
 rw[List.take_add_one,h];simp
theorem OO {a:Type}(l:List (List a))(i:Nat):((l.take i).flatten).length<=l.flatten.length:=by
 have:l.flatten=(l.take i).flatten++(l.drop i).flatten:=by rw[<-List.flatten_append,E7]
 rw[this,AQ];exact AS (BR (List.flatten (List.take i l))) (BR (List.flatten (List.drop i l)))
theorem Oa (h:Dj):h.mark Ah=h:=rfl
def F2 (P:Ai->Prop)(h k:AT):Prop:=∀b o,¬P b->h.get? b=Ab o->o.cls≠.type "frame"->o.cls≠.none->k.get? b=Ab o
theorem F2.trans {P:Ai->Prop}(a:F2 P h H)(b:F2 P H d):F2 P h d:=λ c o hc e k s=>b c o hc (a c o hc e k s) k s
theorem F2.weak {P b:Ai->Prop}(k:∀a,P a->b a)(a:F2 P h H):F2 b h H:=λ c o hc e s w=>a c o (λ q=>hc (k c q)) e s w
theorem BB.bz {P:Ai->Prop}(k:BB W h H):F2 P h H:=λ _ _ _ e o s=>k.keep e o s
theorem Ls.bz {P:Ai->Prop}(k:Ls W P h H):F2 P h H:=λ b o s e _ _=>k.keep b o s e
theorem F2.refl {P:Ai->Prop}:F2 P h h:=λ _ _ _ e _ _=>e
theorem Kq (o:s.heap.get? D=Ab (I3 a n))(w:a.size<=B2)
 (z:∀h k,h.get? D=Ab (I3 (a.push v) k)->BM D s.heap h->Q .none {s with heap:=h}):Aw W.M A (call (.builtin "list.append") [.ref D,v]) Q E s:=by
 have O:=FW;refine wpAny_list_append_plain ⟨n,o⟩ (λ h H N=>?_) (Aa w (by decide));obtain⟨k,e⟩:=H;exact z h k e N
def Br (h:Bg)(k:A5):A5:=k.filter λ p=>h.names.lookup p.1==Ab .free
def Ei (k h:Bg):Bool:=
 h.kind== .function&&decide ((h.names.map (·.1)).Nodup)&&h.names.all λ p=>p.2 != .free||(k.names.lookup p.1==Ab .cell||k.names.lookup p.1==Ab .free)
theorem Ga (h:Bg)(x:As):∀(k:A5),(Br h k).lookup x=if h.names.lookup x=Ab .free then k.lookup x else Ah:=by
 intro k;unfold Br;induction k with
 |nil=>simp
 |cons p k s=>
  rw[FN];by_cases o:h.names.lookup p.1=Ab .free
  ·simp only[o,beq_self_eq_true,if_true];by_cases q:x=p.1
   ·subst q;rw[AF,AF,if_pos o]
   ·rw[AK q,AK q];exact s
  ·have:(h.names.lookup p.1==Ab .free)=Av:=by simpa using o
   simp only[this,Bw,if_false];by_cases q:x=p.1
   ·subst q;rw[s,if_neg o,if_neg o]
   ·rw[AK q];exact s
variable {r:List Bs} in
def GX (o:E9):List (As×GA)->List (As×Ai)->List (As×Ai)
 |[],h=>h
 |(x,k)::r,h=>if k== .free then GX o r ((x,(o.cells.lookup x).getD 0)::h) else GX o r h
theorem Mp (w:∀p∈a.names,p.2=.free->(z.cells.lookup p.1).isSome=Ag):ZQ a z=pure (GX z a.names []):=by
 unfold closureFor;have E:∀h o,(∀p∈h,p.2=.free->(z.cells.lookup p.1).isSome=Ag)->
  (forIn h o λ x A=>match x with
   |(name,s)=>if(s==Fh)=Ag then do
    let c <-cellOf z name
    pure (E6 ((name,c)::A))
    else pure (E6 A))=(pure (GX z h o):DJ (List (As×Ai))):=by
  intro h;induction h with
  |nil=>intro o _;rfl
  |cons p r H=>
   intro o w;obtain⟨x,k⟩:=p;rw[EG];have N:∀p∈r,p.2=.free->(z.cells.lookup p.1).isSome=Ag:=λ p O=>w p (Af _ O);simp only[GX];by_cases hk:k=.free
   ·subst hk;obtain⟨c,hc⟩:=G9.mp (w (x,.free) Ad rfl);simp only[beq_self_eq_true,if_true];have e:cellOf z x=pure c:=by unfold cellOf;rw[hc]
    rw[e,hc];exact H _ N
   ·have:(k==Fh)=Av:=by simpa using hk
    simp only[this,Bw,if_false];exact H _ N
 have:=E a.names [] w;show(forIn a.names [] _ >>=λ A=>pure A)=_;rw[this];rfl
theorem Lp (x:As):∀(o:List (As×GA))(s:List (As×Ai)),(o.map (·.1)).Nodup->(∀p∈o,p.2=.free->(z.cells.lookup p.1).isSome=Ag)->
 (GX z o s).lookup x=if o.lookup x=Ab .free then z.cells.lookup x else s.lookup x:=by
 intro o;induction o with
 |nil=>intro s _ _;rfl
 |cons p r A=>
  intro s w h;obtain⟨y,k⟩:=p;rw[Bl,BA] at w;have E:∀p∈r,p.2=.free->(z.cells.lookup p.1).isSome=Ag:=λ p O=>h p (Af _ O);have N:∀H,r.lookup y=Ab H->False:=λ H e=>w.1 (AH.mpr ⟨(y,H),mem_of_lookup e,rfl⟩);simp only[GX];by_cases q:x=y
  ·subst q;rw[AF];by_cases hk:k=.free
   ·subst hk;obtain⟨c,hc⟩:=G9.mp (h (x,.free) Ad rfl);rw[A _ w.2 E,if_neg (λ e=>N _ e),AF,hc];rfl
   ·have:(k==Fh)=Av:=by simpa using hk
    simp only[this,Bw,if_false];rw[A _ w.2 E,if_neg (λ e=>N _ e),if_neg (λ e=>hk (by injection e))]
  ·rw[AK q];split
   ·rw[A _ w.2 E,AK q]
   ·rw[A _ w.2 E]
theorem Ds (x:As):∀(h:List (As×GA))(n:Nat)(o:List (As×Ai)),(h.map (·.1)).Nodup->
 (h.lookup x≠Ab .cell->(CF n h o).lookup x=o.lookup x)/\(h.lookup x=Ab .cell->∃c,(CF n h o).lookup x=Ab c/\n<=c):=by
 intro h;induction h with
 |nil=>intro n o _;exact⟨λ _=>rfl,λ e=>by contradiction⟩
 |cons p r w=>
  intro n o s;obtain⟨y,k⟩:=p;rw[Bl,BA] at s;have A:∀z,r.lookup y=Ab z->False:=λ z e=>s.1 (AH.mpr ⟨(y,z),mem_of_lookup e,rfl⟩);simp only[CF];by_cases q:x=y
  ·subst q;rw[AF];by_cases hk:k=.cell
   ·subst hk;refine⟨λ e=>absurd rfl e,λ _=>?_⟩;rw[(w (n+1) ((x,n)::o) s.2).1 (λ e=>A _ e),AF];exact⟨n,rfl,An _⟩
   ·have:(k==Cp)=Av:=by simpa using hk
    simp only[this,Bw,if_false];exact⟨λ _=>(w n o s.2).1 (λ e=>A _ e),λ e=>absurd (by injection e) hk⟩
  ·rw[AK q];split
   ·have E:=w (n+1) ((y,n)::o) s.2;exact⟨λ e=>by rw[E.1 e,AK q],λ e=>by obtain⟨c,a,b⟩:=E.2 e;exact⟨c,a,by exact AY ‹_›⟩⟩
   ·exact w n o s.2
theorem QZ:∀(o:List (As×GA))(h:AT)(s:List (As×Ai)),(∀p∈s,p.2<h.objs.size)->
 (∀p∈CF h.objs.size o s,p∈s\/(h.objs.size<=p.2/\(U1 h o).IsCell p.2 Ah))/\(∀p∈CF h.objs.size o s,p.2<(U1 h o).objs.size):=by
 intro o;induction o with
 |nil=>intro h s z;exact⟨λ p w=>.inl w,z⟩
 |cons p r E=>
  intro h s z;obtain⟨y,k⟩:=p;simp only[CF,U1];split
  ·have A:(h.push {cls:=.type "cell",data:=.cell Ah}).objs.size=h.objs.size+1:=CV ..;obtain⟨H,N⟩:=E (h.push {cls:=.type "cell",data:=.cell Ah}) ((y,h.objs.size)::s) (λ p w=>by
    rcases Ak.mp w with q |q
    ·subst q;rw[A];exact CK _
    ·rw[A];exact Gu (z p q))
   rw[A] at H N;refine⟨λ p w=>?_,N⟩;rcases H p w with q |⟨Q,O⟩
   ·rcases Ak.mp q with q |q
    ·subst q;exact .inr ⟨An _,⟨_,Ed _ _ _ _ (AD _ rfl),rfl⟩⟩
    ·exact .inl q
   ·exact .inr ⟨by exact AY ‹_›,O⟩
  ·exact E h s z
theorem Rp.ay (k:∀a∈Y,h.get? a=CD)(r:Rp W X h v d):Rp W (Y++X) h v d:=
 r.bi λ b _ e n _=>⟨e,λ q=>by
  rcases AL.mp q with q |q
  ·rw[k b q] at e;cases e
  ·exact n q⟩
theorem RpL.ay (k:∀a∈Y,h.get? a=CD)(r:RpL W X h c d):RpL W (Y++X) h c d:=
 r.bi λ b _ e n _=>⟨e,λ q=>by
  rcases AL.mp q with q |q
  ·rw[k b q] at e;contradiction
  ·exact n q⟩
theorem BX.ay (k:∀a∈Y,h.get? a=CD)(r:BX W X h a d):BX W (Y++X) h a d:=r.map (λ _ e _=>e) λ _ _=>RpL.ay k
theorem BU.ay (k:∀a∈Y,h.get? a=CD)(r:BU W Z X h v b):BU W (Y++Z) (Y++X) h v b:=
 r.to (λ _ _=>Rp.ay k) λ a _ m z o=>⟨AV _ m,λ q=>(AL.mp q).elim (λ q=>by obtain⟨x,s⟩:=o.alive;rw[k a q] at s;contradiction) z,o.ay k⟩
theorem Hf:∀{h:List (As×GA)},
 (h.lookup x=Ab .local->(h.map λ y=>match y with |(n,k)=>if(k==Fh&&z.scope.kind==FC&&z.kindOf n==Ab Cp)=Ag then(n,Cp) else(n,k)).lookup x=Ab .local)/\
 (h.lookup x=Ab .cell->(h.map λ y=>match y with |(n,k)=>if(k==Fh&&z.scope.kind==FC&&z.kindOf n==Ab Cp)=Ag then(n,Cp) else(n,k)).lookup x=Ab .cell)/\
 (h.lookup x=Ab .globalImplicit->(h.map λ y=>match y with |(n,k)=>if(k==Fh&&z.scope.kind==FC&&z.kindOf n==Ab Cp)=Ag then(n,Cp) else(n,k)).lookup x=Ab .globalImplicit)/\
 (h.lookup x=Ab .free->(h.map λ y=>match y with |(n,k)=>if(k==Fh&&z.scope.kind==FC&&z.kindOf n==Ab Cp)=Ag then(n,Cp) else(n,k)).lookup x=Ab .free\/
   (h.map λ y=>match y with |(n,k)=>if(k==Fh&&z.scope.kind==FC&&z.kindOf n==Ab Cp)=Ag then(n,Cp) else(n,k)).lookup x=Ab .cell):=by
 intro h;induction h with
 |nil=>simp
 |cons p r s=>
  obtain⟨y,k⟩:=p;rw[Bl];by_cases q:x=y
  ·subst q;simp only[AF,Option.some.injEq];split
   ·rename_i hc;simp only[AG,beq_iff_eq] at hc;refine⟨λ e=>?_,λ e=>?_,λ e=>?_,λ e=>.inr AF⟩<;>(rw[hc.1.1] at e;contradiction)
   ·refine⟨λ e=>?_,λ e=>?_,λ e=>?_,λ e=>.inl ?_⟩<;>(subst e;exact AF)
  ·rw[AK q];have e:∀o,C9 x ((match(y,k) with |(n,k)=>if(k==Fh&&z.scope.kind==FC&&z.kindOf n==Ab Cp)=Ag then(n,Cp) else(n,k))::o)=C9 x o:=by
    intro o;dsimp only;split<;>exact AK q
   rw[e];exact s
def LP:Eo:={cls:=.type "dict",data:=.dict #[]}
theorem UI:∀(o:List (As×GA))(s:List (As×Ai)),(∀p∈o,p.2=.free->(z.cells.lookup p.1).isSome=Ag)->(∀p∈s,z.cells.lookup p.1=Ab p.2)->∀p∈GX z o s,z.cells.lookup p.1=Ab p.2:=by
 intro o;induction o with
 |nil=>intro s _ h;exact h
 |cons p r A=>
  intro s E h;obtain⟨y,k⟩:=p;have H:∀p∈r,p.2=.free->(z.cells.lookup p.1).isSome=Ag:=λ p w=>E p (Af _ w);simp only[GX];split
  ·rename_i hk;obtain⟨c,hc⟩:=G9.mp (E (y,k) Ad (by simpa using hk:k=.free));refine A _ H λ p w=>?_;rcases Ak.mp w with q |q
   ·subst q;rw[hc];rfl
   ·exact h p q
  ·exact A s H h
theorem Q0:∀(h:List (As×GA))(n:Nat)(o:List (As×Ai)),CF n h o=CF n h []++o:=by
 intro h;induction h with
 |nil=>intro n o;rfl
 |cons p r s=>
  intro n o;obtain⟨y,k⟩:=p;simp only[CF];split
  ·simp only[s (n+1) ((y,n)::o),s (n+1) [(y,n)]];simp
  ·exact s n o
theorem Mh {c:Type}:∀{a b:List (As×c)},(a++b).lookup x=(a.lookup x).or (b.lookup x):=by
 intro a;induction a with
 |nil=>
  intro b;simp
 |cons k a h=>
  intro b;obtain⟨y,v⟩:=k;by_cases q:x=y
  ·subst q;rw[Eg,AF,AF];rfl
  ·rw[Eg,AK q,AK q];exact h
theorem TY (F:FI W V z Z X s.heap O)(R:BB W W.h0 s.heap)(J:Ei V f=Ag){Q:E9->Aq->Prop}
 (hQ:∀(n:E9)(h':AT)(Y:List Ai),FI W f {n with scope:=NS f z} (Y++Z) (Y++X) h' (Br f O)->(∀b o,s.heap.get? b=Ab o->h'.get? b=Ab o)->(∀a∈Y,s.heap.get? a=Ah)->
  (∀a,Ec f {n with scope:=NS f z} a->a∈Y)->(∀a∈AW {n with scope:=NS f z},a∈Y\/a∈AW z)->Q n {s with heap:=h'}):
 ∃cl,ZQ f z=pure cl/\Aw W.M A (F8 f z.globals cl [] z.qual Ah .none (Ab z)) Q E s:=by
 unfold Ei at J;rw[AG,AG] at J;obtain⟨⟨j,w⟩,U⟩:=J;have j:f.kind=.function:=by simpa using j
 have w:=of_decide_eq_true w;have C:∀x k,(x,k)∈f.names->k=.free->V.names.lookup x=Ab .cell\/V.names.lookup x=Ab .free:=λ x k hm hk=>by
  have:=AR.mp U (x,k) hm;subst hk;simpa using this
 have H:∀p∈f.names,p.2=.free->(z.cells.lookup p.1).isSome=Ag:=λ p N hk=>by
  obtain⟨c,ov,e,_⟩:=F.cell p.1 (C p.1 p.2 N hk);rw[e];rfl
 refine⟨GX z f.names [],Mp H,?_⟩;have fresh:∀a,s.heap.objs.size<=a->s.heap.get? a=Ah:=λ a B=>by
  cases e:s.heap.get? a with
  |none=>rfl
  |some o=>exact absurd (AU e) (B7.mpr B)
 have t:=UI f.names [] H (λ p N=>nomatch N);have u:∀p∈GX z f.names [],p.2∈Z:=λ p N=>F.bb _ (Di (t p N));have l:∀p∈GX z f.names [],p.2<s.heap.objs.size:=λ p N=>by
  obtain⟨o,L⟩:=(F.alive _ (F.zx _ (u p N))).2;exact AU L
 simp only[F8,Option.isSome_some,if_true];refine Ac (OT ?_);refine Ac (wpAny_layCells _ (λ name a0 a1=>by cases a2:a0==Cp<;>simp[a2]) _ _ _ _ ?_);have T:(s.heap.push LP).objs.size=s.heap.objs.size+1:=CV ..;rw[CV ..];refine Ac (Ar (Ar ?_));obtain⟨g,a3⟩:=QZ f.names (s.heap.push LP) (GX z f.names []) (λ p N=>by rw[T];exact Gu (l p N));rw[<-(by rw[T]:CF (s.heap.objs.size+1) f.names (GX z f.names [])=CF (s.heap.push LP).objs.size f.names (GX z f.names []))] at g a3;have kp:∀b o,s.heap.get? b=Ab o->(U1 (s.heap.push LP) f.names).get? b=Ab o:=λ b o e=>Ed _ _ _ _ (AI _ e);have KP:BB W s.heap (U1 (s.heap.push LP) f.names):=.af kp;have hY:∀a∈s.heap.objs.size::((CF (s.heap.objs.size+1) f.names (GX z f.names [])).map (·.2)).filter (λ a=>decide (s.heap.objs.size<=a)),s.heap.get? a=Ah:=λ a B=>by
  rcases Ak.mp B with q |q
  ·exact fresh a (by rw[q];exact An _)
  ·exact fresh a (of_decide_eq_true (Ax.mp q).2)
 have M:∀p∈CF (s.heap.objs.size+1) f.names (GX z f.names []),s.heap.objs.size<=p.2->p.2∈s.heap.objs.size::((CF (s.heap.objs.size+1) f.names (GX z f.names [])).map (·.2)).filter (λ a=>decide (s.heap.objs.size<=a)):=
  λ p N m=>Af _ (Ax.mpr ⟨AH.mpr ⟨p,N,rfl⟩,decide_eq_true m⟩)
 have D:∀x c,(CF (s.heap.objs.size+1) f.names (GX z f.names [])).lookup x=Ab c->(f.names.lookup x=Ab .cell/\s.heap.objs.size+1<=c)\/(f.names.lookup x=Ab .free/\z.cells.lookup x=Ab c):=λ x c e=>by
  obtain⟨i1,i2⟩:=Ds x f.names (s.heap.objs.size+1) (GX z f.names []) w;by_cases hc:f.names.lookup x=Ab .cell
  ·obtain⟨c',e',m⟩:=i2 hc;obtain rfl:=A4 e e';exact .inl ⟨hc,m⟩
  ·rw[i1 hc,Lp x f.names [] w H] at e;split at e
   ·rename_i S;exact .inr ⟨S,e⟩
   ·cases e
 refine hQ _ _ _ ?_ kp hY ?_ ?_
 ·exact{
   bb:=λ a B=>by
    rcases Ak.mp B with q |q
    ·subst q;exact AL.mpr (.inl Ad)
    ·obtain⟨p,N,rfl⟩:=AH.mp q;rcases g p N with q |⟨q,_⟩
     ·exact AL.mpr (.inr (u p q))
     ·exact AL.mpr (.inl (M p N (by rw[T] at q;exact AY q)))
   zx:=λ a B=>by
    rcases AL.mp B with q |q
    ·exact AL.mpr (.inl q)
    ·exact AL.mpr (.inr (F.zx a q))
   kind:=j
   bx:=F.bx
   blt:=F.blt
   ea:=λ x h=>Hf.1 h
   da:=λ x h=>Hf.2.1 h
   df:=λ x h=>Hf.2.2.2 h
   dp:=λ x h=>Hf.2.2.1 h
   ns:=⟨λ _=>Ah,(Heap.Ns.new s.heap (.type "dict")).keeps (Ed _ _),λ x sl hl e=>by
    rw[Ga] at e;split at e
    ·rename_i S;cases hl.symm.trans S
    ·cases e⟩
   cell:=λ x h=>by
    rcases h with h |h
    ·obtain⟨c,e,m⟩:=(Ds x f.names (s.heap.objs.size+1) (GX z f.names []) w).2 h;refine⟨c,Ah,e,?_,λ sl q=>?_⟩
     ·rcases g _ (mem_of_lookup e) with q |⟨_,q⟩
      ·exact absurd (l _ q) (B7.mpr (Aa (Bq _) m))
      ·exact q
     ·rw[Ga] at q;split at q
      ·rename_i S;cases h.symm.trans S
      ·cases q
    ·obtain⟨c,ov,e,i,hv⟩:=F.cell x (C x _ (mem_of_lookup h) rfl);refine⟨c,ov,?_,i.keeps kp,λ sl q=>?_⟩
     ·skip
      rw[(Ds x f.names (s.heap.objs.size+1) (GX z f.names []) w).1 (by rw[h];simp),Lp x f.names [] w H,if_pos h,e]
     ·rw[Ga,if_pos h] at q;obtain⟨v,e',r⟩:=hv sl q;exact⟨v,e',(r.ay hY).ae KP⟩
   inj:=λ x y c h hy=>by
    rcases D x c h with⟨kx,lx⟩ |⟨kx,ex⟩<;>rcases D y c hy with⟨ky,ly⟩ |⟨ky,ey⟩
    ·have ok:=cellsFrom_ok f.names (s.heap.push LP) (s.heap.objs.size+1) [] ⟨λ _ _ hm=>(nomatch hm),G8⟩ (by rw[T];exact An _);rw[T] at ok;have G:=h;have I:=hy;rw[Q0,Mh] at G I;obtain⟨c1,e1,_⟩:=(Ds x f.names (s.heap.objs.size+1) [] w).2 kx;obtain⟨c2,e2,_⟩:=(Ds y f.names (s.heap.objs.size+1) [] w).2 ky;rw[e1] at G;rw[e2] at I;simp at G I;subst G;subst I;exact name_of_addr ok.apart (mem_of_lookup e1) (mem_of_lookup e2)
    ·obtain⟨o,L⟩:=(F.alive _ (F.zx _ (F.bb _ (Di ey)))).2;exact absurd (AU L) (B7.mpr (Aa (Bq _) lx))
    ·obtain⟨o,L⟩:=(F.alive _ (F.zx _ (F.bb _ (Di ex)))).2;exact absurd (AU L) (B7.mpr (Aa (Bq _) ly))
    ·exact F.inj x y c ex ey
   dt:=λ x sl q=>by
    rw[Ga] at q;split at q
    ·rename_i S;exact⟨.inr (.inr S),(F.dt x sl q).2⟩
    ·cases q
   alive:=λ a B=>by
    rcases AL.mp B with q |q
    ·refine⟨DE R (hY a q),?_⟩;rcases Ak.mp q with q |q
     ·subst q;exact⟨_,Ed _ _ _ _ (AD _ rfl)⟩
     ·obtain⟨q1,q2⟩:=Ax.mp q;obtain⟨p,N,rfl⟩:=AH.mp q1;rcases g p N with q |⟨_,o,L,_⟩
      ·have:=l p q;exact absurd this (B7.mpr (of_decide_eq_true q2))
      ·exact⟨o,L⟩
    ·exact⟨(F.alive a q).1,BL KP (F.alive a q).2⟩
   ci:=λ x y d e h1 h2=>by
    rw[Ga] at h1 h2;split at h1
    ·split at h2
     ·exact F.ci x y d e h1 h2
     ·cases h2
    ·cases h1}
 ·intro a B;rcases B with rfl |⟨x,h,e⟩
  ·exact Ad
  ·rcases D x a e with⟨_,m⟩ |⟨k,_⟩
   ·exact M (x,a) (mem_of_lookup e) (Aa (Bq _) m)
   ·cases h.symm.trans k
 ·intro a B;rcases Ak.mp B with q |q
  ·subst q;exact .inl Ad
  ·obtain⟨p,N,rfl⟩:=AH.mp q;rcases g p N with q |⟨q,_⟩
   ·exact .inr (Di (t p q))
   ·exact .inl (M p N (by rw[T] at q;exact AY q))
section
theorem Lw.ai (w:∀a∈b,a∈X)(E:Lw W X h I d):Lw W b h I d:=by
 cases E with
 |@list H N n k o s z A=>exact .list k o (λ q=>s (w _ q)) z (A.ai w)
 |@ba H N n k o s z A=>exact .ba k o (λ q=>s (w _ q)) z (A.ai w)
 |@range a c n k o s=>exact .range k o s
theorem Lw.ay (A:∀a∈Y,h.get? a=Ah)(O:Lw W X h I b):Lw W (Y++X) h I b:=by
 have N:∀{s:Ai}{o:Eo},h.get? s=Ab o->s∉X->s∉Y++X:=λ e n q=>by
  rcases AL.mp q with q |q
  ·rw[A _ q] at e;cases e
  ·exact n q
 cases O with
 |@list s Q n w k z E H=>exact .list w k (N k z) E (H.ay A)
 |@ba s Q n w k z E H=>exact .ba w k (N k z) E (H.ay A)
 |@range a c n w k z=>exact .range w k z
theorem FI.congr (F:FI W V z Z X h O)(w:∀a,a∈b↔a∈Z)(s:∀a,a∈c↔a∈X):FI W V z b c h O:=
 F.same (λ a k=>(w a).mpr (F.bb a k)) (λ a k=>(s a).mpr (F.zx a ((w a).mp k))) (λ _ h=>h) (λ _ _ _ _ h=>h) (λ _ _ _ _ r=>r.to (λ _ _ r=>r.ai λ a k=>(s a).mp k) λ a _ m A o=>⟨(s a).mpr m,λ q=>A ((w a).mp q),o.map (λ _ e _=>e) λ _ _ r=>r.ai λ a k=>(s a).mp k⟩)
   λ a k=>F.alive a ((s a).mp k)
end
def Fb (h:List (As×PV))(k:As)(d:PV):List (As×PV):=
 if h.any (λ e=>e.1=k) then h.map (λ e=>if e.1=k then(e.1,d) else e) else h++[(k,d)]
def Zn (l:List (As×PV)):List (As×PV):=l.foldl (λ h p=>Fb h p.1 p.2) []
def ZJ (o:BV)(D:Ai)(X:List Ai)(h:AT)(l:List PV):Prop:=∃k n,h.get? D=Ab (I3 k n)/\RpL o X h k.toList l
def WA (k:BV)(D:Ai)(X:List Ai)(o:AT)(l:List (As×PV)):Prop:=
 ∃h,o.DictOf k.K D h/\h.map (·.1)=(Zn l).map (·.1)/\RpL k X o (h.map (·.2)) ((Zn l).map (·.2))
theorem wU (D:Ai):ZK D (ZJ W D) where
 bi:=λ x hk k=>by obtain⟨h,n,e,r⟩:=x;exact⟨h,n,k _ e,r.bi λ b o e n d=>hk b o e n (EL.cls d)⟩
 obj:=λ x=>by obtain⟨h,n,e,r⟩:=x;exact⟨_,e,.inl rfl⟩
theorem tQ (D:Ai):ZK D (WA W D) where
 bi:=λ x hk z=>by obtain⟨h,⟨o,s,w,k,x⟩,q,r⟩:=x;exact⟨h,⟨o,s,w,z _ k,x⟩,q,r.bi λ b o e n d=>hk b o e n (EL.cls d)⟩
 obj:=λ x=>by obtain⟨h,⟨o,s,w,k,A,_⟩,q,r⟩:=x;exact⟨o,k,.inr (.inr A.1)⟩
theorem YJ (h:List (As×PV))(k:As)(d:PV):(h.map λ e=>if e.1=k then(e.1,d) else e).map (·.1)=h.map (·.1):=by
 induction h with
 |nil=>rfl
 |cons e h o=>
  rw[Bl,o];by_cases q:e.1=k<;>simp[q]
theorem XV (A:Rp W X h v d):∀(k:List (As×Ae))(o:List (As×PV)),k.map (·.1)=o.map (·.1)->RpL W X h (k.map (·.2)) (o.map (·.2))->
 RpL W X h ((k.map λ s=>if s.1=a then(s.1,v) else s).map (·.2)) ((o.map λ e=>if e.1=a then(e.1,d) else e).map (·.2)):=by
 intro k;induction k with
 |nil=>
  intro o hk r;cases o with
  |nil=>exact .nil
  |cons _ _=>contradiction
 |cons s k E=>
  intro o hk r;cases o with
  |nil=>contradiction
  |cons e o=>
   simp only[Bl,List.cons.injEq] at hk;obtain⟨H,N⟩:=RpL.gy r
   ·skip
    refine .cons ?_ (E o hk.2 N);by_cases q:e.1=a
    ·have w:=hk.1.trans q;simpa[q,w] using A
    ·have w:¬s.1=a:=λ z=>q (hk.1.symm.trans z);simpa[q,w] using H
theorem LC {v:Ae}{b:List (As×PV)}{a:List (As×Ae)}{k:As}{d:PV}(hk:a.map (·.1)=b.map (·.1))(r:RpL W X h (a.map (·.2)) (b.map (·.2)))(s:Rp W X h v d):
 (stored a k v).map (·.1)=(Fb b k d).map (·.1)/\RpL W X h ((stored a k v).map (·.2)) ((Fb b k d).map (·.2)):=by
 have o:(a.any λ w=>decide (w.1=k))=(b.any λ e=>decide (e.1=k)):=by
  have:=LL k hk r;rw[<-this.1];rw[BJ];simp
 delta stored Fb
 rw[o];split
 ·exact⟨by simp only[keys_map_store,YJ,hk],XV s a b hk r⟩
 ·simp only[Dy,Dy,Dy,Dy];exact⟨by rw[hk];rfl,r.append (.bq s)⟩
theorem HG (h:List (As×PV))(k:As)(d:PV):(Fb h k d).length<=h.length+1:=by
 unfold Fb;split<;>simp
theorem Kl (l:List (As×PV))(p:As×PV):Zn (l++[p])=Fb (Zn l) p.1 p.2:=by simp[Zn]
theorem MO (l:List (As×PV)):(Zn l).length<=l.length:=by
 have k:∀(l h:List (As×PV)),(l.foldl (λ h p=>Fb h p.1 p.2) h).length<=h.length+l.length:=by
  intro l;induction l with
  |nil=>intro h;exact An _
  |cons p l o=>intro h;exact Aa (o (Fb h p.1 p.2)) (Aa (B8 (HG h p.1 p.2) _) (AB (by rw[EZ,Ev 1];rfl)))
 have:=k l [];simpa[Zn] using this
def pG:PV->Option As
 | .str s=>Ab s
 |_=>Ah
theorem Rm {m:As->Option Ae}(V:s.heap.get? C=Ah)(h:BB W s.heap H)(l:s.toks<=b)(N:H.Ns C m)(r:Rp W (C::X) H (.ref D) d)
 (Z:∀v H b,BB W s.heap H->s.toks<=b->Rp W X H v d->Q v {s with heap:=H,toks:=b}):JB W.M A E Ah Q (.ref D) C (.ok .next) {s with heap:=H,toks:=b}:=by
 refine⟨m,N,λ k O=>Z _ k b (h.az V (λ o g c e=>?_) O) l ((r.az O Ad).ai λ a f=>Af _ f)⟩;obtain⟨i,j,n,w,z,_⟩:=N;obtain rfl:=A4 c w;cases e.symm.trans z
set_option genCtorIdx true in
inductive BF where
 |len |sum |max |min |sorted |str |int |list
 deriving DecidableEq
def BF.name:BF->As
 | .len=>"len" | .sum=>"sum" | .max=>"max" | .min=>"min" | .sorted=>"sorted" | .str=>"str" | .int=>"int" | .list=>"list"
def BF.val:BF->Ae
 | .len=>.builtin "len" | .sum=>.builtin "sum" | .max=>.builtin "max" | .min=>.builtin "min" | .sorted=>.builtin "sorted" | .str=>.type "str" | .int=>.type "int" | .list=>.type "list"
variable {i:Nat} in
def pT:PV->Option Int
 | .int i=>Ab i
 |_=>Ah
def Hy (l:List PV):Option (List Int):=l.mapM pT
def Hd (l:List PV):Option (List As):=l.mapM pG
theorem Ul (h:Hy (d::l)=Ab a):∃i r,d=.int i/\Hy l=Ab r/\a=i::r:=by
 unfold Hy at h;rw[HY] at h;obtain⟨b,o,h⟩:=AM.mp h;obtain⟨s,k,h⟩:=AM.mp h;cases h;cases d<;>simp[pT] at o;subst o;exact⟨_,_,rfl,k,rfl⟩
theorem Ol (h:Hd (d::l)=Ab a):∃i r,d=.str i/\Hd l=Ab r/\a=i::r:=by
 unfold Hd at h;rw[HY] at h;obtain⟨b,o,h⟩:=AM.mp h;obtain⟨s,k,h⟩:=AM.mp h;cases h;cases d<;>simp[pG] at o;subst o;exact⟨_,_,rfl,k,rfl⟩
def WO (l:List Int):List Int:=l.mergeSort (λ a b=>decide (a<=b))
variable {a:Ai}{r:List Bs} in
def vE:List Int->Option Int
 |[]=>Ah
 |a::r=>Ab (r.foldl max a)
theorem RpL.gn (r:RpL W X h c d):Hy d=Ab b->IntsAre c b:=
 r.bt (P:=λ c d=>∀b,Hy d=Ab b->IntsAre c b) (λ _ e=>AN e▸.nil) (λ v _ _ _ a _ i b e=>by
   obtain⟨j,o,rfl,k,rfl⟩:=Ul e;obtain⟨t,rfl⟩:=a.aj;exact .cons _ _ (i _ k)) b
theorem RpL.dw {a:List Int}(r:IntsAre b a):RpL W X h b (a.map .int):=r.rec .nil λ n t{_ _} _ i=>.cons (.int n t) i
theorem RpL.gb (r:RpL W X h c d):Hd d=Ab b->Qz c b:=
 r.bt (P:=λ c d=>∀b,Hd d=Ab b->Qz c b) (λ _ e=>AN e▸.nil) (λ v _ _ _ a _ i b e=>by
   obtain⟨j,o,rfl,k,rfl⟩:=Ol e;obtain⟨t,rfl,_⟩:=a.aj;exact .cons _ _ (i _ k)) b
theorem X7:∀{h:List PV}{k:List As},Hd h=Ab k->h=k.map .str:=by
 intro h;induction h with
 |nil=>
  intro _ e;cases e;rfl
 |cons d h o=>
  intro k e;obtain⟨i,w,rfl,s,rfl⟩:=Ol e;rw[o s];rfl
theorem RpL.gc {a:List As}(r:RpL W X h b (a.map .str)):∀x∈a,Ba x=Ag/\x.length<=B2:=λ x o=>by
 obtain⟨k,hk⟩:=Iy.mp o;obtain⟨v,_,s⟩:=r.get (k:=k) (by rw[Bo,hk];rfl);exact s.aj.choose_spec.2
theorem RpL.dv {a:List As}(r:Qz b a):(∀x∈a,Ba x=Ag/\x.length<=B2)->RpL W X h b (a.map .str):=
 r.rec (λ _=>.nil) λ n t{_ _} _ i hk=>.cons (.str n t (hk n Ad).1 (hk n Ad).2) (i λ x k=>hk x (Af _ k))
theorem Pp (r:Qz b a):∃l:List (As×Tok),b=strValues l/\l.map (·.1)=a:=
 r.rec ⟨[],rfl,rfl⟩ λ n t{_ _} _ i=>by obtain⟨l,h,k⟩:=i;exact⟨(n,t)::l,congrArg (Value.str n t::·) h,congrArg (n::·) k⟩
theorem TK (h:List Int):preSum (λ i=>h.getD i 0) h.length=h.sum:=by
 have o:∀k,k<=h.length->preSum (λ i=>h.getD i 0) k=(h.take k).sum:=by
  intro k;induction k with
  |zero=>intro _;rfl
  |succ k s=>
   intro hk;rw[preSum,s (AY ‹_›),take_sum_succ _ _ (by assumption)]
 rw[o _ (An _),List.take_length]
theorem mL {i:Nat}{v:Ae}{b:List Ae}{a:List Int}(r:IntsAre b a):b[i]? =Ab v->∃t,v=.int (a.getD i 0) t:=
 r.rec (λ _ e=>absurd (KB.symm.trans e) nofun) (λ n t{_ _} _ h i=>i.casesOn (λ e=>⟨t,(AN e).symm⟩) h) i
theorem X4 (p:A.handled=Ah)(O:s.heap.get? a=Ab (I3 c n))(V:IntsAre c.toList d)
 (q:∀t H r,BB W s.heap H->Q (.int d.sum t) {s with heap:=H,toks:=r}):Aw W.M A (call (.builtin "sum") [.ref a]) Q E s:=by
 have Z:s.heap.IsList a c:=⟨_,O,rfl,n,rfl⟩;refine call_sum_walkAnyS (wpAny_pyIter_list Z ?_);have h:=AU O;have k:=V.length;refine⟨_,_,_,_,_,_,_,λ i=>d.getD i 0,rfl,((Walks.list (prog:=W.prog) (w:=W.w) (A:=A.in1) p s.heap.objs.size a (Cu h) c)).toS,⟨⟨_,AD _ rfl,rfl,rfl⟩,Z.push _⟩,λ b w=>?_,λ i v u=>mL V (by simpa using u),λ z x f=>?_⟩
 ·skip
  rw[CV];rcases Ak.mp w with rfl |w
  ·exact CK _
  ·rcases Ak.mp w with rfl |w
   ·exact Gu h
   ·contradiction
 ·have e:z={s with heap:=z.heap,toks:=z.toks}:=by
   obtain⟨H,D,G,y,B⟩:=z;obtain⟨_,g,j,l,_⟩:=f;simp only at g j l;subst g j l;rfl
  rw[(by simpa using k:c.size=d.length),TK,e];refine q x _ _ (.af λ b o m=>f.heap b o (λ N=>?_) (AI _ m));rcases Ak.mp N with C |N
  ·exact absurd (C▸AU m) (EY _)
  ·cases N
theorem P9 (l:List Int)(a:Int):(l.foldl max a∈a::l)/\∀b∈a::l,b<=l.foldl max a:=List.max?_eq_some_iff.mp rfl
theorem VK (m:A.handled=Ah)(p:s.heap.get? a=Ab (I3 d n))(O:IntsAre d.toList f)(q:vE f=Ab M)
 (u:∀t H N,BB W s.heap H->Q (.int M t) {s with heap:=H,toks:=N}):Aw W.M A (call (.builtin "max") [.ref a]) Q E s:=by
 have V:s.heap.IsList a d:=⟨_,p,rfl,n,rfl⟩;obtain⟨h,e⟩:=O.allInts.items;have o:f=h.toList.map (·.1):=by rw[<-O.numsOf,<-nums_intItems,<-e]
 cases f with
 |nil=>contradiction
 |cons c r=>
  have k:(c::r).length=h.size:=by rw[o,Al,DP]
  have w:0<h.size:=k▸DQ _;rw[show d=intItems h from e] at V;refine max_intList m V w λ v H N x hk=>?_;obtain⟨t,rfl⟩:=intItems_at x;obtain⟨Z,g⟩:=argBest_gt (numAt h) (h.size-1);generalize argBest (λ i j=>decide (numAt h i>numAt h j)) (h.size-1)=b at Z g ⊢;obtain⟨y,B⟩:=P9 r c;have l:=numAt_eq h b;rw[<-o] at l;obtain⟨j,C,D⟩:=mem_getD y;have z:=numAt_eq h j;rw[<-o,D] at z;have:=(Int.le_antisymm (l▸B _ (getD_mem (k▸Nat.lt_of_le_pred w Z))) (z▸g j (Nat.le_pred_of_lt (k▸C)))).trans (AN q);exact this▸u t H N (.af hk)
theorem Pr (s:a.Perm b)(w:a.Pairwise (·<=·)):a=WO b:=by
 refine GS (λ x y _ _ k o=>Int.le_antisymm k o) w ?_ (s.trans (List.mergeSort_perm b _).symm);have:=List.pairwise_mergeSort (le:=λ a b=>decide (a<=b)) (λ a b c k o=>decide_eq_true (Cx (of_decide_eq_true k) (of_decide_eq_true o))) (λ a b=>(Int.le_total a b).elim (λ h=>by rw[decide_eq_true h];exact Bool.true_or _) λ h=>by rw[decide_eq_true h];exact Jz _) b;exact this.imp λ h=>by simpa using h
def pO (a b:As):Bool:=decide (a.cps.toList<=b.cps.toList)
def pH (l:List As):List As:=l.mergeSort pO
theorem Sn:∀(r:List As)(p:As),risingS p r=Ag->(p::r).Pairwise (λ a b=>pO a b=Ag):=by
 intro r;induction r with
 |nil=>
  intro p _;simp
 |cons x r k=>
  intro p h;simp only[risingS] at h;rw[AG,C3,ltCps_eq,decide_eq_false_iff_not,List.not_lt] at h;have s:=k x h.2;refine JV.mpr ⟨λ b o=>?_,s⟩;rcases Ak.mp o with rfl |o
  ·simpa[pO] using h.1
  ·have:=(JV.mp s).1 b o;simp only[pO,decide_eq_true_eq] at this ⊢;exact List.le_trans h.1 this
theorem TD (o:a.Perm b)(s:sortedS a=Ag):a=pH b:=by
 have h:a.Pairwise (λ a b=>pO a b=Ag):=by
  cases a with
  |nil=>simp
  |cons x r=>exact Sn r x s
 refine GS (λ x y _ _ h k=>?_) h ?_ (o.trans (List.mergeSort_perm b _).symm)
 ·simp only[pO,decide_eq_true_eq] at h k;have:=List.le_antisymm h k;obtain⟨⟨x⟩⟩:=x;obtain⟨⟨y⟩⟩:=y;simp only at this;rw[this]
 ·exact List.pairwise_mergeSort (λ a b c h k=>by simp only[pO,decide_eq_true_eq] at*;exact List.le_trans h k) (λ a b=>by simp only[pO,CW,decide_eq_true_eq];exact List.le_total _ _) b
variable {a:List PV} in
def yM:PV->Option PV
 | .list a=>Ab (.int a.length)
 | .str x=>Ab (.int x.length)
 |_=>Ah
variable {i:Nat} in
def xY:PV->Option PV
 | .int i=>Un (i.natAbs<1000000000) (.str (Fs (OV i)))
 | .str x=>Ab (.str x)
 |_=>Ah
def WN (h:List PV):Option PV:=if decide (h.length<64) then((Hy h).map λ k=>.list ((WO k).map .int)).or ((Hd h).map λ o=>.list ((pH o).map .str)) else Ah
def R! (x:PV):Option PV:=mD x λ h=>(Hy h).bind λ k=>(vE k).map .int
def Q2 (f:BF)(args:List PV):Option PV:=match f with
 | .len=>Tm args yM
 | .sum=>Tm args λ x=>mD x λ h=>(Hy h).map λ k=>.int k.sum
 | .max=>(Tm args R!).or (uN args (QT λ a b=>Ab (.int (if b>a then b else a))))
 | .min=>uN args (QT λ a b=>Ab (.int (if b<a then b else a)))
 | .sorted=>Tm args λ x=>mD x WN
 | .str=>Tm args xY
 | .int=>Tm args λ x=>Vr x λ x=>if decide (x.length<=640) then(M7 x).map .int else Ah
 | .list=>Tm args λ x=>mD x λ h=>Ab (.list h)
theorem QL (i:Int):Ba (Fs (OV i))=Ag:=by
 unfold PyData.strOk;rw[HK];intro c hc;by_cases q:c<1114112
 ·exact decide_eq_true q
 ·exact absurd (IR.mpr hc) (int_text_free' c ⟨λ h=>q (h▸by decide),.inr (Ao (by decide) (B7.mp q))⟩ i)
theorem aR {c:Array Ae}(B:∀a∈X,∃o,s.heap.get? a=Ab o)(C:s.heap.get? a=Ab (I3 c n))(z1:c.size<=B2)(j:RpL W X s.heap c.toList f)(e:WN f=Ab d)
 (D:∀v p G,BB W s.heap p->Rp W X p v d->Q v {s with heap:=p,toks:=G}):Aw W.M A (call (.builtin "sorted") [.ref a]) Q E s:=by
 have q:=IC e;have l:=j.length;have N:s.heap.IsList a c.toList.toArray:=⟨_,C,rfl,n,rfl⟩;have O:=l▸of_decide_eq_true q.1;have V:∀h m,PV.list m=d->RpL W X s.heap h.toList m->m.length=f.length->Q (.ref (s.heap.objs.size+1)) {s with heap:=sortedAll s.heap c.toList h}:=λ h m Z y r=>
  have⟨R,t⟩:=sortedAll_at s.heap c.toList h;have k:=.af λ b o I=>sortedAll_old I
  D _ _ s.toks k (.at Z (.list t (λ q=>by obtain⟨o,J⟩:=B _ q;exact absurd (AU J) (B7.mpr (Bq _))) (show h.toList.length<=B2 from y.length▸r▸l▸z1) (y.ae k)))
 rcases L7.mp q.2 with e |⟨_,e⟩
 ·obtain⟨L,w,Z⟩:=Bp.mp e;have g:=j.gn w;refine sorted_ints N g O λ h u H z i=>V h _ Z (Pr z i▸.dw H) ?_;rw[Al,<-Pr z i,z.length_eq,<-g.length,l]
 ·obtain⟨L,w,Z⟩:=Bp.mp e;have g:=j.gb w;refine sorted_strs N g O λ h u H z i=>V h _ Z (TD z i▸.dv H λ x M=>(X7 w▸j).gc x (z.mem_iff.mp M)) ?_;rw[Al,<-TD z i,z.length_eq,<-g.length,l]
theorem mM {i:Int}(h:i.natAbs<1000000000):i.natAbs.log2<1920:=by
 by_cases z:i.natAbs=0
 ·rw[z];decide
 ·exact(Nat.log2_lt z).mpr (Cw h (by decide+kernel))
theorem jI {i:Int}(h:i.natAbs<1000000000):(Fs (OV i)).length<=B2:=by
 have:=int_text_length_le10 (k:=9) (by decide) h;rw[PySem.ofString_length];exact Aa this (by decide)
theorem Wn (B:A.handled=Ah)(C:∀a∈X,∃o,s.heap.get? a=Ab o)(r:RpL W X s.heap b args)(e:Q2 f args=Ab d):
 Dq W A (call f.val b) s (λ v m=>Rp W X m v d):=.of λ Q E Z=>by
 have p:∀v g,Rp W X s.heap v d->Q v {s with toks:=g}:=λ v g r=>Z v _ g (.refl _) r;have O:∀{f:PV->Option PV}{c:Ae},Tm args f=Ab d->(∀v x,Rp W X s.heap v x->f x=Ab d->Aw W.M A (call c [v]) Q E s)->Aw W.M A (call c b) Q E s:=λ{f c} e k=>N6 (P:=λ l=>Aw W.M A (call c l) Q E s) r e k;have L:∀{f:List PV->Option PV}{c:Ae},Tm args (λ x=>mD x f)=Ab d->(∀a H n V,s.heap.get? a=Ab (I3 H n)->H.size<=B2->RpL W X s.heap H.toList V->f V=Ab d->Aw W.M A (call c [.ref a]) Q E s)->Aw W.M A (call c b) Q E s:=
  λ{f c} e k=>O e λ v x r e=>Nu (P:=λ v=>Aw W.M A (call c [v]) Q E s) r e k
 have I:∀{f:Int->Int->Option PV}{c:Ae},uN args (QT f)=Ab d->(∀x t y u,f x y=Ab d->Aw W.M A (call c [.int x t,.int y u]) Q E s)->Aw W.M A (call c b) Q E s:=
  λ{f c} e k=>Ra (P:=λ l=>Aw W.M A (call c l) Q E s) r e λ v x w y h D e=>JP (P:=λ v w=>Aw W.M A (call c [v,w]) Q E s) h D e k
 cases f with
 |len=>
  refine O e λ v x r e=>?_;cases x with
  |list V=>
   obtain⟨a,H,n,rfl,N,_,z1,h⟩:=r.aj;refine len_list ⟨_,N,rfl,n,rfl⟩ (VV z1) (p _ _ (.yes e ?_));exact(h.length.symm▸rfl:V.length=H.size)▸.int _ _
  |str x=>obtain⟨t,rfl,_,z⟩:=r.aj;exact PyProof.Rows.len_str (My.mpr (VV z)) (p _ _ (.yes e (.int _ _)))
  |_=>exact no e
 |sum=>
  refine L e λ a H n V N z1 h e=>?_;obtain⟨G,j,rfl⟩:=Bp.mp e;exact X4 B N (h.gn j) λ t m g k=>Z _ _ _ k (.int _ _)
 |max=>
  rcases L7.mp e with e |⟨_,e⟩
  ·refine L e λ a H n V N z1 h e=>?_;obtain⟨G,j,e⟩:=AM.mp e;obtain⟨M,J,rfl⟩:=Bp.mp e;exact VK B N (h.gn j) J λ t m g k=>Z _ _ _ k (.int _ _)
  ·exact I e λ x t y u e=>max_two_ints B λ m g k=>Z _ _ _ (.af k) (.yes e (by split<;>exact .int _ _))
 |min=>exact I e λ x t y u e=>min_two_ints B λ m g k=>Z _ _ _ (.af k) (.yes e (by split<;>exact .int _ _))
 |sorted=>exact L e λ a H n V N z1 h e=>aR C N z1 h e Z
 |str=>
  refine O e λ v x r e=>?_;cases x with
  |int i=>
   obtain⟨t,rfl⟩:=r.aj;have q:=Fp e;exact P.str_of_int (mM q.1) (p _ _ (.at q.2 (.str _ _ (QL i) (jI q.1))))
  |str x=>obtain⟨t,rfl,o,z⟩:=r.aj;exact P.str_of_str (p _ _ (.yes e (.str _ _ o z)))
  |_=>exact no e
 |int=>
  refine O e λ v x r e=>JG (P:=λ v=>Aw W.M A (call (.type "int") [v]) Q E s) r e λ x t o z e=>?_;have q:=IC e;obtain⟨n,R,rfl⟩:=Bp.mp q.2;exact KIN.call_text R (of_decide_eq_true q.1) (p _ _ (.int _ _))
 |list=>
  exact L e λ a H n V N z1 h e=>call_list_seq a (.inl rfl) N rfl rfl (λ m T k S=>Z _ _ _ (.af k) (.yes e (.list S (IK C) z1 (h.ae (.af k))))) (Aa z1 FW)
set_option genCtorIdx true in
inductive MF where
 |find |count |join |split |dh
 deriving DecidableEq
def MF.name:MF->As
 | .find=>"find" | .count=>"count" | .join=>"join" | .split=>"split" | .dh=>"index"
def MF.id:MF->String
 | .find=>"str.find" | .count=>"str.count" | .join=>"str.join" | .split=>"str.split" | .dh=>"list.index"
def MF.ty:MF->String
 | .dh=>"list" |_=>"str"
def MF.all:List MF:=[.find,.count,.join,.split,.dh]
def vD (x:As):Option MF:=MF.all.find? λ m=>m.name==x
def BF.all:List BF:=[.len,.sum,.max,.min,.sorted,.str,.int,.list]
def wS (x:As):Option BF:=BF.all.find? λ m=>m.name==x
theorem Yr (h:vD x=Ab m):x=m.name:=by
 have:=List.find?_some h;exact(BQ this).symm
theorem Zx (h:wS x=Ab m):x=m.name:=by
 have:=List.find?_some h;exact(BQ this).symm
theorem MF.plain (m:MF):PlainAttrs m.ty:=by cases m<;>first |exact F.plainAttrs_str |exact F.plainAttrs_list
theorem MF.slot (m:MF):PySem.Slot m.ty m.name m.id:=by
 cases m
 ·exact F.slot_str_find
 ·exact F.slot_str_count
 ·exact F.slot_str_join
 ·exact MA
 ·exact F.slot_list_index
theorem MF.lr (m:MF):Md (.builtin m.id)=pure (.type "method_descriptor"):=by
 cases m
 ·exact F.type_str_find
 ·exact F.type_str_count
 ·exact F.type_str_join
 ·exact F.type_str_split
 ·exact F.type_list_index
def Pw (x:As):Bool:=Ba x&&decide (x.length<=B2)
def dZ (x:As)(k:List PV):Option PV:=(Hd k).bind λ h=>if JoinOk x h&&Pw (Txt.join x h) then Ab (.str (Txt.join x h)) else Ah
def aP (x y:As):Option PV:=if !(y.length==0)&&(IL x y).all Pw&&decide ((IL x y).length<=B2) then Ab (.list ((IL x y).map .str)) else Ah
def eQ (k:List PV)(y:As):Option PV:=(Hd k).bind λ h=>if h.contains y then Ab (.int (h.idxOf y)) else Ah
def Mg (m:MF)(b:PV)(args:List PV):Option PV:=match m with
 | .find=>Vr b λ x=>(Tm args λ y=>Vr y λ y=>Ab (.int (Txt.find x y))).or (uN args λ y i=>Vr y λ y=>ZN i λ i=>Ab (.int (Txt.find3 x y i)))
 | .count=>Vr b λ x=>Tm args λ y=>Vr y λ y=>Ab (.int (Txt.count x y))
 | .join=>Vr b λ x=>Tm args λ y=>mD y (dZ x)
 | .split=>Vr b λ x=>Tm args λ y=>Vr y (aP x)
 | .dh=>mD b λ h=>Tm args λ y=>Vr y (eQ h)
def pR (h:As)(v:Ae):Bool:=v.isStr h
theorem WL {b:List Ae}(k:As){a:List As}(r:Qz b a):∀(j:Nat)(h:j<b.length)(o:j<a.length),pR k b[j]=(a[j]==k):=
 r.rec (λ _ h=>(by contradiction)) λ n t{_ _} _ i j=>j.casesOn (λ _ _=>rfl) λ j h o=>i j (DR h) (DR o)
theorem SF {a:List As}(h:j<a.idxOf b)(k:j<a.length):(a[j]==b)=Av:=List.not_of_lt_findIdx h
theorem aL (r:Qz b a):∀v∈b,∃x t,v=.str x t:=
 r.rec (λ _ h=>(by contradiction)) λ n t{_ _} _ i v h=>(Ak.mp h).elim (λ e=>⟨_,_,e⟩) (i v)
theorem Sf:∀(l:List As)(h:Nat),Qz (strsFrom h l) l:=by
 intro l;induction l with
 |nil=>
  intro _;exact .nil
 |cons x r k=>
  intro h;exact .cons x h (k (h+1))
theorem VB {x:As}(h:Pw x=Ag):Ba x=Ag/\x.length<=B2:=⟨(DG h).1,of_decide_eq_true (DG h).2⟩
theorem Ya {x:As}(f:∀a∈X,∃o,s.heap.get? a=Ab o)(g:x.length<=B2)(e:aP x y=Ab d)(i:∀v V H,BB W s.heap V->Rp W X V v d->Q v {s with heap:=V,toks:=H}):
 Aw W.M A (call (.builtin "str.split") [.str x t,.str y u]) Q E s:=by
 have q:=Ke e;have b:=(C3 _).mp (DG (DG q.1).1).1;have h:=of_decide_eq_true (DG q.1).2;have Z:∀p∈IL x y,Ba p=Ag/\p.length<=B2:=λ p j=>VB (AR.mp (DG (DG q.1).1).2 p j);have k:∀N H,Qz N (IL x y)->Q (.ref s.heap.objs.size) {s with heap:=s.heap.push (I3 N.toArray 0),toks:=H}:=λ N H c=>
  i _ _ _ (.push _ _) (.at q.2 (.list (AD _ rfl) (IK f) (show N.length<=B2 from c.length▸h) (RpL.dv c Z)))
 have w:=Aa h FW;unfold Txt.split at k h w;cases z:(decide (x.length<y.length)||decide (Builtin.Str.strKind x<Builtin.Str.strKind y))
 ·rw[z] at k h w;cases O:(Builtin.Str.occurrences x y 0 x.length (x.length+1)).isEmpty
  ·rw[O] at k h w;exact Ig MA (KV _ _ _) F.entry_str_split (F.args_str_split_2 _ _) (meets_str_split_sep x y t u z b O (Aa g FW) w) (k _ _ (Sf _ _))
  ·rw[O] at k;exact Ig MA (KV _ _ _) F.entry_str_split (F.args_str_split_2 _ _) (meets_str_split_not_found x y t u z b O) (k [.str x t] _ (.cons _ _ .nil))
 ·rw[z] at k;exact Ig MA (KV _ _ _) F.entry_str_split (F.args_str_split_2 _ _) (meets_str_split_cannot_occur x y t u z) (k [.str x t] _ (.cons _ _ .nil))
theorem YQ {b:Array Ae}(N:s.heap.get? a=Ab (I3 b n))(z1:b.size<=B2)(V:RpL W X s.heap b.toList c)(e:eQ c y=Ab d)(Z:∀v f,Rp W X s.heap v d->Q v {s with toks:=f}):
 Aw W.M A (call (.builtin "list.index") [.ref a,.str y u]) Q E s:=by
 obtain⟨O,z,e⟩:=AM.mp e;have q:=Ke e;have w:=V.gb z;have h:=w.length;have k:=List.idxOf_lt_length_iff.mpr (E8.mp q.1);refine Ig F.slot_list_index ⟨_,N,rfl⟩ F.entry_list_index (F.args_list_index_2 _ _)
  (SeqAt.list_indexAt a b n Ah #[] (.str y u) (pR y) (O.idxOf y) (Nat.lt_of_lt_of_eq k h.symm) (Hv (BO.mpr (Ao k (Aa (AB h.symm) z1))) (by decide+kernel:(B2:Int)<=2^63-1)) ?_ ?_) ⟨N,λ v g=>?_,Z _ _ (.at q.2 (.int _ _))⟩
 ·exact(WL y w (O.idxOf y) (Nat.lt_of_lt_of_eq k h.symm) k).trans (beq_iff_eq.mpr (Ef k))
 ·exact λ j H o=>(WL y w j H (Cw o k)).trans (SF o _)
 ·obtain⟨x,t,rfl⟩:=aL w v (IR.mpr g);exact SeqAt.EqAt.str_str x t y u
theorem T1 (D:∀a∈X,∃o,s.heap.get? a=Ab o)(rb:Rp W X s.heap j b)(r:RpL W X s.heap g args)(e:Mg m b args=Ab d):
 Dq W A (call (.builtin m.id) (j::g)) s (λ v G=>Rp W X G v d):=.of λ Q E N=>by
 have H:∀v V,Rp W X s.heap v d->Q v {s with toks:=V}:=λ v V r=>N v _ V (.refl _) r;have O:∀{f:PV->Option PV}{c v:Ae},Tm args f=Ab d->(∀w x,Rp W X s.heap w x->f x=Ab d->Aw W.M A (call c [v,w]) Q E s)->Aw W.M A (call c (v::g)) Q E s:=λ{f c v} e k=>N6 (P:=λ l=>Aw W.M A (call c (v::l)) Q E s) r e k;have T:∀{f:As->Option PV}{c v:Ae},Tm args (λ y=>Vr y f)=Ab d->(∀y u,f y=Ab d->Aw W.M A (call c [v,.str y u]) Q E s)->Aw W.M A (call c (v::g)) Q E s:=
  λ{f c v} e k=>O e λ w x r e=>JG (P:=λ w=>Aw W.M A (call c [v,w]) Q E s) r e λ y u _ _=>k y u
 have S:∀{f:As->Option PV}{c:Ae},Vr b f=Ab d->(∀x t,x.length<=B2->f x=Ab d->Aw W.M A (call c (.str x t::g)) Q E s)->Aw W.M A (call c (j::g)) Q E s:=
  λ{f c} e k=>JG (P:=λ v=>Aw W.M A (call c (v::g)) Q E s) rb e λ x t _=>k x t
 cases m with
 |find=>
  refine S e λ x t z e=>?_;rcases L7.mp e with e |⟨_,e⟩
  ·exact T e λ y u e=>SC.find (H _ _ (.yes e (.int _ _)))
  ·refine Ra (P:=λ l=>Aw W.M A (call (.builtin "str.find") (.str x t::l)) Q E s) r e λ v y w i h I e=>?_;refine JG (P:=λ v=>Aw W.M A (call (.builtin "str.find") [.str x t,v,w]) Q E s) h e λ y u _ _ e=>?_;exact Hk (P:=λ w=>Aw W.M A (call (.builtin "str.find") [.str x t,.str y u,w]) Q E s) I e λ i v e=>SC.find3 (H _ _ (.yes e (.int _ _)))
 |count=>exact S e λ x t z e=>T e λ y u e=>SC.count (H _ _ (.yes e (.int _ _)))
 |join=>
  refine S e λ x t z e=>O e λ w y r e=>Nu (P:=λ w=>Aw W.M A (call (.builtin "str.join") [.str x t,w]) Q E s) r e λ a J n L Z z1 h e=>?_;obtain⟨M,p,e⟩:=AM.mp e;have q:=Ke e;obtain⟨l,B,C⟩:=Pp (h.gb p);exact SC.join (⟨_,Z,rfl,n,by rw[<-B]⟩) C (DG q.1).1 λ R k=>N _ _ _ (.refl _) (.at q.2 (.str _ _ (VB (DG q.1).2).1 (VB (DG q.1).2).2))
 |split=>exact S e λ x t z e=>T e λ y u e=>Ya D z e N
 |dh=>exact Nu (P:=λ v=>Aw W.M A (call (.builtin "list.index") (v::g)) Q E s) rb e λ a J n L Z z1 h e=>T e λ y u e=>YQ Z z1 h e H
structure GK where
 fn:As->Option (List PV->Option PV)
 gv:As->Option PV
 rw:Ai->Option (List PV)
variable {C:GK}
variable {i:Nat} in
def tC:Const->Option PV
 | .none=>Ab .none
 | .bool b=>Ab (.bool b)
 | .int i=>Ab (.int i)
 | .str x=>if Pw x then Ab (.str x) else Ah
 |_=>Ah
def CX (h:Bg)(x:As):Bool:=D5 x&&(h.names.lookup x==Ab .globalImplicit)
def Rh:Dt->Option PV
 | .aa d=>Ab d
 | .cg _ d=>Ab d
 |_=>Ah
def Rs (h:GK)(k:Bg)(o:A5)(x:As):Option PV:=(o.lookup x).elim (if CX k x then h.gv x else Ah) Rh
variable {i:Nat} in
def Q? :PV->Option PV
 | .int i=>Ab (.int (-i))
 |_=>Ah
def Cm (e:Expr):Bool:=e.ctorIdx !=22
def K8 (e:Expr):Bool:=e.ctorIdx !=7
def VC (e:Expr):Bool:=e.ctorIdx==23||e.ctorIdx==19||e.ctorIdx==21
variable {i:Nat} in
def mO:PV->Option Int
 | .int i=>Ab i
 |_=>Ah
theorem Nv (h:mO d=Ab i):d=.int i:=by
 cases d with
 |int j=>cases h;rfl
 |_=>cases h
def Sp (a n:Int):List PV:=(Ap n.toNat).map (λ(i:Nat)=>.int (a+(i:Int)*1))
def qZ (a b:Int):List PV->Option (List PV)
 |[]=>if a<=b/\b-a<=100000/\-1000000<=a/\b<=1000000 then Ab (Sp a (b-a)) else Ah
 |_::_=>Ah
variable {c:List (As×PV)} in
def rB (a:Int):List PV->Option (List PV)
 |[]=>if 0<=a/\a<=100000 then Ab (Sp 0 a) else Ah
 |e::c=>(mO e).bind λ b=>qZ a b c
variable {b:List PV} in
def bM:List PV->Option (List PV)
 |[]=>Ah
 |d::b=>(mO d).bind λ a=>rB a b
def Gx (k:BV)(w:Nat)(a:Ai)(g:List PV->Option PV):Prop:=
 ∀(A:Dj)(s:Aq)(X:List Ai)(args:List PV)(h:List Ae)(d:PV),CY w A->Gd k s->(∀b∈X,k.h0.get? b=Ah/\∃o,s.heap.get? b=Ab o)->
  RpL k X s.heap h args->g args=Ab d->Dq k A (call (.ref a) h) s (λ v z=>Rp k X z v d)
variable {a:Ai}{m:As->Option Ae} in
inductive t4 (W:BV)(k:Nat)(mg:As->Option Ae)(x:As)(g:List PV->Option PV):Prop
 |mk (a:Ai) (o:Eo) (fd:FF) (m:mg x=Ab (.ref a)) (e:W.h0.get? a=Ab o) (d:o.data=.func fd) (c1:o.cls≠.type "frame") (c2:o.cls≠.none) (ok:Gx W k a g)
variable {g:Array CC} in
structure E2 (W:BV)(C:GK)(k:Nat)(mg mb:As->Option Ae):Prop where
 g:W.h0.Ns Ce mg
 b:W.h0.Ns Ji mb
 blt:∀f:BF,mg f.name=Ah/\mb f.name=Ab f.val
 l9:mg "range"=Ah/\mb "range"=Ab (.type "range")
 l8:∃o,W.h0.get? NR=Ab o
 aa:∀x d,C.gv x=Ab d->∃v,mg x=Ab v/\∀X,(∀a∈X,W.h0.get? a=Ah)->Rp W X W.h0 v d
 fn:∀x g,C.fn x=Ab g->t4 W k mg x g
 row:∀r xs,C.rw r=Ab xs->∃vs n,W.h0.get? r=Ab (I3 vs n)/\vs.size<=B2/\vs.size=xs.length
theorem Bk (s:CE)(k:E9):∀(o:List Expr),o.all Cm=Ag->U4 s (M4 o k)=o.map λ e=>(Av,eval e k):=by
 intro o;induction o with
 |nil=>
  intro _;exact rfl
 |cons e o w=>
  intro h;simp only[Dv,AG] at h;have:U4 s (M4 (e::o) k)=(Av,eval e k)::U4 s (M4 o k):=by
   cases e<;>first |rfl |exact absurd h.1 DC
  rw[this,(w h.2)];rfl
theorem Dm {M:Dr}{es:List Expr}(h:es.all Cm=Ag)(k:Aw M A (callWith a f first (es.map λ e=>(Av,eval e z)) b) Q E s):Aw M A (callWith a f first (U4 a (M4 es z)) b) Q E s:=by
 rw[Bk a z es h];exact k
theorem FI.an (F:FI W V z Z X h O):∀a∈X,∃o,h.get? a=Ab o:=λ a k=>(F.alive a k).2
theorem NB {M:Dr}{a:Args->Aq->Prop}(h:List Expr)(k:Aw M A (spliced (h.map λ e=>(Av,eval e z))) (λ o w=>a ⟨o,[]⟩ w) E s):
 Aw M A (evalArgs f Ag (h.map λ e=>(Av,eval e z)) []) a E s:=by
 cases h with
 |nil=>
  refine Ac (DK k (λ o w C=>?_) λ _ _ x=>x);refine Ac (Ar ?_);refine Bt ?_;exact Ac (Ar (Ac (Ar (Ar C))))
 |cons e h=>exact Bf k
theorem Oj (h:List Expr):((h.map λ e=>((Av,eval e z):Bool×DJ Ae)).any (·.1))=Av:=by
 induction h with
 |nil=>rfl
 |cons _ _ k=>rw[Bl,List.any_cons,k];rfl
theorem CH (w:E2 W C k mg mb)(F:FI W V z Z X s.heap O)(G:Gd W s)(h:CX V x=Ag)(o:mg x=Ab v\/(mg x=Ah/\mb x=Ab v))(H:Q v s):
 Aw W.M A (eval (.Name x a) z) Q E s:=by
 unfold CX at h;rw[AG,beq_iff_eq] at h;refine Calls.Name_function_global F.kind (F.dp x h.2) ?_ (HV h.1).1;have N:=Dl G.ao w.g;rcases o with o |⟨b,c⟩
 ·exact Calls.loadGlobal_global (by rw[F.bx];exact N) o H
 ·exact Calls.loadGlobal_builtin (by rw[F.bx];exact N) b (by rw[F.blt];exact(Dl G.ao w.b)) c H
theorem VG (w:E2 W C k mg mb)(F:FI W V z Z X s.heap O)(G:Gd W s)(e:Rs C V O x=Ab d):Dq W A (eval (.Name x b) z) s (λ v N=>Rp W X N v d):=by
 cases o:O.lookup x with
 |none=>
  obtain⟨c,e⟩:=IC ((congrArg (Option.elim · _ Rh) o).symm.trans e)
  obtain⟨v,f,g⟩:=w.aa x d e;exact λ Q E h=>CH w F G c (.inl f) (h v s.heap s.toks (.refl _) (An _) ((g X λ a i=>(F.alive a i).1).ae G.ao))
 |some H=>
  have e:Rh H=Ab d:=(congrArg (Option.elim · _ Rh) o).symm.trans e
  cases H with
  |aa=>cases e;exact λ Q E h=>F.name o λ v r=>h v s.heap s.toks (.refl _) (An _) r
  |cg=>cases e;exact λ Q E h=>F.name o λ v r=>h v s.heap s.toks (.refl _) (An _) r.2
  |_=>contradiction
theorem IB (h:K8 r=Ag):behindInMarks a r=Av:=by
 cases r<;>first |rfl |exact absurd h DC
theorem LK (k:K8 e=Ag)(h:E9):∀v,foldedSetIterable e h v=pure v:=by
 intro v;cases e<;>first |rfl |exact absurd k DC
theorem RV (k:VC a=Ag)(name:As)(h:E9):attributeBase a name h (eval a h)=eval a h:=by
 cases a<;>first |rfl |exact absurd k DC
theorem iG (b:BF):(∃id,b.val=.builtin id)\/(∃T,b.val=.type T):=by
 cases b<;>first |exact .inl ⟨_,rfl⟩ |exact .inr ⟨_,rfl⟩
theorem Nz (k:List Expr)(h:CE)(o:k.all Cm=Ag)(s:k.length<20):
 ((U4 h (M4 k z)).all (λ x=>!x.1)&&(backToKw h (keywordEach [] z)).all (λ x=>x.1.isSome)&&decide (k.length+([]:List Keyword).length+(if([]:List Keyword).isEmpty then 0 else 1)<30))=Ag:=by
 rw[Bk h z k o];have:((k.map λ e=>((Av,eval e z):Bool×DJ Ae)).all (λ x=>!x.1))=Ag:=by
  rw[List.all_map,AR];intro _ _;rfl
 rw[this];rw[show backToKw h (keywordEach [] z)=[] from rfl];simp;exact Ao s (by decide)
theorem Sm (r:Rp W X h v d)(w:(∃x,d=.str x/\T="str")\/(∃k,d=.list k/\T="list")):
 (∀(s:Aq),s.heap=h->s.TypeIs v T)/\(∀a,v=.ref a->∃ob,h.get? a=Ab ob/\ob.dict=Ah):=by
 rcases w with⟨x,rfl,rfl⟩ |⟨k,rfl,rfl⟩
 ·obtain⟨_,rfl,_⟩:=r.aj;exact⟨λ s _=>KV s _ _,λ a e=>nomatch e⟩
 ·obtain⟨a,z,n,rfl,o,A,z1,C⟩:=r.aj;exact⟨λ s e=>⟨_,by rw[e];exact o,rfl⟩,λ b e=>by cases e;exact⟨_,o,rfl⟩⟩
theorem kA {f:As->Option PV}(e:Vr b f=Ab d):∃x,b=.str x:=by
 cases b with
 |str x=>exact⟨x,rfl⟩
 |_=>exact no e
theorem mB {f:List PV->Option PV}(e:mD b f=Ab d):∃x,b=.list x:=by
 cases b with
 |list x=>exact⟨x,rfl⟩
 |_=>exact no e
theorem Ys (e:Mg m b a=Ab d):(∃x,b=.str x/\m.ty="str")\/(∃h,b=.list h/\m.ty="list"):=by
 cases m with
 |dh=>exact .inr ((mB e).imp λ _ q=>⟨q,rfl⟩)
 |_=>exact .inl ((kA e).imp λ _ q=>⟨q,rfl⟩)
theorem Vb (r:Rp W X s.heap v d)(e:Pg d=Ab b):Dq W A (truthy v) s (λ h _=>h=b):=
 .of λ _ _ k=>R6 r e λ o=>k _ _ o (.refl _) rfl
variable {t:Expr}{y:As}{a:Dt} in
def Bu:A5->As->Dt->A5
 |[],x,a=>[(x,a)]
 |(y,t)::O,x,a=>if y=x then(x,a)::O else(y,t)::Bu O x a
theorem Ca (x:As)(o:Dt):∀(h:A5)(y:As),(Bu h x o).lookup y=if y=x then Ab o else h.lookup y:=by
 intro h;induction h with
 |nil=>
  intro y;by_cases q:y=x
  ·subst q;rw[if_pos rfl,AF]
  ·rw[if_neg q,AK q]
 |cons k h s=>
  intro y;show C9 y (if k.1=x then(x,o)::h else(k.1,k.2)::Bu h x o)=_;by_cases q:k.1=x
  ·subst q;rw[if_pos rfl];by_cases r:y=k.1
   ·subst r;rw[if_pos rfl,AF]
   ·rw[if_neg r,AK r,AK r]
  ·rw[if_neg q];by_cases r:y=k.1
   ·subst r;rw[AF,AF,if_neg q]
   ·rw[AK r,AK r];exact s y
variable {a:List PV}{b:List (As×PV)} in
def Ta (h:Bg):List Expr->List PV->A5->Option A5
 |[],a,O=>match a with
  |[]=>Ab O
  |_::_=>Ah
 |e::b,a,O=>match a with
  |[]=>Ah
  |d::a=>(rR e).bind λ x=>if A3 h x then Ta h b a (Bu O x (.aa d)) else Ah
variable {a:List (As×PV)} in
def GH (h:Bg)(t:Expr)(d:PV)(k:A5):Option A5:=match pA t with
 | .name x _=>if A3 h x then Ab (Bu k x (.aa d)) else Ah
 | .ba a _ _=>(qH d).bind λ o=>Ta h a o k
 | .no=>Ah
theorem Rj {a:A5}(h:∀y,O.lookup y=a.lookup y)(y:As):(Bu O x b).lookup y=C9 y ((x,b)::a):=by
 rw[Ca];by_cases q:y=x
 ·subst q;rw[if_pos rfl,AF]
 ·rw[if_neg q,AK q];exact h y
theorem Zv (e:GH V t d O=Ab a):(∃x p,t=.Name x p/\A3 V x=Ag/\Bu O x (.aa d)=a)\/∃h k p o,t=.Tuple h k p/\d=.ba o/\Ta V h o O=Ab a:=by
 unfold GH at e;have k:=Vf t;generalize pA t=v at e k;cases v with
 |name x p=>exact .inl ⟨x,p,k,Xf e⟩
 |ba h n p=>obtain⟨o,s,e⟩:=AM.mp e;exact .inr ⟨h,n,p,o,k,Tu s,e⟩
 |no=>contradiction
theorem Zw:∀(w:List Expr)(o:List PV)(z s h:A5),(∀y,z.lookup y=s.lookup y)->Ta V w o z=Ab h->∃k,FO V w o s=Ab k/\∀y,h.lookup y=k.lookup y:=by
 intro w;induction w with
 |nil=>
  intro o z s h A e;cases o with
  |nil=>cases e;exact⟨s,rfl,A⟩
  |cons _ _=>contradiction
 |cons C w E=>
  intro o z s h A e;cases o with
  |nil=>contradiction
  |cons d o=>
   refine Jt λ Z H=>?_;obtain⟨x,N,e⟩:=AM.mp (e);obtain⟨O,e⟩:=IC e;obtain⟨k,Q,W⟩:=E o _ ((x,.aa d)::s) h (Rj A) e;refine H ?_;refine⟨k,?_,W⟩;show((rR C).bind λ x=>if A3 V x then FO V w o ((x,.aa d)::s) else Ah)=Ab k;rw[N];exact(if_pos O).trans Q
theorem iE (e:GH V t d O=Ab a):∃h,Hl V t d O=Ab h/\∀y,a.lookup y=h.lookup y:=by
 rcases Zv e with⟨x,p,rfl,k,rfl⟩ |⟨o,_,_,s,rfl,rfl,e⟩
 ·exact⟨(x,.aa d)::O,if_pos k,Rj λ _=>rfl⟩
 ·exact Zw o s O O a (λ _=>rfl) e
inductive Fl where
 |next (O:A5)
 |brk (O:A5)
 |ret (d:PV)
structure XB (W:BV)(sc:Bg)(ah:E9)(hb:AT):Prop where
 ao:BB W W.h0 hb
 dl:W.di hb
 wr:∀a,Ec sc ah a->hb.get? a=Ah
variable {c:Ai}{es:List (As×PV)}{g:Array CC} in
inductive w5 (h:AT)(b:Ai):Prop
 |mk (o:Eo) (es:_) (ep:_) (g:h.get? b=Ab o) (c:o.cls=.type "frame") (d:o.data=.dict es ep)
def D3 (h:E9)(k:AT):Prop:=w5 k h.locals
theorem D3.bg (f:D3 z h)(E:BB W h H):D3 z H:=by
 obtain⟨o,s,w,N,hc,A⟩:=f;rcases E.1 _ o N with k |⟨_,_,O,k⟩ |⟨_,Q,C,k,_⟩
 ·exact⟨o,s,w,k,hc,A⟩
 ·exact⟨_,s,w,k,hc,A⟩
 ·subst k;contradiction
theorem D3.bo (f:D3 z h)(K:F3 h H):D3 z H:=by
 obtain⟨o,E,N,O,hc,Q⟩:=f;obtain⟨V,k,s,w,A,C⟩:=K _ o E N O Q;exact⟨V,k,s,w,A.trans hc,C⟩
theorem D3.at (f:D3 z h)(k:∀o,h.get? z.locals=Ab o->H.get? z.locals=Ab o):D3 z H:=by obtain⟨o,s,w,A,c,d⟩:=f;exact⟨o,s,w,k o A,c,d⟩
variable {tk:Nat}{fr:List Nat} in
structure XS (W:BV)(sc:Bg)(ah:E9)(hb:AT)(Z X:List Ai)(s:Aq)(ρ:A5):Prop where
 F:FI W sc ah Z X s.heap ρ
 le:BB W hb s.heap
 tk:1<=s.toks
 fr:∀a∈X,a∉Z->hb.get? a=Ah
 fc:D3 ah s.heap
def D9 (k:Bg)(h:E9)(s X:List Ai)(w z:AT):Prop:=∀b o,((b∉X/\EL o)\/(b∈s/\¬Ec k h b/\o.cls≠.type "frame"/\o.cls≠.none))->w.get? b=Ab o->z.get? b=Ab o
theorem D9.refl:D9 V z Z X h h:=λ _ _ _ e=>e
theorem D9.trans (a:D9 V z Z X h H)(b:D9 V z Z X H d):D9 V z Z X h d:=λ c o hc e=>b c o hc (a c o hc e)
theorem BB.ap (k:BB W h H):D9 V z Z X h H:=λ _ _ hc e=>hc.elim (λ q=>D6 k e q.2) λ q=>k.keep e q.2.2.1 q.2.2.2
theorem Ls.ap (S:Ls W (Ec V z) h H)(k:∀a,Ec V z a->a∈X):D9 V z Z X h H:=λ b o hc e=>S.keep b o (λ q=>hc.elim (λ c=>c.1 (k b q)) λ c=>c.2.1 q) e
theorem D9.eo (k:BM a h H)(s:a∈X)(w:a∉Z):D9 V z Z X h H:=λ b o hc e=>(k.2 b (λ q=>hc.elim (λ c=>c.1 (q▸s)) λ c=>w (q▸c.1))).trans e
def KA (z:BV)(A:Bg)(s:E9)(C:AT)(w X:List Ai)(k:Aq)(H:Fl)(E:FG->Aq->Prop):Prop:=match H with
 | .next O=>∀h o,XS z A s C w X {k with heap:=h,toks:=o} O->D9 A s w X k.heap h->k.toks<=o->E .next {k with heap:=h,toks:=o}
 | .brk O=>∀h o,XS z A s C w X {k with heap:=h,toks:=o} O->D9 A s w X k.heap h->k.toks<=o->E .brk {k with heap:=h,toks:=o}
 | .ret d=>∀v h o,BB z C h->k.toks<=o->Rp z w h v d->E (.ret v) {k with heap:=h,toks:=o}
theorem XS.gd (S:XS W V z N Z X s O)(B:XB W V z N):Gd W s:=⟨B.ao.trans S.le,S.le.2 B.dl,S.tk⟩
theorem XS.ae {tk:Nat}(S:XS W V z N Z X s O)(h:BB W s.heap H)(l:s.toks<=tk):XS W V z N Z X {s with heap:=H,toks:=tk} O:=⟨S.F.ae h,S.le.trans h,Aa S.tk l,S.fr,S.fc.bg h⟩
theorem XS.aw (S:XS W V z N Z X s O)(k:∀x h,a.lookup x=Ab h->O.lookup x=Ab h):XS W V z N Z X s a:=⟨S.F.aw k,S.le,S.tk,S.fr,S.fc⟩
theorem GY (w:A.handled=Ah)(B:XB W V z N)(S:XS W V z N Z X s O)(e:GH V t d O=Ab b)(r:Rp W X s.heap v d){c:Unit->Aq->Prop}
 (C:∀h k,XS W V z N Z X {s with heap:=h,toks:=k} b->Ls W (Ec V z) s.heap h->s.toks<=k->c () {s with heap:=h,toks:=k}):Aw W.M A (NV t z v) c E s:=by
 obtain⟨i,H,Q⟩:=iE e;refine Cz (An _) (NI S.F w H r λ h k f St l=>?_);have o:=l;exact C h k ⟨f.aw λ x j q=>by rw[<-Q];exact q,St.j9 N (λ a g=>B.wr a g) S.le,Aa S.tk o,S.fr,S.fc.bo St.cls⟩ St o
def Xc (e:Expr):Bool:=e.ctorIdx==23||e.ctorIdx==25
theorem Qy (h:Xc t=Ag):(Jk [t] z).map (·.2)=[NV t z]:=by
 cases t<;>first |exact absurd h DC |rfl
theorem CA {c:FG->Aq->Prop}(N:Xc t=Ag)(C:Dk [t] a b.line z=pure Av)(H:swappedStores [t] a z=pure Ah)
 (O:Aw W.M A (eval a z) (λ v h=>Aw W.M A (NV t z v) (λ _ k=>c .next k) E h) E s):Aw W.M A (exec (.Assign [t] a b) z) c E s:=by
 rw[arm_exec_Assign];refine Ac (A0 (Ac (EI C ?_)));simp only[Bw,if_false];refine Ac (DK O (λ v h o=>Ac (EI H ?_)) λ _ _ x=>x);rw[Qy N];exact Ac (DK o (λ _ _ w=>Ar w) λ _ _ x=>x)
theorem Q8 {m:As->Option Ae}(B:XB W V z N)(S:XS W V z N Z X s O)(hh:A.handled=Ah)(e:GH V t d O=Ab f){g:FG->Aq->Prop}
 (hQ:∀h k,(∀b o,H.get? b=Ab o->b≠c->¬Ec V z b->h.get? b=Ab o)->XS W V z N Z X {s with heap:=h,toks:=k} f->D9 V z Z X s.heap h->s.toks<=k->g .next {s with heap:=h,toks:=k})
 (R:s.heap.get? c=Ah) (Q:BB W s.heap H) (l:s.toks<=i) (hn:H.Ns c m) (r:Rp W (c::X) H (.ref D) d):
 JB W.M A E (Ab λ v=>assignAll v [NV t z]) (λ _ u=>g .next u) (.ref D) c (.ok .next) {s with heap:=H,toks:=i}:=by
 have y:∃o,H.get? c=Ab o:=by obtain⟨o,_,_,j,_⟩:=hn;exact⟨o,j⟩
 have n:c∉X:=λ q=>by obtain⟨o,j⟩:=S.F.an c q;exact Do R j
 have G:c∉AW z:=λ q=>n (S.F.zx _ (S.F.bb _ q));have U:N.get? c=Ah:=BB.bh S.le R;have I:XS W V z N (c::Z) (c::X) {s with heap:=H,toks:=i} O:=
  ⟨S.F.fresh (B.ao.trans S.le) Q R y,S.le.trans Q,Aa S.tk l,λ a Y hz=>S.fr a ((Ak.mp Y).resolve_left λ q=>hz (q▸Ad)) λ q=>hz (Af _ q),S.fc.bg Q⟩
 refine GY hh B I e r λ J p w St L=>?_;have C:J.Ns c m:=by obtain⟨o,es,ep,j,x⟩:=hn;exact⟨o,es,ep,St.keep c o (λ q=>n (S.F.br q)) j,x⟩
 refine⟨m,C,λ h M=>?_⟩;refine hQ h p (λ b o e N hw=>(M.2 b N).trans (St.keep b o hw e)) ⟨w.F.bp (λ b o N e=>(M.2 b N).trans e) G n S.F.zx,w.le.az U (λ o vs j T=>?_) M,w.tk,S.fr,w.fc.at λ o j=>(M.2 _ (λ q=>G (q▸Ad))).trans j⟩ (λ b o T e=>?_) (Aa l L)
 ·obtain⟨o',es,ep,a0,a1,_⟩:=C;obtain rfl:=A4 j a0;cases Eq.trans (Eq.symm T) a1
 ·have a2:b≠c:=λ q=>by simp only[q,R] at e;contradiction
  refine Eq.trans (M.2 b a2) ?_;exact(St.ap (X:=X) (Z:=Z) λ a Y=>S.F.br Y) b o T (Q.ap b o T e)
theorem Ts {m:As->Option Ae}(B:XB W V z N)(S:XS W V z N Z X s O)(Q:A.handled=Ah){d:PV}(e:GH V t d O=Ab b){c:FG->Aq->Prop}(g:KA W V z N Z X s (.next b) c)
 {D a:Ai} (i:s.heap.get? a=Ah) (C:BB W s.heap H) (l:s.toks<=f) (j:H.Ns a m) (r:Rp W (a::X) H (.ref D) d):
 JB W.M A E (Ab λ v=>assignAll v [NV t z]) (λ _ o=>c .next o) (.ref D) a (.ok .next) {s with heap:=H,toks:=f}:=
 Q8 B S Q e (λ w h _ S k l=>g w h S k l) i C l j r
def Fz (k:Bg)(h:E9)(o:AT)(x:As)(v:Ae):Prop:=
 (k.names.lookup x=Ab .local/\∃m,o.Ns h.locals m/\m x=Ab v)\/((k.names.lookup x=Ab .cell\/k.names.lookup x=Ab .free)/\∃c,h.cells.lookup x=Ab c/\o.IsCell c (Ab v))
theorem Fz.eh (a:Fz V z h x v)(b:Fz V z h x d):v=d:=by
 rcases a with⟨a,m,N,e⟩ |⟨a,c,hc,i⟩<;>rcases b with⟨b,j,w,O⟩ |⟨b,l,A,Q⟩
 ·obtain⟨o,n,p,C,E,_,W⟩:=N;obtain⟨Z,f,g,s,k,_,H⟩:=w;obtain rfl:=A4 C s;cases E.symm.trans k;have:Ab v=Ab d:=by rw[<-e,<-O,<-W,<-H]
  injection this
 ·rcases b with b |b<;>cases a.symm.trans b
 ·rcases a with a |a<;>cases b.symm.trans a
 ·obtain rfl:=A4 hc A;obtain⟨o,C,E⟩:=i;obtain⟨Z,s,k⟩:=Q;obtain rfl:=A4 C s;rw[E] at k;injection k with k;injection k
theorem Fz.ae (a:Fz V z h x v)(k:BB W h H):Fz V z H x v:=by
 rcases a with⟨a,m,o,e⟩ |⟨a,c,hc,i⟩
 ·exact .inl ⟨a,m,Dl k o,e⟩
 ·exact .inr ⟨a,c,hc,G4 k i⟩
theorem FI.at (F:FI W V z Z X h O)(o:O.lookup x=Ab sl):∃v,Fz V z h x v/\BU W Z X h v sl:=by
 obtain⟨w,A⟩:=F.dt x sl o;rcases w with k |k
 ·obtain⟨m,C,s⟩:=F.ns;obtain⟨v,e,r⟩:=s x sl k o;exact⟨v,.inl ⟨k,m,C,e⟩,r⟩
 ·obtain⟨c,E,e,i,s⟩:=F.cell x k;obtain⟨v,rfl,r⟩:=s sl o;exact⟨v,.inr ⟨k,c,e,i⟩,r⟩
theorem FI.bv (F:FI W V z Z X s.heap O)(w:O.lookup x=Ab a)(C:Fz V z s.heap x v)(o:Q v s):Aw W.M A (eval (.Name x b) z) Q E s:=by
 refine NQ ?_ (HV (F.dt x a w).2).1;rcases C with⟨h,m,H,e⟩ |⟨h,c,e,i⟩
 ·exact FB F.kind (F.ea x h) H e o
 ·rcases h with h |h
  ·exact J4 F.kind (F.da x h) e i o
  ·rcases F.df x h with k |k
   ·exact wpAny_loadName_free F.kind k e i o (HV (F.dt x a w).2).2
   ·exact J4 F.kind k e i o
theorem FI.cu (F:FI W V z Z X h O)(j:O.lookup x=Ab (.own d))(G:Fz V z h x (.ref a))(Q:BM a h H)(l:a∈X)(n:a∉Z)(t:BX W X H a f):
 FI W V z Z X H (Bu O x (.own f)):=by
 have C:∀y v w,Fz V z h y v->O.lookup y=Ab w->BU W Z X h v w->∀k,(Bu O x (.own f)).lookup y=Ab k->BU W Z X H v k:=by
  intro y v w p E r k o;rw[Ca] at o;by_cases q:y=x
  ·subst y;rw[if_pos rfl] at o;injection o with o;subst o;exact⟨a,Fz.eh p G,l,n,t⟩
  ·rw[if_neg q,E] at o;injection o with o;subst o;cases w with
   |aa e=>exact Rp.az Q l r
   |av u=>exact r
   |cg u e=>exact⟨r.1,Rp.az Q l r.2⟩
   |own e=>exact absurd (F.ci y x e d E j) q
 have A:∀y k,(Bu O x (.own f)).lookup y=Ab k->∃w,O.lookup y=Ab w:=by
  intro y k o;rw[Ca] at o;by_cases q:y=x
  ·subst y;exact⟨_,j⟩
  ·rw[if_neg q] at o;exact⟨_,o⟩
 exact{F with
  ns:=by
   obtain⟨m,B,N⟩:=F.ns;refine⟨m,B.sameBut Q (λ q=>n (q▸F.bb _ Ad)),λ y k E o=>?_⟩;obtain⟨w,s⟩:=A y k o;obtain⟨v,e,r⟩:=N y w E s;exact⟨v,e,C y v w (.inl ⟨E,m,B,e⟩) s r k o⟩
  cell:=λ y E=>by
   obtain⟨c,I,e,i,N⟩:=F.cell y E;refine⟨c,I,e,i.sameBut Q (λ q=>n (q▸F.bb _ (Di e))),λ k o=>?_⟩;obtain⟨w,s⟩:=A y k o;obtain⟨v,rfl,r⟩:=N w s;exact⟨v,rfl,C y v w (.inr ⟨E,c,e,i⟩) s r k o⟩
  dt:=λ y k o=>by
   obtain⟨w,s⟩:=A y k o;exact F.dt y w s
  alive:=λ b D=>⟨(F.alive b D).1,GD Q t.alive (F.alive b D).2⟩
  ci:=λ y J L M R S=>by
   have g:∀y e,(Bu O x (.own f)).lookup y=Ab (.own e)->y=x:=λ y e o=>by
    by_cases q:y=x
    ·exact q
    ·rw[Ca,if_neg q] at o;exact F.ci y x e d o j
   rw[g y L R,g J M S]}
theorem FI.iu (F:FI W V z b X h O)(k:∀a∈Z,a∈b)(s:∀a∈AW z,a∈Z):FI W V z Z X h O:=
 F.same s (λ a w=>F.zx a (k a w)) (λ _ h=>h) (λ _ _ _ _ h=>h) (λ _ _ _ _ r=>r.to (λ _ _ r=>r) λ a _ m A o=>⟨m,λ q=>A (k a q),o⟩) F.alive
theorem XS.cu (S:XS W V z N Z X s O)(C:O.lookup x=Ab (.own d))(E:Fz V z s.heap x (.ref a))(h:BM a s.heap H)(A:a∈X)(k:a∉Z)
 (w:∀o Q,s.heap.get? a=Ab o->o.data=.fields Q->o.cls≠.none/\o.cls≠.type "code") (e:BX W X H a b) (l:s.toks<=c):
 XS W V z N Z X {s with heap:=H,toks:=c} (Bu O x (.own b)):=
 ⟨S.F.cu C E h A k e,S.le.az (S.fr a A k) w h,Aa S.tk l,S.fr,S.fc.at λ o f=>(h.2 _ (λ q=>k (q▸S.F.bb _ Ad))).trans f⟩
theorem Rq (B:XB W V z N)(S:XS W V z N Z X s O)(t:A3 V x=Ag)(Q:∀y e,O.lookup y=Ab (.own e)->y=x)
 (j:s.heap.get? a=Ah) (m:BB W s.heap H) (l:s.toks<=c) (u:BX W (a::X) H a d) {f:Unit->Aq->Prop}
 (v:∀k h,XS W V z N Z (a::X) {s with heap:=k,toks:=h} (Bu O x (.own d))->s.toks<=h->f () {s with heap:=k,toks:=h}):
 Aw W.M A (NV (.Name x g) z (.ref a)) f E {s with heap:=H,toks:=c}:=by
 have n:N.get? a=Ah:=BB.bh S.le j;have p:a∉X:=λ q=>by obtain⟨o,D⟩:=S.F.an a q;exact Do j D
 have r:a∉Z:=λ q=>p (S.F.zx a q);refine II (FI.cw (s:={s with heap:=H,toks:=c}) ((S.F.fresh (B.ao.trans S.le) m j u.alive).iu (λ b N=>Af _ N) S.F.bb) (sl:=.own d) (Fw t).2 (Fw t).1 ⟨a,rfl,Ad,r,u⟩ (λ e L y G I=>Q y G I) λ k h i St C=>?_);refine v k h ⟨i.aw λ y M q=>?_,St.j9 N (λ b w=>B.wr b w) (S.le.trans m),Aa S.tk (Aa l C),λ b w J=>?_,(S.fc.bg m).bo St.cls⟩ (Aa l C)
 ·rw[Ca] at q;by_cases e:y=x
  ·subst y;rw[if_pos rfl] at q;rw[AF];exact q
  ·rw[if_neg e] at q;rw[AK e];exact q
 ·rcases Ak.mp w with rfl |w
  ·exact n
  ·exact S.fr b w J
variable {i:Nat} in
def uS:PV->Option As
 | .str i=>Ab i
 |_=>Ah
theorem aN (h:uS d=Ab i):d=.str i:=by
 cases d with
 |str j=>cases h;rfl
 |_=>cases h
variable {a:List PV}{b:List (As×PV)} in
def qS (d h v:PV):Option PV:=match d with
 | .list a=>(mO h).bind λ h=>if 0<=h/\h<a.length then Ab (.list (a.set h.toNat v)) else Ah
 | .dict b=>(uS h).bind λ h=>if b.length<B2 then Ab (.dict (Fb b h v)) else Ah
 |_=>Ah
def WS (h:A5)(x:As):Bool:=h.all λ q=>match q.2 with | .own _=>q.1==x |_=>Ag
theorem Ci (h:AT):h.get? h.objs.size=Ah:=by
 cases e:h.get? h.objs.size with
 |none=>rfl
 |some o=>exact absurd (AU e) (EY _)
theorem Qu (O:∃w,a=.list w)(V:Rp W X s.heap g a)(rb:Rp W X s.heap f b)(e:GI c a b=Ab d):
 Dq W A (Fn c g f) s (λ v Z=>v=.ref s.heap.objs.size/\BX W (s.heap.objs.size::X) Z s.heap.objs.size d):=.of λ Q E i=>by
 obtain⟨w,rfl⟩:=O;have k:∀{o:Array Ae}{z:List PV},PV.list z=d->o.size<=B2->RpL W X s.heap o.toList z->Q (.ref s.heap.objs.size) {s with heap:=s.heap.push (I3 o 0)}:=λ q h r=>
  i _ _ _ (.push _ _) ⟨rfl,q▸⟨_,_,AD _ rfl,h,(r.be (Ci s.heap)).ae (BB.push _ _)⟩⟩
 obtain⟨_,_,_,rfl,C,y,z1,H⟩:=V.aj;cases c with
 |Add=>
  cases b with
  |list B=>
   obtain⟨_,_,_,rfl,j,D,z2,l⟩:=rb.aj;have q:=W4 H l e;exact UT C j q.1 (k q.2.1 q.2.2.1 q.2.2.2)
  |_=>exact no e
 |Mult=>
  refine Hk (P:=λ f=>Aw W.M A (Fn .Mult _ f) Q E s) rb e λ n u e=>?_;obtain⟨v,x,rfl,N,m,p,t⟩:=W3 H e;exact T0 C N.1 N.2 (k m p t)
 |_=>exact no e
theorem Jr (r:BX W X h a d):∀o w,h.get? a=Ab o->o.data=.fields w->o.cls≠.none/\o.cls≠.type "code":=by
 intro o w z A;cases d with
 |list H=>obtain⟨N,n,e,_⟩:=r;obtain rfl:=A4 z e;contradiction
 |dict O=>obtain⟨C,e,_⟩:=r;obtain⟨Q,E,V,k,Z,s,_⟩:=e;obtain rfl:=A4 z k;cases s.symm.trans A
 |_=>exact r.elim
theorem RpL.set {e:List PV}{c:List Ae}(k:Rp W X h v d)(j:Nat)(r:RpL W X h c e):RpL W X h (c.set j v) (e.set j d):=
 r.bt (P:=λ c e=>∀j,RpL W X h (c.set j v) (e.set j d)) (λ _=>.nil) (λ _ _ _ _ a b i j=>j.casesOn (.cons k b) λ j=>.cons a (i j)) j
theorem Ze (k:s.heap.get? D=Ab (I3 c n))(C:s.heap.get? b=Ab (I3 a m))(o:c.size+a.size<=B2)
 (H:∀w N,w.get? D=Ab (I3 (c++a) N)->BM D s.heap w->Q .none {s with heap:=w}):Aw W.M A (call (.builtin "list.extend") [.ref D,.ref b]) Q E s:=by
 have h:=FW;have O:B2=1048576:=rfl;refine Ig F.slot_list_extend ⟨_,k,rfl⟩ F.entry_list_extend (F.args_list_extend_2 _ _) (AutoSeq1.list_extend_list_list_0 D c n b a m ?_ (Aa (Ii o) h) (BD (Aa o h))) ⟨k,C,?_⟩
 ·exact λ z=>absurd (of_decide_eq_true (AC.mp z).2) (B7.mpr (Aa o h))
 ·exact H _ _ (PySem.IsL.update k (λ x=>x++a)) (BP ..)
def Ek (h:List As)(k:A5):A5:=k.filter λ q=>h.contains q.1
theorem SN (w:List As)(x:As)(s:Dt):∀o:A5,(Ek w o).lookup x=Ab s->o.lookup x=Ab s:=by
 intro o;induction o with
 |nil=>
  intro h;cases h
 |cons z o k=>
  intro h;obtain⟨y,t⟩:=z;unfold Ek at h;rw[FN] at h;by_cases q:x=y
  ·subst q;split at h
   ·rw[AF] at h ⊢;exact h
   ·rename_i hk;have:=k h;exfalso;exact hk (Ax.mp (mem_of_lookup h)).2
  ·rw[AK q];split at h
   ·rw[AK q] at h;exact k h
   ·exact k h
theorem KA.aq {c:FG->Aq->Prop}(w:KA W V z N Z X s e c)(E:D9 V z Z X s.heap b)(l:s.toks<=a):KA W V z N Z X {s with heap:=b,toks:=a} e c:=by
 cases e with
 |next H=>exact λ h k S A o=>w h k S (E.trans A) (Aa l o)
 |brk H=>exact λ h k S A o=>w h k S (E.trans A) (Aa l o)
 |ret d=>exact λ v h k C o r=>w v h k C (Aa l o) r
theorem VA (h:WS O x=Ag):∀y e,O.lookup y=Ab (.own e)->y=x:=λ y e k=>by
 have:=AR.mp h (y,.own e) (mem_of_lookup k);exact BQ this
inductive w6 (W:BV)(a:Ai)(fd:FF):Prop
 |mk (o:Eo) (e:W.h0.get? a=Ab o) (d:o.data=.func fd) (c1:o.cls≠.type "frame") (c2:o.cls≠.none)
variable {c f:Ai}{vs:List Ae}{q:CE}{t:Expr} in
inductive t3 (W:BV)(fd:FF):Prop
 |mk (c:Ai) (o:Eo) (vs:Array Ae) (t:Tok) (f:fd.code=.ref c) (e:W.h0.get? c=Ab o) (d:o.data=.fields vs) (q:vs[1]? =Ab (.str fd.qualname t)) (c1:o.cls≠.type "frame") (c2:o.cls≠.none)
structure Gw (W:BV)(a:Ai)(fd:FF)(ps:List As)(body:List Bs):Prop where
 obj:w6 W a fd
 code:t3 W fd
 body:fd.body=.stmts body
 bind:∀(vals:List Ae)(s:Aq),BB W W.h0 s.heap->vals.length=ps.length->BindsTo s fd ⟨vals,[]⟩ (ps.zip vals)
 mn:fd.closure=[]
 co:fd.scope.isCoroutine=Av
 bi:fd.scope.isGenerator=Av
 kind:fd.scope.kind=.function
 bx:fd.globals=Ce
 blt:fd.builtins=Ji
 jj:∀x∈ps,D5 x=Ag/\(fd.scope.names.lookup x=Ab .local\/fd.scope.names.lookup x=Ab .cell)
 nd:ps.Nodup
 names:(fd.scope.names.map (·.1)).Nodup
 free:∀x,fd.scope.names.lookup x≠Ab .free
 ng:W.h0.NoLimit
theorem IS {c:List As}{a:Type}{d:a}{b:List a}(h:(c.zip b).lookup x=Ab d):x∈c:=(List.of_mem_zip (mem_of_lookup_some h)).1
theorem UQ (s:As->Option GA):∀(k:List (As×Ae))(m:As->Option Ae),x∉k.map (·.1)->Oi s k m x=m x:=by
 intro k;induction k with
 |nil=>
  intro m _;exact rfl
 |cons w r o=>
  intro m h;obtain⟨n,v⟩:=w;simp only[Oi,o _ (λ q=>h (by simp at q ⊢;exact .inr q))];split
  ·have:x≠n:=λ q=>h (by simp[q]);exact if_neg ‹_›
  ·rfl
theorem UR (s:As->Option GA):∀(k:List (As×Ae))(m:As->Option Ae),x∉k.map (·.1)->Q3 s k m x=m x:=by
 intro k;induction k with
 |nil=>
  intro m _;exact rfl
 |cons w r o=>
  intro m h;obtain⟨n,v⟩:=w;simp only[Q3,o _ (λ q=>h (by simp at q ⊢;exact .inr q))];split
  ·rfl
  ·have:x≠n:=λ q=>h (by simp[q]);exact if_neg ‹_›
theorem R3 {a c:Type}{x:a}{b:List a}{vs:List c}(h:x∈(b.zip vs).map (·.1)):x∈b:=by
 obtain⟨_,k,rfl⟩:=AH.mp h;exact(List.of_mem_zip k).1
class inductive MT (W:BV) (X:List Ai) (h:AT):List Ae->List Dt->Prop
 |nil:MT W X h [] []
 |aa {v0:Ae} {vs0:List Ae} {d:PV} {ds0:List Dt}:Rp W X h v0 d->MT W X h vs0 ds0->MT W X h (v0::vs0) (.aa d::ds0)
 |av {v0 vs0 ds0}:MT W X h vs0 ds0->MT W X h (v0::vs0) (.av v0::ds0)
theorem MT.gw (r:RpL W X h b c):MT W X h b (c.map Dt.aa):=r.bt (P:=λ b c=>MT W X h b (c.map Dt.aa)) .nil λ _ _ _ _ a _ i=>.aa a i
theorem MT.length {a:List Ae}{b:List Dt}(r:MT W X c a b):a.length=b.length:=by
 induction r with
 |nil=>rfl
 |aa _ _ i=>exact congrArg (·+1) i
 |av _ i=>exact congrArg (·+1) i
theorem MT.bi {a c:AT}(hk:∀b o,a.get? b=Ab o->b∉X->(o.cls=.type "list"\/o.cls=.type "tuple"\/o.cls=.type "dict")->c.get? b=Ab o/\b∉Y)(r:MT W X a d e):MT W Y c d e:=by
 induction r with
 |nil=>exact .nil
 |aa r _ i=>exact .aa (r.bi hk) i
 |av _ i=>exact .av i
theorem MT.fk {c:List As}(r:MT W X h b a)(q:(c.zip a).lookup x=Ab (.own d)):False:=by
 replace q:=(List.of_mem_zip (mem_of_lookup_some q)).2
 induction r with
 |nil=>exact BH q
 |aa _ _ k=>exact(Ak.mp q).elim Dt.noConfusion k
 |av _ k=>exact(Ak.mp q).elim Dt.noConfusion k
theorem S9 (s:As->Option GA):∀{o:List As}{k:List Ae}{w:List Dt}(m:As->Option Ae),MT W X h k w->o.Nodup->(o.zip w).lookup x=Ab a->
 (s x=Ab .local->∃v,Oi s (o.zip k) m x=Ab v/\BU W Z X h v a)/\(s x≠Ab .local->∃v,Q3 s (o.zip k) m x=Ab v/\BU W Z X h v a):=by
 intro o;induction o with
 |nil=>intro _ _ m _ _ e;contradiction
 |cons p o O=>
  intro k w m r N e;rw[BA] at N
  suffices A:∀{v:Ae}{C:List Ae}{d0:Dt}{w:List Dt},BU W Z X h v d0->MT W X h C w->((p,d0)::o.zip w).lookup x=Ab a->
   (s x=Ab .local->∃H,Oi s ((p,v)::o.zip C) m x=Ab H/\BU W Z X h H a)/\(s x≠Ab .local->∃H,Q3 s ((p,v)::o.zip C) m x=Ab H/\BU W Z X h H a) by
   cases r with
   |nil=>contradiction
   |@aa v C d w r E=>exact A (d0:=.aa d) r E e
   |@av v C w E=>exact A (d0:=.av v) rfl E e
  intro v C d0 w Q E e;by_cases q:x=p
  ·subst q;obtain rfl:=A4 AF e;have V:x∉(o.zip C).map (·.1):=λ z=>N.1 (R3 z)
   constructor
   ·intro hk;refine⟨v,?_,Q⟩;rw[Oi,UQ s _ _ V,if_pos hk];simp
   ·intro hk;refine⟨v,?_,Q⟩;rw[Q3,UR s _ _ V,if_neg hk];simp
  ·rw[AK q] at e;exact⟨(O _ E N.2 e).1,(O _ E N.2 e).2⟩
theorem Lk (k:h.objs.size<=a):h.get? a=Ah:=by
 cases e:h.get? a with
 |none=>rfl
 |some o=>exact absurd (AU e) (B7.mpr k)
theorem TS:∀{l:List (As×Ai)},(l.Pairwise λ a b=>a.2≠b.2)->(y,c)∈l->(d,c)∈l->y=d:=by
 intro l;induction l with
 |nil=>
  intro _ h _;cases h
 |cons p l w=>
  intro s z A;rw[JV] at s;rcases Ak.mp z with k |k<;>rcases Ak.mp A with o |o
  ·have:=k.trans o.symm;injection this
  ·exact absurd (by rw[<-k]) (s.1 _ o)
  ·exact absurd (by rw[<-o]) (s.1 _ k)
  ·exact w s.2 k o
theorem Mq:∀(k:List (As×GA))(n:Nat)(o:List (As×Ai)),(k.map (·.1)).Nodup->(∀p∈o,p.1∉k.map (·.1))->(∀p∈o,o.lookup p.1=Ab p.2)->∀p∈CF n k o,(CF n k o).lookup p.1=Ab p.2:=by
 intro k;induction k with
 |nil=>
  intro n o _ _ h p s;exact h p s
 |cons C r w=>
  intro n o A E h p s;rw[Bl,BA] at A;have z:∀p∈o,p.1∉r.map (·.1):=λ p s q=>E p s (by simp only[Bl];exact Af _ q)
  unfold cellsFrom at s ⊢;split at s
  ·rename_i q;rw[if_pos q];refine w (n+1) ((C.1,n)::o) A.2 (λ p s=>?_) (λ p s=>?_) p s
   ·rcases Ak.mp s with rfl |s
    ·exact A.1
    ·exact z p s
   ·rcases Ak.mp s with rfl |s
    ·exact AF
    ·have:p.1≠C.1:=λ q=>E p s (by simp[q]);refine Eq.trans (AK this) ?_;exact h p s
  ·rename_i q;rw[if_neg q];exact w n o A.2 z h p s
theorem Uw (w:Gw W a fd i j)(G:Gd W s)(l:∀b∈X,W.h0.get? b=Ah/\∃o,s.heap.get? b=Ab o)
 (r:MT W X s.heap g args)
 (x:Mb s (B5 fd s.heap.objs.size a).locals (Oi (B5 fd s.heap.objs.size a).kindOf (i.zip g) λ _=>Ah) (B5 fd s.heap.objs.size a).cells (Q3 (B5 fd s.heap.objs.size a).kindOf (i.zip g) λ _=>Ah) f):
 FI W fd.scope (B5 fd s.heap.objs.size a) (AW (B5 fd s.heap.objs.size a)++X) (AW (B5 fd s.heap.objs.size a)++X) f.heap (i.zip args):=by
 have N:∀y,(B5 fd s.heap.objs.size a).kindOf y=fd.scope.names.lookup y:=λ y=>rfl;have p:∀y,(B5 fd s.heap.objs.size a).cells.lookup y=(CF (s.heap.objs.size+1) fd.scope.names []).lookup y:=λ y=>rfl;have fresh:∀b∈AW (B5 fd s.heap.objs.size a),s.heap.get? b=Ah:=λ b k=>by
  rcases Ak.mp k with q |q
  ·rw[q];exact Ci s.heap
  ·obtain⟨⟨n,c⟩,O,rfl⟩:=AH.mp q;exact Lk (AY (x.above n c O))
 have alive:∀b∈AW (B5 fd s.heap.objs.size a),∃o,f.heap.get? b=Ab o:=λ b k=>by
  rcases Ak.mp k with q |q
  ·obtain⟨o,_,_,Q,_⟩:=x.toInCall.ns;exact⟨o,q▸Q⟩
  ·obtain⟨⟨n,c⟩,O,rfl⟩:=AH.mp q;have V:=Mq fd.scope.names (s.heap.objs.size+1) [] w.names (λ _ h=>by contradiction) (λ _ h=>by contradiction) (n,c) O;obtain⟨o,Q,_⟩:=x.cell n c V;exact⟨o,Q⟩
 have Z:=r.bi λ b o e n _=>⟨x.toInCall.keep b o e,λ q=>by
  rcases AL.mp q with q |q
  ·replace e:=Eq.trans (Eq.symm (fresh b q)) e;contradiction
  ·exact n q⟩
 exact{
  bb:=λ b k=>AL.mpr (.inl k)
  zx:=λ b k=>k
  kind:=w.kind
  bx:=w.bx
  blt:=w.blt
  ea:=λ y h=>h
  da:=λ y h=>h
  df:=λ y h=>.inl h
  dp:=λ y h=>h
  ns:=⟨_,x.toInCall.ns,λ y m V A=>(S9 _ _ Z w.nd A).1 V⟩
  cell:=λ y A=>by
   have hc:=A.resolve_right (w.free y);obtain⟨c,C,_⟩:=(Ds y fd.scope.names (s.heap.objs.size+1) [] w.names).2 hc;refine⟨c,_,C,x.cell y c C,λ m A=>?_⟩;exact(S9 _ _ Z w.nd A).2 (by rw[N,hc];decide)
  inj:=λ y z c E H=>TS x.apart (mem_of_lookup E) (mem_of_lookup H)
  dt:=λ y m A=>by
   obtain⟨E,H⟩:=w.jj y (IS A);exact⟨H.elim .inl λ q=>.inr (.inl q),E⟩
  alive:=λ b k=>by
   rcases AL.mp k with q |q
   ·exact⟨(λ b k=>DE G.ao (fresh b k)) b q,alive b q⟩
   ·exact⟨(l b q).1,BL (W:=W) (.af x.toInCall.keep) (l b q).2⟩
  ci:=λ y z d e E H=>absurd E (MT.fk Z)}
theorem CY.down (h:CY (n+1) A)(k:E9):CY n (A.deeper k):=⟨h.handled,TW h.depth (by decide),TW h.units (by decide)⟩
theorem qO {M:Dr}{m:As->Option Ae}{d:As->Option Ae}{f:Unit->Aq->Prop}(x:Mb a z.locals m z.cells d s)(i:D3 z s.heap)(hk:z.scope.kind=.function)
 (l:z.kindOf n=Ab .local\/(z.kindOf n=Ab .cell/\(z.cells.lookup n).isSome=Ag))
 (N:∀O,Mb a z.locals (if z.kindOf n=Ab .local then λ y=>if y=n then Ab v else m y else m) z.cells (if z.kindOf n=Ab .local then d else λ y=>if y=n then Ab v else d y) O->D3 z O.heap->f () O):Aw M A (M3 z n v) f E s:=by
 obtain⟨j,t,rfl⟩:=id x.toInCall.same;rcases l with H |⟨H,hc⟩
 ·simp only[H,if_true] at N;refine C5 H x.toInCall.ns (λ Q V h W=>N _ ⟨⟨⟨Q,_,rfl⟩,V,λ b o e=>?_,x.toInCall.fresh⟩,λ k c hc=>?_,x.apart,x.above⟩ (i.bo W)) (by rw[hk];rfl)
  ·exact h.extBut b o (Cu (Ao (AU e) x.toInCall.fresh)) (x.toInCall.keep b o e)
  ·exact(x.cell k c hc).sameBut h (Dz (x.above k c (mem_of_lookup hc)))
 ·have Z:¬z.kindOf n=Ab .local:=by rw[H];decide
  simp only[Z,if_false] at N;obtain⟨c,hc⟩:=G9.mp hc;have w:=x.above n c (mem_of_lookup hc);refine wpAny_storeName_cell hk H hc (x.cell n c hc) λ Q g h=>N _ ⟨⟨⟨Q,_,rfl⟩,x.toInCall.ns.sameBut h (Cu w),λ b o e=>?_,x.toInCall.fresh⟩,λ k p C=>?_,x.apart,x.above⟩ (i.at λ o r=>(h.2 _ (Cu w)).trans r)
  ·exact h.extBut b o (Cu (Cw (Ao (AU e) x.toInCall.fresh) w)) (x.toInCall.keep b o e)
  ·by_cases q:k=n
   ·cases q
    obtain rfl:=A4 hc C;simpa using g
   ·simp only[q,if_false];exact(x.cell k p C).sameBut h λ e=>q (TS x.apart (mem_of_lookup C) (e▸mem_of_lookup hc))
theorem kL {M:Dr}(f:As×Ae->PUnit->DJ (ForInStep PUnit))(W:∀n v u,f (n,v) u=(do M3 z n v;pure (.yield ⟨⟩)))(hk:z.scope.kind=.function):
 ∀(k:List (As×Ae))(m w:As->Option Ae)(s:Aq)(Q:PUnit->Aq->Prop),Mb s₀ z.locals m z.cells w s->D3 z s.heap->
  (∀x∈k,z.kindOf x.1=Ab .local\/(z.kindOf x.1=Ab .cell/\(z.cells.lookup x.1).isSome=Ag))->
  (∀o,Mb s₀ z.locals (Oi z.kindOf k m) z.cells (Q3 z.kindOf k w) o->D3 z o.heap->Q ⟨⟩ o)->Aw M A (forIn k ⟨⟩ f) Q E s:=by
 intro k;induction k with
 |nil=>
  intro m w s Q x C _ h;exact Ar (h s x C)
 |cons O r H=>
  intro m w s Q x C V h;rw[EG,W];refine Ac (Ac (qO x C hk (V (O.1,O.2) Ad) λ o Z N=>Ar ?_));exact H _ _ o Q Z N (λ y a=>V y (Af _ a)) h
theorem kZ {M:Dr}{code:Ae}{j:E9->Aq->Prop}(hk:a.kind=.function)
 (k:∀x∈f,a.names.lookup x.1=Ab .local\/(a.names.lookup x.1=Ab .cell/\((CF (s.heap.objs.size+1) a.names []).lookup x.1).isSome=Ag))
 (Q:∀h,h=newEnv a s.heap.objs.size globals (CF (s.heap.objs.size+1) a.names []) g i code Ah d->
  ∀w,Mb s h.locals (Oi h.kindOf f λ _=>Ah) h.cells (Q3 h.kindOf f λ _=>Ah) w->D3 h w.heap->j h w):
 Aw M A (F8 a globals [] f g i code Ah d) j E s:=by
 simp only[F8,Option.isSome_none,Bw,if_false];refine Ac (OT ?_);refine Ac (wpAny_layCells _ (λ name z H=>by cases N:z==Cp<;>simp[N]) _ _ _ _ ?_);have C:=cellsFrom_ok a.names (s.heap.push {cls:=.type "frame",data:=.dict #[]}) (s.heap.objs.size+1) [] ⟨λ _ _ O=>(nomatch O),G8⟩ (by rw[CV];exact An _);rw[CV] at C;rw[show({s with heap:=s.heap.push {cls:=.type "frame",data:=.dict #[]}}:Aq).heap.objs.size=s.heap.objs.size+1 from CV ..];refine Ac (kL (s₀:=s) (z:=newEnv a s.heap.objs.size globals (CF (s.heap.objs.size+1) a.names []) g i code Ah d) _ (λ _ _ _=>rfl) hk f (λ _=>Ah) (λ _=>Ah) _ _
  ⟨⟨⟨_,_,rfl⟩,(Heap.Ns.new s.heap (.type "frame")).keeps (Ed _ _),λ b o e=>Ed _ _ b o (AI _ e),An _⟩,
    λ n c hc=>(C.empty n c (mem_of_lookup hc)).1,C.apart,λ n c O=>(C.empty n c O).2⟩
  ⟨_,_,_,Ed _ _ _ _ (AD _ rfl),rfl,rfl⟩ k λ w x V=>Ar (Q _ rfl w x V))
theorem Ge (C:Gw W a fd i g)(Y:CY (k+1) A)(G:Gd W s)(U:∀b∈X,W.h0.get? b=Ah/\∃o,s.heap.get? b=Ab o)
 (r:MT W X s.heap d args) (hl:args.length=i.length)
 (a0:∀(h:E9)(z:AT)(w:Nat),h=B5 fd s.heap.objs.size a->XB W fd.scope h s.heap->(∀b∈X,b∉AW h)->s.toks<=w->
  XS W fd.scope h s.heap (AW h++X) (AW h++X) {s with heap:=z,toks:=w} (i.zip args)->
  Aw W.M (A.deeper h) (execs g h) (λ f l=>Q (match f with | .ret v=>v |_=>.none) l) (λ e l=>Aw W.M (A.deeper h) (leaving h e) (λ _ N=>E e N) (λ e' N=>E e' N) l) {s with heap:=z,toks:=w}):
 Aw W.M A (call (.ref a) d) Q E s:=by
 obtain⟨o,I,O,J,L⟩:=C.obj;obtain⟨c,oc,vs,t,V,M,R,m,p,u⟩:=C.code;have B:s.heap.NoLimit:=by obtain⟨mc,h1,h2⟩:=C.ng;exact⟨mc,Dl G.ao h1,h2⟩
 have D:=r.length;refine Ic (OE (by exact Y.d (by decide)) (G.ao.keep I J L) O C.co C.bi C.body (⟨c,oc,vs,t,V,G.ao.keep M p u,R,m⟩) ?_);refine C.bind d s G.ao (D.trans hl) _ _ _ _ ?_;rw[C.mn];have Z:∀x∈i.zip d,fd.scope.names.lookup x.1=Ab .local\/(fd.scope.names.lookup x.1=Ab .cell/\((CF (s.heap.objs.size+1) fd.scope.names []).lookup x.1).isSome=Ag):=λ x hx=>by
  have S:=R3 (AH.mpr ⟨x,hx,rfl⟩);rcases(C.jj x.1 S).2 with q |q
  ·exact .inl q
  ·obtain⟨c,hc,_⟩:=(Ds x.1 fd.scope.names (s.heap.objs.size+1) [] C.names).2 q;exact .inr ⟨q,by rw[hc];rfl⟩
 refine(Cz (An _) (kZ C.kind Z λ h he l x fc T=>?_));subst he;refine⟨B.keeps x.toInCall.keep,codeAny_func ?_⟩;obtain⟨z,w,e⟩:=x.toInCall.same;subst e;have H:=T;have fresh:∀b∈AW (B5 fd s.heap.objs.size a),s.heap.get? b=Ah:=λ b j=>by
  rcases Ak.mp j with q |q
  ·rw[q];exact Ci s.heap
  ·obtain⟨⟨n,c⟩,S,rfl⟩:=AH.mp q;exact Lk (AY (x.above n c S))
 refine DK (a0 (B5 fd s.heap.objs.size a) z w rfl ⟨G.ao,G.dl,λ b j=>fresh b ?_⟩ (λ b j q=>?_) H ⟨(Uw C G U r x),.af x.toInCall.keep,Aa G.toks H,λ b j hz=>absurd j hz,fc⟩) (λ f l m=>?_) λ e l m=>m
 ·rcases j with rfl |⟨y,_,hy⟩
  ·exact Ad
  ·exact Di hy
 ·obtain⟨o,I⟩:=(U b j).2
  replace I:=Eq.trans (Eq.symm (fresh b q)) I;contradiction
 ·exact m
variable {r:List Bs} in
def Bb (h:BV)(k:AT):List E9->Prop
 |[]=>True
 |z::r=>z.scope.kind≠.module/\z.frame=Ab z.locals/\h.h0.get? z.locals=Ah/\D3 z k/\Bb h k r
def GM (l:List E9):List Ai:=l.map (·.locals)
theorem Bb.imp (s:∀k:E9,D3 k h->D3 k H):∀{l:List E9},Bb W h l->Bb W H l:=by
 intro l;induction l with
 |nil=>
  intro _;exact trivial
 |cons _ _ o=>
  rintro⟨a,b,c,d,r⟩;exact⟨a,b,c,s _ d,o r⟩
theorem Bb.bg (S:Bb W h l)(k:BB W h H):Bb W H l:=S.imp λ _ f=>f.bg k
theorem Bb.bo (S:Bb W h l)(k:F3 h H):Bb W H l:=S.imp λ _ f=>f.bo k
theorem Bb.jy:∀{l:List E9},Bb W h l->h.FunFrames {objs:= #[]} l:=by
 intro l;induction l with
 |nil=>
  intro _;exact trivial
 |cons k r s=>
  rintro⟨a,b,c,⟨o,A,C,w,_,z⟩,d⟩;exact⟨a,⟨k.locals,o,b,by rfl,w,λ E q=>by cases Eq.trans (Eq.symm z) q⟩,s d⟩
theorem Bb.mem (S:Bb W h l)(k:b∈GM l):W.h0.get? b=Ah/\w5 h b:=by
 induction l with
 |nil=>exact absurd k BH
 |cons o r s=>
  exact(Ak.mp k).elim (λ q=>q▸⟨S.2.2.1,S.2.2.2.1⟩) (s S.2.2.2.2)
theorem Bb.frames:∀{l:List E9},Bb W h l->l.filterMap (·.frame)=GM l:=by
 intro l;induction l with
 |nil=>
  intro _;exact rfl
 |cons o r k=>
  rintro⟨_,b,_,_,d⟩;rw[List.filterMap_cons,b];simp;rw[k d];rfl
variable {c f:Ai}{g:Array CC} in
inductive A? (h:AT)(e:Ai)(vs:Array Ae)(f3:Ae)(T:Ai):Prop
 |mk (h1:vs[1]? =Ab (.ref T)) (ne:T≠e) (oT:Eo) (ts:Array Ae) (g:h.get? T=Ab oT) (c:oT.cls=.type "traceback") (d:oT.data=.fields ts) (f:ts[3]? =Ab f3)
def xT (k:AT)(e:Ai)(h:Array Ae)(o:Ae):Option Ai->Prop
 |none=>h[1]? =Ab .none
 |some T=>A? k e h o T
variable {a c:Ai}{vs:List Ae}{r:List Bs}{g:Array CC} in
inductive ZH (h:AT)(e:Ai)(C a0:Ae)(hd:Option Ai)(f3:Ae):Prop
 |mk (oe:Eo) (vs:Array Ae) (g:h.get? e=Ab oe) (c:oe.cls=C) (d:oe.data=.fields vs) (a:vs[0]? =Ab a0) (r:xT h e vs f3 hd)
def UY (l:List Ai)(e:Ai)(k:Option Ai)(s h:AT):Prop:=
 ∀b o,s.get? b=Ab o->b≠e->Ab b≠k->h.get? b=Ab o\/(b∈l/\∃w,h.get? b=Ab {o with slots:=w})
theorem UC {M:Dr}{j:Unit->Aq->Prop}(x:A.frames=Ab (z::c))(St:Bb W s.heap (z::c))
 (R:s.heap.get? e=Ab d) (U:d.cls=g) (y:d.data=.fields f) (Y:f[0]? =Ab l) (Q:1<f.size)
 (hQ:∀t T,s.heap.get? T=Ah->ZH t e g l (Ab T) (BS z.locals)->(∀b o,s.heap.get? b=Ab o->b≠e->t.get? b=Ab o\/(b∈GM (z::c)/\∃B,t.get? b=Ab {o with slots:=B}))->j () {s with heap:=t}):
 Aw M A (do let a <-frameOf z;let u <-entryPlaceOf z.locals b;let T <-EntryCells.newEntry i a .none (BS z.locals) .none u;setField (.ref e) 1 T) j E s:=by
 have D:=St.frames;have V:e∉GM (z::c):=λ hm=>by
  obtain⟨_,o,es,ep,ho,_,G⟩:=St.mem hm;obtain rfl:=A4 R ho;cases Eq.trans (Eq.symm y) G
 refine Ac (wpAny_frameOf_fun x St.jy St.2.1 λ k h=>?_)
 replace h:=(D)▸h
 refine Ac (wpAny_entryPlaceOf λ u I=>?_);refine Ac (B3 ?_ (I.sizeOk5 _ _ _ _ _));have w:k.get? e=Ab d:=(h.2.1 e V).trans R;have C:s.heap.get? k.objs.size=Ah:=by rw[h.1];exact Ci s.heap
 have Z:k.objs.size≠e:=Dz (AU w);generalize O:({cls:=.type "traceback",dict:=Ah,data:=.fields ([i,.ref z.locals,.none,BS z.locals,.none]++(if u.isEmpty then Bi 6 E4 else u)).toArray}:Eo)=m;have n:m.cls=.type "traceback":=by rw[<-O]
 have p:m.isFreed=Av:=by rw[<-O];rfl
 have r:∃v,m.data=.fields v/\v[3]? =Ab (BS z.locals):=⟨_,by rw[<-O],by rfl⟩;have H:(k.push m).get? e=Ab d:=AI _ w;refine IH H y Q (hQ _ k.objs.size C ?_ λ b o S J=>?_)
 ·have N:=En y (·.setIfInBounds 1 (BK k.objs.size))
  obtain⟨v,h1,h2⟩:=r;exact⟨_,_,B1 _ H (Eb N),(KM _ _).trans U,N,by rw[Array.getElem?_setIfInBounds_ne (Nat.succ_ne_zero _)];exact Y,by simp[Q],Z,m,v,by refine Eq.trans (Dh _ _ (Ne.symm Z)) ?_;exact AD _ p,n,h1,h2⟩
 ·rw[Dh _ _ (Ne.symm J)];by_cases q:b∈GM (z::c)
  ·obtain⟨B,L⟩:=h.2.2 b o S;exact .inr ⟨q,B,AI _ L⟩
  ·exact .inl (AI _ ((h.2.1 b q).trans S))
theorem Sz {M:Dr}{c:Option Ai}{f:Unit->Aq->Prop}(V:A.frames=Ab (z::a))(St:Bb W s.heap (z::a))(F:ZH s.heap e d g c .none)
 (B:∀N T,s.heap.get? T=Ah->ZH N e d g (Ab T) (BS z.locals)->UY (GM (z::a)) e c s.heap N->f () {s with heap:=N}):Aw M A (U3 (.ref e) z) f E s:=by
 obtain⟨oe,vs,r,D,k,G,Z⟩:=F;have R:=St.2.1;unfold noteFrame;rw[R];cases c with
 |none=>
  have i:=Z;refine Ac (CU r k i ?_);exact UC V St r D k G (C8.mp i).1 λ N T O t hk=>B N T O t λ b o H Q _=>hk b o H Q
 |some T=>
  obtain⟨i,u,oT,ts,O,S,w,I⟩:=Z;refine Ac (CU r k i ?_);refine Ac (CU O w I ?_);refine Ac (IH O w (C8.mp I).1 ?_);have U:T∉GM (z::a):=λ Y=>by
   obtain⟨_,o,J,L,ho,_,v⟩:=St.mem Y;obtain rfl:=A4 O ho;cases Eq.trans (Eq.symm w) v
  have h:∀b,b≠T->(s.heap.update T (Et (·.setIfInBounds 3 E4))).get? b=s.heap.get? b:=λ b H=>Dh _ _ (Ne.symm H)
  have C:=B1 (Et (·.setIfInBounds 3 E4)) O (Eb (En w _))
  have x:Bb W (s.heap.update T (Et (·.setIfInBounds 3 E4))) (z::a):=St.bo λ b o J L H j=>⟨o,J,L,by
   refine Eq.trans (h b (λ q=>by subst q;obtain rfl:=A4 O H;cases Eq.trans (Eq.symm w) j)) ?_;exact H,rfl,j⟩
  refine UC (s:={s with heap:=s.heap.update T (Et (·.setIfInBounds 3 E4))}) V x ((h e (Ne.symm u)).trans r) D k G (C8.mp i).1 λ N l m t hk=>B N l ?_ t λ b o H Q y=>?_
  ·by_cases q:l=T
   ·subst q;have n:(s.heap.update l (Et (·.setIfInBounds 3 E4))).get? l=Ah:=m
    cases Eq.trans (Eq.symm C) n
   ·rw[<-h l q];exact m
  ·have p:b≠T:=λ q=>y (by exact congrArg _ (q));exact hk b o ((h b p).trans H) Q
theorem Y3 {M:Dr}{c:Unit->Aq->Prop}(F:ZH s.heap e a g (Ab T) d)
 (Z:∀H,ZH H e a g (Ab T) .none->(∀b o,s.heap.get? b=Ab o->b≠T->H.get? b=Ab o)->c () {s with heap:=H}):Aw M A (jX (.ref e) Ah) c E s:=by
 obtain⟨i,j,Q,l,h,m,V,k,q,r,W,N,w,n⟩:=F;refine Ac (CU Q h V ?_);have z:=(C8.mp n).1;have C:=En w (·.setIfInBounds 3 ((Ah:Option Ai).elim E4 λ f=>BS f))
 refine IH W w z (Z _ ⟨i,j,?_,l,h,m,V,k,_,_,B1 _ W (Eb C),(KM _ _).trans N,C,by simp[z]⟩ λ b o p O=>?_)
 ·refine Eq.trans (Dh _ _ k) ?_;exact Q
 ·refine Eq.trans (Dh _ _ (Ne.symm O)) ?_;exact p
variable {f:Ai}{n:Nat}{t:Expr}{g:Array CC} in
inductive KQ (W:BV)(hs h:AT)(e:Ai)(C v:Ae):Prop
 |mk (le:BB W hs h) (no:hs.get? e=Ah) (t:Ai) (n:Nat) (hd:Option Ai) (g:h.get? t=Ab (M1 #[v] n)) (f:ZH h e C (.ref t) hd .none) (k:∀T,hd=Ab T->hs.get? T=Ah)
theorem KQ.il {c:AT}(F:KQ W c h e b v):c.get? e=Ah:=F.rec λ _ a _ _ _ _ _ _=>a
theorem BB.gq {a:Option Ai}(x:BB W d h)(St:Bb W h l)(K:UY (GM l) e a h H)(F:ZH h e c g a f)(y:c≠.none/\c≠.type "code")(B:d.get? e=Ah)(D:∀T,a=Ab T->d.get? T=Ah):BB W d H:=by
 obtain⟨S,U,j,O,G,Y,m⟩:=F;have step:∀b o,h.get? b=Ab o->b≠e->Ab b≠a->H.get? b=Ab o\/(W.h0.get? b=Ah/\o.cls=.type "frame"/\(∃Z i,o.data=.dict Z i)/\∃C,H.get? b=Ab {o with slots:=C}):=λ b o s I J=>by
  rcases K b o s I J with k |⟨L,C,k⟩
  ·exact .inl k
  ·obtain⟨M,o',Z,i,p,hc,E⟩:=St.mem L;obtain rfl:=A4 s p;exact .inr ⟨M,hc,⟨Z,i,E⟩,C,k⟩
 refine⟨λ b o s=>?_,λ t=>W.ch h H (λ b o ws s r N=>?_) (x.2 t)⟩
 ·have w:b≠e:=λ q=>by simp only[q,B] at s;contradiction
  have A:Ab b≠a:=λ q=>by replace s:=Eq.trans (Eq.symm (D b q.symm)) s;contradiction
  rcases x.1 b o s with k |⟨n,k,C,u⟩ |⟨n,R,Q,k,u⟩
  ·rcases step b o k w A with z |⟨z1,z2,_,C,z⟩
   ·exact .inl z
   ·exact .inr (.inl ⟨z1,z2,C,z⟩)
  ·rcases step b _ u w A with z |⟨z1,z2,_,V,z⟩
   ·exact .inr (.inl ⟨n,k,C,z⟩)
   ·exact .inr (.inl ⟨n,k,V,z⟩)
  ·rcases step b _ u w A with z |⟨z1,z2,_,V,z⟩
   ·exact .inr (.inr ⟨n,R,Q,k,z⟩)
   ·contradiction
 ·have w:b≠e:=λ q=>by
   subst q;obtain rfl:=A4 j s;rcases N with q |q
   ·exact y.1 (O.symm.trans q)
   ·exact y.2 (O.symm.trans q)
  have A:Ab b≠a:=λ q=>by
   subst q;obtain⟨_,_,oT,ts,v,hc,_⟩:=m;obtain rfl:=A4 s v
   replace N:=(hc)▸N
   contradiction
  rcases step b o s w A with z |⟨_,_,⟨Z,i,E⟩,_⟩
  ·exact z
  ·cases Eq.trans (Eq.symm r) E
theorem UY.stack {a:Option Ai}(St:Bb W h b)(K:UY (GM l) e a h H)(F:ZH h e c g a d):Bb W H b:=by
 obtain⟨m,n,A,Z,C,p,E⟩:=F;refine St.imp λ w f=>?_;obtain⟨o,Q,V,z,hc,s⟩:=f;have i:w.locals≠e:=λ q=>by simp only[q,A] at z;cases z;cases Eq.trans (Eq.symm C) s
 have j:Ab w.locals≠a:=λ q=>by
  subst q;obtain⟨_,_,r,t,N,_,O,_⟩:=E;obtain rfl:=A4 z N;cases Eq.trans (Eq.symm s) O
 rcases K _ o z i j with k |⟨_,u,k⟩
 ·exact⟨o,Q,V,k,hc,s⟩
 ·exact⟨_,Q,V,k,hc,s⟩
theorem UY.seq {a:Option Ai}(St:Bb W h l)(K:UY (GM l) e a h H)(F:ZH h e b f a c)(w:h.get? t=Ab o)(s:o.data=.seq d n):H.get? t=Ab o:=by
 obtain⟨j,m,z,V,A,p,C⟩:=F;have Z:t≠e:=λ q=>by simp only[q,z] at w;cases w;cases Eq.trans (Eq.symm A) s
 have g:Ab t≠a:=λ q=>by
  subst q;obtain⟨_,_,r,u,E,_,N,_⟩:=C;obtain rfl:=A4 w E;cases Eq.trans (Eq.symm s) N
 rcases K t o w Z g with k |⟨i,v,k⟩
 ·exact k
 ·obtain⟨_,x,y,B,O,_,Q⟩:=St.mem i;obtain rfl:=A4 w O;cases Eq.trans (Eq.symm s) Q
theorem KQ.gk {M:Dr}{d:Unit->Aq->Prop}(O:b≠.none/\b≠.type "code")(o:A.frames=Ab (z::a))(St:Bb W s.heap (z::a))(F:KQ W c s.heap e b v)
 (Q:∀h t n T,BB W c h->c.get? T=Ah->Bb W h (z::a)->h.get? t=Ab (M1 #[v] n)->ZH h e b (.ref t) (Ab T) (BS z.locals)->d () {s with heap:=h}):Aw M A (U3 (.ref e) z) d E s:=by
 obtain⟨H,V,t,n,g,Z,k,f⟩:=F;refine Sz o St k λ h T w C K=>?_;have N:c.get? T=Ah:=by
  exact BB.bh H w
 exact Q h t n T (H.gq St K k O V f) N (K.stack St k) (K.seq St k Z rfl) C
theorem KQ.land {M:Dr}{d:Unit->Aq->Prop}(N:a≠.none/\a≠.type "code")(St:Bb W s.heap l)(O:BB W c s.heap)(H:c.get? e=Ah)(w:c.get? T=Ah)(Q:s.heap.get? t=Ab (M1 #[v] n))(F:ZH s.heap e a (.ref t) (Ab T) f)
 (V:∀h,KQ W c h e a v->Bb W h l->d () {s with heap:=h}):Aw M A (jX (.ref e) Ah) d E s:=by
 refine Y3 F λ h z k=>?_;have K:UY (GM l) e (Ab T) s.heap h:=λ b o Z _ C=>.inl (k b o Z λ q=>C (by exact congrArg _ (q)));exact V h ⟨O.gq St K F N H λ g q=>by cases q;exact w,H,t,n,Ab T,K.seq St F Q rfl,z,λ g q=>by cases q;exact w⟩ (K.stack St F)
theorem KQ.bp {M:Dr}{c:Unit->Aq->Prop}(N:b≠.none/\b≠.type "code")(C:A.frames=Ab (z::a))(St:Bb W s.heap (z::a))(F:KQ W d s.heap e b v)
 (O:∀H,KQ W d H e b v->Bb W H (z::a)->c () {s with heap:=H}):Aw M A (leaving z (.ref e)) c E s:=by
 refine Ac (F.gk N C St λ k t n T o Q h V w=>?_);exact KQ.land (s:={s with heap:=k}) N h o F.il Q V w O
theorem KQ.gr (F:KQ W d h e c v)(s:BB W b d):KQ W b h e c v:=by
 obtain⟨k,w,t,n,z,A,C,E⟩:=F;have o:∀{a:Ai},d.get? a=Ah->b.get? a=Ah:=λ{a} H=>by
  exact BB.bh s H
 exact⟨s.trans k,o w,t,n,z,A,C,λ T q=>o (E T q)⟩
theorem KQ.jk (m:Heap.MadeExcOf h H e a [v]):KQ W h H e a v:=by
 refine Jt λ w k=>?_;obtain⟨t,o,z,s⟩:=m.there;refine k ?_;exact⟨.af m.keeps,m.new,t,0,Ah,s,⟨_,_,o,rfl,rfl,rfl,rfl⟩,λ T q=>(by contradiction)⟩
variable {sl:Dt} in
class inductive Jv (h:AT) (name:As) (bmB:List Ae):List Ae->Prop
 |base:Jv h name bmB bmB
 |own {A:Ai} {c0:Ae} {dd:Option Ai} {cd:ClassData} {sl:Array (Option Ae)} {mA:As->Option Ae} {tl:List Ae}:
  h.get? A=Ab {cls:=c0,dict:=dd,data:=.cls cd,slots:=sl}->h.Ns cd.ns mA->mA name=Ah->Jv h name bmB tl->Jv h name bmB (.ref A::tl)
theorem Vh (s:BB W h H)(T:Jv h name a b):Jv H name a b:=by
 induction T with
 |base=>exact .base
 |own A hN o _ w=>
  rcases s.1 _ _ A with k |⟨_,_,C,k⟩ |⟨_,E,z,k,_⟩
  ·exact .own k (Dl s hN) o w
  ·exact .own k (Dl s hN) o w
  ·injection k with _ _ k;cases k
variable {hs:AT} in
inductive D' (W:BV)(C:Ai)(bm:List Ae):Prop
 |mk (nm q0 N bs hdct sn0 sub ab col dd k0 k10 k2 k3 k5 B newId initId bmB mN nm0:_) (fx:ExcBaseFacts B newId initId bmB) (hC:W.h0.get? C=Ab (Fc nm q0 C N bs bm hdct sn0 sub ab col dd k0 k10 k2 k3 k5 newId)) (hN:W.h0.Ns N mN) (hi:mN "__init__"=Ah) (hT:OwnTail W.h0 bmB bm)
  (hs:mN "__str__"=Ah) (hS:Jv W.h0 "__str__" bmB bm) (fs:ExcStrFacts B nm0)
structure Gm (W:BV)(mg:As->Option Ae)(x:As)(C:Ai)(bm:List Ae):Prop where
 bx:mg x=Ab (.ref C)
 cls:D' W C bm
theorem TU (s:BB W h H)(T:OwnTail h a b):OwnTail H a b:=by
 induction T with
 |base=>exact .base
 |own A hN o _ w=>
  rcases s.1 _ _ A with k |⟨_,_,C,k⟩ |⟨_,E,z,k,_⟩
  ·exact .own k (Dl s hN) o w
  ·exact .own k (Dl s hN) o w
  ·injection k with _ _ k;cases k
set_option genCtorIdx true in
inductive xO where
 |ret (d:PV)
 |mh (x:As) (w:As)
def HO (h:AT)(B:Ai):AT:={h with objs:=h.objs.modify B λ o=>{o with data:=.freed}}
section
theorem IW:(HO h B).get? B=Ah:=by
 unfold HO Heap.get?;simp only[Iq,if_true];cases h.objs[B]? with
 |none=>rfl
 |some o=>rfl
theorem GG (k:b≠B):(HO h B).get? b=h.get? b:=by
 unfold HO Heap.get?;rw[Iq,if_neg (Ne.symm k)]
theorem MJ (k:h.get? b=Ah):(HO h B).get? b=Ah:=by
 by_cases q:b=B
 ·subst q;exact IW
 ·rw[GG q];exact k
theorem SK:BB W (HO h B) h:=
 .af λ b o e=>by
  by_cases q:b=B
  ·subst q;exact Do IW e
  ·rw[GG q] at e;exact e
theorem Rt (R:BB W W.h0 h)(s:W.h0.get? B=Ah)(w:∀o k,h.get? B=Ab o->o.data≠.fields k):BB W W.h0 (HO h B):=by
 refine⟨λ b o e=>?_,λ t=>W.ch h _ (λ b o k e z _=>?_) (R.2 t)⟩
 ·have q:b≠B:=λ q=>by rw[q,s] at e;contradiction
  rw[GG q];exact R.1 b o e
 ·rw[GG (λ q=>w o k (q▸e) z:b≠B)];exact e
theorem Nq (T:W.di h)(s:∀o k,h.get? B=Ab o->o.data≠.fields k):W.di (HO h B):=
 W.ch h _ (λ b o k e w _=>by
   have q:b≠B:=λ q=>s o k (q▸e) w;rw[GG q];exact e) T
end
theorem BX.bj (S:Ls W (Ec V z) h H)(k:∀a,Ec V z a->a∈X)(o:¬Ec V z a)(r:BX W X h a d):BX W X H a d:=r.map (λ _ e _=>S.keep _ _ o e) λ _ _=>RpL.bj k S
theorem BU.bj (F:FI W V z Z X h O)(S:Ls W (Ec V z) h H)(r:BU W Z X h v b):BU W Z X H v b:=r.to (λ _ _=>Rp.bj (λ a k=>F.br k) S) λ _ _ m s o=>⟨m,s,o.bj S (λ a k=>F.br k) λ q=>s (F.wr q)⟩
theorem XS.fg (B:XB W V z N)(S:XS W V z N Z X s O)(i:A3 V x=Ag)(H:BU W Z X s.heap v sl)(o:∀d,sl=.own d->∀y e,O.lookup y=Ab (.own e)->y=x){a:Unit->Aq->Prop}
 (j:∀Q f,XS W V z N Z X {s with heap:=Q,toks:=f} (Bu O x sl)->Ls W (Ec V z) s.heap Q->s.toks<=f->a () {s with heap:=Q,toks:=f}):Aw W.M A (NV (.Name x c) z v) a E s:=by
 refine II (FI.cw S.F (sl:=sl) (Fw i).2 (Fw i).1 H o λ w k C St h=>?_);refine j w k ⟨C.aw λ y l q=>?_,St.j9 N (λ b g=>B.wr b g) S.le,Aa S.tk h,S.fr,S.fc.bo St.cls⟩ St h;rw[Ca] at q;by_cases e:y=x
 ·subst y;rw[if_pos rfl] at q;rw[AF];exact q
 ·rw[if_neg e] at q;rw[AK e];exact q
variable {a:List PV}{b:Dt} in
def Vx:List (As×CE)->List Dt->A5->A5
 |(x,_)::a,b::h,O=>Vx a h (Bu O x b)
 |_,_,O=>O
variable {v:Ae}{b:List Ae}{a:Dt} in
def LR (k:BV)(o X:List Ai)(s:AT):List Ae->List Dt->Prop
 |[],[]=>True
 |v::b,a::h=>BU k o X s v a/\(∀d,a≠.own d)/\LR k o X s b h
 |_,_=>False
theorem LR.bj (F:FI W V z Z X h O)(S:Ls W (Ec V z) h H)(x:LR W Z X h b a):LR W Z X H b a:=by
 induction b generalizing a with
 |nil=>cases a with
  |nil=>exact x
  |cons _ _=>exact x.elim
 |cons v b k=>cases a with
  |nil=>exact x.elim
  |cons s a=>exact⟨x.1.bj F S,x.2.1,k x.2.2⟩
theorem XS.jt (B:XB W V z N):∀(C:List (As×CE))(w:List Ae)(k:List Dt)(j:A5)(s:Aq)(Q:Unit->Aq->Prop),XS W V z N Z X s j->C.all (λ x=>A3 V x.1)=Ag->C.length=k.length->LR W Z X s.heap w k->
 (∀m n,XS W V z N Z X {s with heap:=m,toks:=n} (Vx C k j)->Ls W (Ec V z) s.heap m->s.toks<=n->Q () {s with heap:=m,toks:=n})->
 Aw W.M A (assignInOrder (List.map (λ x=>x.2) (Jk (C.map λ x=>.Name x.1 x.2) z)) w) Q E s:=by
 intro C;induction C with
 |nil=>
  intro w k j s Q S _ p r h;cases k with
  |cons _ _=>contradiction
  |nil=>cases w with
   |cons _ _=>exact r.elim
   |nil=>exact wpAny_assignInOrder_none (h s.heap s.toks S .refl (An _))
 |cons x C t=>
  intro w k j s Q S l p r h;cases k with
  |nil=>contradiction
  |cons u k=>cases w with
   |nil=>exact r.elim
   |cons v w=>
    have l:=AC.mp l;refine wpAny_assignInOrder_more (S.fg B l.1 r.1 (λ d q=>absurd q (r.2.1 d)) λ b H c o e=>?_);exact t w k _ {s with heap:=b,toks:=H} Q c l.2 (Hp p) (r.2.2.bj S.F o) λ f O g a i=>h f O g (o.trans a) (Aa e i)
theorem TZ:∀(h:List (As×CE)),(Jk (h.map λ x=>Expr.Name x.1 x.2) z).length=h.length/\Wy (λ x=>x.1) (Jk (h.map λ x=>Expr.Name x.1 x.2) z)=Ah:=by
 intro h;induction h with
 |nil=>
  exact⟨rfl,rfl⟩
 |cons x h k=>
  obtain⟨o,s⟩:=k;exact⟨congrArg (·+1) o,by show Wy _ ((Av,_)::Jk (h.map λ x=>Expr.Name x.1 x.2) z)=Ah;rw[List.findIdx?_cons,s];rfl⟩
theorem XS.fz (m:A.handled=Ah)(B:XB W V z N)(S:XS W V z N Z X s O)(p:s.heap.get? T=Ab (M1 vs.toArray n))(t:xs.all (λ x=>A3 V x.1)=Ag)(j:xs.length=sls.length)
 (r:LR W Z X s.heap vs sls) (f:vs.length=sls.length) {d:Unit->Aq->Prop}
 (u:∀C g,XS W V z N Z X {s with heap:=C,toks:=g} (Vx xs sls O)->Ls W (Ec V z) s.heap C->s.toks<=g->d () {s with heap:=C,toks:=g}):Aw W.M A (NV (.Tuple (xs.map λ x=>.Name x.1 x.2) c a) z (.ref T)) d E s:=by
 have l:=TZ (z:=z) xs;refine wpAny_assign_Tuple m ⟨_,p,rfl,_,rfl⟩ (by rw[l.1];simp;exact j.trans f.symm) l.2 λ C i=>?_;have k:∀b o,s.heap.get? b=Ab o->C.get? b=Ab o:=λ b o q=>i b o (Cu (AU q)) q;refine XS.jt B xs vs sls O {s with heap:=C} d (S.ae (tk:=s.toks) (.af k) (An _)) t j (r.bj S.F (.af k)) λ H h Q w e=>u H h Q ((Ls.af k).trans w) e
theorem QX {a:Type}(f:a->Bool)(l:List a)(i:Nat)(h:∀x,l[i]? =Ab x->f x=Av):(l.eraseIdx i).find? f=l.find? f:=by
 induction l generalizing i with
 |nil=>exact rfl
 |cons x l k=>
  cases i with
  |zero=>exact(ES (ne_true_of_eq_false (h x rfl))).symm
  |succ i=>
   show(match f x with |true=>Ab x |false=>(l.eraseIdx i).find? f)=match f x with |true=>Ab x |false=>l.find? f
   rw[k i h]
theorem OM (k:a.findIdx? (λ e=>e.key.isStr name)=Ab i)(s:x≠name):Ie (a.eraseIdxIfInBounds i) x=Ie a x:=by
 obtain⟨l⟩:=a;simp only[Ie,findBy,List.eraseIdxIfInBounds_toArray,List.find?_toArray,List.findIdx?_toArray] at k ⊢;rw[QX];intro e o;obtain⟨h,w,_⟩:=List.findIdx?_eq_some_iff_getElem.mp k;have:l[i]=e:=by rw[AA h] at o;injection o
 rw[<-this];cases q:l[i].key.isStr x with
 |false=>rfl
 |true=>exact absurd (Value.isStr_inj _ _ _ q w) s
theorem R5 {M:Dr}{m:As->Option Ae}{f:Bool->Aq->Prop}(x:s.heap.Ns a m)(C:(m name).isSome=Ag)
 (B:∀O p,O.Ns a p->(∀y,y≠name->p y=m y)->BM a s.heap O->F3 s.heap O->f Ag {s with heap:=O}):Aw M A (nsDel a name) f E s:=by
 obtain⟨o,z,D,Q,V,hk,r⟩:=id x;have u:z.any (·.refKey)=Av:=by
  rw[Array.any_eq_false'];intro e G;obtain⟨n,t,h⟩:=hk e G;simp[DictEntry.refKey,h]
 obtain⟨i,W⟩:∃i,z.findIdx? (λ e=>e.key.isStr name)=Ab i:=by
  cases q:z.findIdx? (λ e=>e.key.isStr name) with
  |some i=>exact⟨i,rfl⟩
  |none=>
   exfalso;rw[<-r name,Ie,findBy_of_findIdx?,q] at C;cases C
 have H:z.any (λ e=>e.key.isStr name)=Ag:=by
  rw[Array.any_eq_true];obtain⟨Z,I,_⟩:=Array.findIdx?_eq_some_iff_getElem.mp W;exact⟨i,Z,I⟩
 have N:nsHas name o=pure Ag:=by
  rw[nsHas_eq];unfold nsHasByArray;rw[V];simp only[H,if_true]
 have k:(QH name o).cls=o.cls/\(QH name o).isFreed=Av/\(QH name o).data=.dict (z.eraseIdxIfInBounds i) (D+1):=by
  obtain⟨c,d,R,S⟩:=o;simp only at V;subst V;simp only[Obj.dropName_eq,Obj.dropNameByArray,W];exact⟨trivial,rfl,trivial⟩
 have w:=B1 (QH name) Q k.2.1;unfold nsDel;refine Ac (wpAny_loadPart Q ?_);rw[N];refine Ac (Ar ?_);simp only[if_true];refine Ac (MZ Q (Ar (B _ (Ie (z.eraseIdxIfInBounds i)) ⟨_,_,_,w,k.2.2,hk.erase i,λ _=>rfl⟩ (λ y J=>by rw[OM W J,r]) (BP ..) λ b L g j v l=>?_)));by_cases q:b=a
 ·subst q;obtain rfl:=A4 Q v;exact⟨_,_,_,w,k.1,k.2.2⟩
 ·exact⟨L,g,j,by rw[Dh _ _ (Ne.symm q)];exact v,rfl,l⟩
def NE (h:A5)(n:As):A5:=h.filter λ q=>!(q.1==n)
theorem ID (n:As):∀(h:A5)(y:As),(NE h n).lookup y=if y=n then Ah else h.lookup y:=by
 intro h;induction h with
 |nil=>
  intro y;simp[NE]
 |cons s h k=>
  intro y;obtain⟨z,t⟩:=s;have o:=k y;unfold NE at o ⊢;rw[FN];by_cases q:z=n
  ·subst q;simp only[beq_self_eq_true,KS,Bw,if_false];rw[o];by_cases r:y=z
   ·rw[if_pos r,if_pos r]
   ·rw[if_neg r,if_neg r,AK r]
  ·have:(z==n)=Av:=by simpa using q
   simp only[this,Bool.not_false,if_true];by_cases r:y=z
   ·subst r;rw[AF,AF,if_neg q]
   ·rw[AK r,AK r];exact o
theorem I0 (h:(NE O n).lookup y=Ab a):y≠n/\O.lookup y=Ab a:=by
 rw[ID] at h;by_cases q:y=n
 ·rw[if_pos q] at h;cases h
 ·rw[if_neg q] at h;exact⟨q,h⟩
theorem XX {M:Dr}{m:As->Option Ae}{a:Unit->Aq->Prop}(N:z.kindOf n=Ab .local)(O:(z.scope.kind== .class||(z.scope.kind== .module&&z.locals !=z.globals))=Av)(Q:s.heap.Ns z.locals m)(V:(m n).isSome=Ag)
 (W:∀h k,h.Ns z.locals k->(∀y,y≠n->k y=m y)->BM z.locals s.heap h->F3 s.heap h->a () {s with heap:=h}):Aw M A (JA z n b) a E s:=by
 unfold unbindBehindTheSuite;refine wpAny_onRaise ?_;unfold unbindName;refine Ac (wpAny_point (Ac ?_));unfold deleteName;simp only[N,O];rw[if_neg (by decide)];refine Ac (R5 Q V λ h k o w C H=>?_);simp only[KS,Bw,if_false];exact Ar (wpAny_point (W h k o w C H))
theorem XS.jb (B:XB W V z N)(S:XS W V z N Z X s O)(U:V.names.lookup n=Ab .local)(J:D5 n=Ag){f:Unit->Aq->Prop}
 (a5:∀h' tk,XS W V z N Z X {s with heap:=h',toks:=tk} (NE O n)->D9 V z Z X s.heap h'->s.toks<=tk->f () {s with heap:=h',toks:=tk}):Aw W.M A (do bindName z n .none;JA z n g) f E s:=by
 have a6:A3 V n=Ag:=by unfold A3;rw[J,U];rfl
 refine Ac (wpAny_bindName ?_);refine FI.cw S.F (sl:=.av .none) (.inl U) J rfl (λ d q=>nomatch q) λ l H w Q D=>?_;have p:XS W V z N Z X {s with heap:=l,toks:=H} ((n,.av .none)::O):=⟨w,Q.j9 N (λ b a0=>B.wr b a0) S.le,Aa S.tk D,S.fr,S.fc.bo Q.cls⟩;have hp:(z.scope.kind== .class||(z.scope.kind== .module&&z.locals !=z.globals))=Av:=by rw[S.F.kind];rfl
 obtain⟨m,hn,hv⟩:=w.ns;obtain⟨v,a1,_⟩:=hv n (.av .none) U AF;refine XX (s:={s with heap:=l,toks:=H}) (S.F.ea n U) hp hn (by rw[a1];rfl) λ j L t G h I=>?_;have hz:z.locals∈Z:=S.F.bb _ Ad;have hX:=S.F.zx _ hz;have M:FI W V z Z X j (NE O n):=
  {w with
   ns:=⟨L,t,λ y R hy C=>by
    obtain⟨q,C⟩:=I0 C;obtain⟨v,e,r⟩:=hv y R hy (by rw[AK q];exact C);exact⟨v,by rw[G y q];exact e,r.az h hX hz⟩⟩
   cell:=λ y hy=>by
    obtain⟨c,ov,e,i,k⟩:=w.cell y hy;refine⟨c,ov,e,i.sameBut h (MQ i hn),λ R C=>?_⟩;obtain⟨q,C⟩:=I0 C;obtain⟨u,e',r⟩:=k R (by rw[AK q];exact C);exact⟨u,e',r.az h hX hz⟩
   dt:=λ y R C=>S.F.dt y R (I0 C).2
   alive:=λ a Y=>⟨(w.alive a Y).1,GD h (by obtain⟨o,_,_,T,_⟩:=t;exact⟨o,T⟩) (w.alive a Y).2⟩
   ci:=λ y a7 d e h1 h2=>S.F.ci y a7 d e (I0 h1).2 (I0 h2).2}
 have x:BB W N j:=p.le.az (B.wr _ (.inl rfl)) (λ o vs T hd=>by
  obtain⟨o',es,ep,a2,a3,_⟩:=hn;have a4:l.get? z.locals=Ab o:=T;obtain rfl:=A4 a4 a2;cases Eq.trans (Eq.symm hd) a3) h
 have kd:D9 V z Z X s.heap j:=(Q.ap λ a Y=>S.F.br Y).trans λ b o hc T=>(h.2 b (λ q=>hc.elim (λ c=>c.1 (q▸hX)) λ c=>c.2.1 (.inl q))).trans T;exact a5 j H ⟨M,x,p.tk,S.fr,p.fc.bo I⟩ kd D
open Builtin Builtin.Str Builtin.BaseException Builtin.Exceptions
section
variable {C:Ai}
theorem Wt {M:Dr}{g:Array CC}{os:GZ}{d:M8}{t:Nat}{a:List Ae}{name:As}{b:List Ae}{y:Option Ae}{c:Option Ae->Aq->Prop}(T:Jv h name a b)(k:lookupAlong a name=pure y)(s:c y ⟨h,g,d,t,os⟩):
 Aw M A (lookupAlong b name) c E ⟨h,g,d,t,os⟩:=by
 induction T with
 |base=>rw[k];exact Ar s
 |own w hN o _ z=>
  rw[lookupAlong_cons];refine Ac (wpAny_classOwn_cls w hN ?_);rw[o];exact z
theorem T8 {M:Dr}{j m a sub:List Ae}{g:Array CC}{os:GZ}{d:M8}{t:Nat}{nm q:As}{i:Ai}{f p:Bool}{n:List As}{l:Option Bool}{r:Option Ai}{u v x D G:Option Ae}{B b:String}{name:As}{c:As->Option Ae}{y:Option Ae}{e:Option Ae->Aq->Prop}(w:h.get? C=Ab (Fc nm q C i m j f n sub p l r u v x D G b))(H:h.Ns i c)(o:c name=Ah)(T:Jv h name a j)
 (s:mroOf (.type B)=pure a) (z:Fj (.type B) name=pure y) (N:e y ⟨h,g,d,t,os⟩):Aw M A (Fj (.ref C) name) e E ⟨h,g,d,t,os⟩:=by
 have k:lookupAlong a name=pure y:=by rw[typeLookup_eq,s] at z;exact z
 rw[typeLookup_eq];refine Ac (wpAny_mroOf_exc w ?_);rw[lookupAlong_cons];refine Ac (wpAny_classOwn_exc w H ?_);rw[o];exact Wt T k N
end
section
variable {C:Ai}
theorem X8 {os:GZ}{sub:List Ae}{p:As->Option Ae}(W:A.units<Ja)(k:ExcStrFacts B b)
 (o:h.get? C=Ab (Fc nm q C v y c r D sub G x I J L M R S f)) (Z:h.Ns v p) (s:p "__str__"=Ah) (T:Jv h "__str__" i c) (z:mroOf (.type B)=pure i) (H:c.contains (.type "BaseException")=Ag)
 (V:h.get? e=Ab a) (hc:a.cls=.ref C) (U:a.data=.fields j) (Y:j[0]? =Ab (.ref t0)) (ht:h.get? t0=Ab (M1 #[.str m l] n)) (hq:Q (.str m l) ⟨h,g,d,t,os⟩):
 Aw (model u w) A (Builtin.Str.strOf (.ref e)) Q E ⟨h,g,d,t,os⟩:=by
 have N:=k.str.lookup;unfold Builtin.Str.strOf
 repeat (first |with_reducible refine wpAny_cRoomFor W ?_ |(with_reducible refine GU V ?_;rw[hc]) |with_reducible refine T8 o Z s T z N ?_ |wp_step)
 refine EI (k.str.bind _) ?_;refine Ac (Ic (JC k.str.plain F.entry_bexc_str ?_));have O:(BK C::c).contains (.type "BaseException")=Ag:=by rw[Hr,H,Jz]
 have hk:builtinKind "BaseException.__str__"=Ab .slot:=by decide+kernel
 have hs:splitId "BaseException.__str__"=Ab ("BaseException","__str__"):=by decide+kernel
 simp only[checkBuiltinCall,hk,hs]
 repeat (first |(with_reducible refine GU V ?_;rw[hc]) |with_reducible refine GU o ?_ |(with_reducible refine wpAny_isSubtype_exc o ?_;rw[O]) |wp_step)
 rw[U];refine Ar ?_;rw[Y];refine Ar (Ac (wpAny_seqItems ht rfl ?_));refine Ar ?_
 repeat wp_step
 exact hq
theorem jR {sub:List Ae}{i:As->Option Ae}(M:A.units+2<Ja)(S:ExcStrFacts B c)
 (U:s.heap.get? C=Ab (Fc nm q C r u j l v sub x t y D G I J L d)) (Y:s.heap.Ns r i) (o:i "__str__"=Ah) (T:Jv s.heap "__str__" f j) (z:mroOf (.type B)=pure f) (H:j.contains (.type "BaseException")=Ag)
 (he:s.heap.get? e=Ab a) (hc:a.cls=.ref C) (hd:a.data=.fields g) (h0:g[0]? =Ab (.ref t0)) (ht:s.heap.get? t0=Ab (M1 #[.str m b] n)) (hq:Q (.str m b) s):
 Aw (model p w) A (call (.type "str") [.ref e]) Q E s:=
 callType_new F.called_str (by decide) (F.typeCall_str_1 _) (F.newCall_str_1 _) (λ N=>F.args_object_init_2 N _) F.entry_str_new
  (meets_str_new (S:=λ O R k=>O.units+1<Ja/\k.heap=s.heap/\R (.ok (.ret (.str m b))) k)
   λ _ _ O _ k V=>by
    obtain⟨h',g',d',t',a0⟩:=k;obtain⟨W,h,Z⟩:=V;simp only at h;subst h;exact X8 (A:=O.in1) W S U Y o T z H he hc hd h0 ht Z)
  ⟨(show A.units+1+1<Ja from M),rfl,KV _ _ _,hq⟩
end
section
variable {C:Ai}
theorem T3 {M:Dr}{v L sub B a r:List Ae}{g:Array CC}{os:GZ}{d:M8}{t:Nat}{nm q y q':As}{J c N':Ai}{p S l G:Bool}{R D:List As}{x u:Option Bool}{T I:Option Ai}{U Y k2 k3 k5 j0 j1 j2 j3 j5:Option Ae}{j i:String}{e:Ai}{m:Eo}{b:Bool}{n:Bool->Aq->Prop}(z:h.get? C=Ab (Fc nm q C J L v p R sub S x T U Y k2 k3 k5 j))(o:h.get? c=Ab (Fc y q' c N' B a l D r G u I j0 j1 j2 j3 j5 i))
 (H:h.get? e=Ab m) (s:m.cls=.ref C) (k:a.contains (.type "BaseException")=Ag) (N:(BK C::v).contains (.ref c)=b) (O:n b ⟨h,g,d,t,os⟩):
 Aw M A (excMatches (.ref e) (.ref c)) n E ⟨h,g,d,t,os⟩:=by
 have w:(BK c::a).contains (.type "BaseException")=Ag:=by rw[Hr,k,Jz]
 have f:=tc_notTuple;unfold excMatches
 repeat (first |(with_reducible refine GU H ?_;rw[s]) |with_reducible refine GU o ?_ |(with_reducible refine wpAny_isSubtype_exc o ?_;rw[w]) |(with_reducible refine wpAny_isSubtype_exc z ?_;rw[N]) |wp_step)
 cases b<;>(wp_walk;exact O)
end
theorem KQ.again {M:Dr}{b:Unit->Aq->Prop}(O:a≠.none/\a≠.type "code")(St:Bb W s.heap l)(F:KQ W c s.heap e a v)
 (z:∀h,KQ W c h e a v->Bb W h l->BB W c h->b () {s with heap:=h}):Aw M A (jX (.ref e) Ah) b E s:=by
 obtain⟨H,Q,t,n,V,Z,C,d⟩:=id F;cases V with
 |some T=>exact KQ.land O St H Q (d T rfl) Z C λ h N o=>z h N o N.1
 |none=>
  obtain⟨g,i,w,hc,k,j,f⟩:=C;unfold setFlight;refine Ac (CU w k f ?_);rw[if_neg (by decide)];exact Ar (z s.heap F St H)
variable {a c:Ai}{n:Nat}{vs:List Ae}{t:Expr}{g:Array CC} in
inductive JX (h:AT)(e:Ai)(Cv v:Ae):Prop
 |mk (oe:Eo) (vs:Array Ae) (t:Ai) (n:Nat) (g:h.get? e=Ab oe) (c:oe.cls=Cv) (d:oe.data=.fields vs) (a:vs[0]? =Ab (.ref t)) (gt:h.get? t=Ab (M1 #[v] n))
theorem KQ.is (F:KQ W b h e a v):JX h e a v:=by
 obtain⟨H,C,t,n,E,s,⟨w,z,o,hc,k,A,_⟩,N⟩:=F;exact⟨w,z,t,n,o,hc,k,A,s⟩
theorem JX.bj (x:JX h e a v)(F:FI W V z Z X h O)(S:Ls W (Ec V z) h H):JX H e a v:=by
 obtain⟨Q,i,t,n,C,hc,k,j,l⟩:=x;have A:∀b o,h.get? b=Ab o->(∀d f,o.data≠.dict d f)->(∀g,o.data≠.cell g)->H.get? b=Ab o:=λ b o E p r=>S.keep b o (λ q=>by
  rcases q with rfl |⟨x,u,N⟩
  ·obtain⟨m,⟨y,d,f,s,w,_⟩,_⟩:=F.ns;obtain rfl:=A4 E s;exact p _ _ w
  ·obtain⟨c,g,B,⟨y,s,w⟩,_⟩:=F.cell x (.inl u);obtain rfl:=A4 N B;obtain rfl:=A4 E s;exact r _ w) E
 exact⟨Q,i,t,n,A e Q C (λ _ _ q=>by cases Eq.trans (Eq.symm k) q) (λ _ q=>by cases Eq.trans (Eq.symm k) q),hc,k,j,A t _ l (λ _ _ q=>by cases q) λ _ q=>by cases q⟩
theorem JX.bg (x:JX h e a v)(hc:a≠.none/\a≠.type "frame")(w:BB W h H):JX H e a v:=by
 obtain⟨z,A,t,n,s,k,o,C,E⟩:=x;exact⟨z,A,t,n,w.keep s (by rw[k];exact hc.2) (by rw[k];exact hc.1),k,o,C,w.keep E (by simp) (by simp)⟩
theorem XS.putName (B:XB W V z N)(S:XS W V z N Z X s O)(g:A3 V x=Ag)(H:BU W Z X s.heap v sl)(o:∀d,sl=.own d->∀y e,O.lookup y=Ab (.own e)->y=x){a:Unit->Aq->Prop}
 (i:∀Q c,XS W V z N Z X {s with heap:=Q,toks:=c} (Bu O x sl)->Ls W (Ec V z) s.heap Q->s.toks<=c->a () {s with heap:=Q,toks:=c}):Aw W.M A (M3 z x v) a E s:=by
 refine FI.cw S.F (sl:=sl) (Fw g).2 (Fw g).1 H o λ w k C St h=>?_;refine i w k ⟨C.aw λ y j q=>?_,St.j9 N (λ b f=>B.wr b f) S.le,Aa S.tk h,S.fr,S.fc.bo St.cls⟩ St h;rw[Ca] at q;by_cases e:y=x
 ·subst y;rw[if_pos rfl] at q;rw[AF];exact q
 ·rw[if_neg e] at q;rw[AK e];exact q
theorem jS {Cl:Ai}(V:Gm W mg x Cl b)(R:BB W W.h0 s.heap)(Z:A.units+2<Ja)(I:JX s.heap e (.ref Cl) (.str m a))(c:Q (.str m a) s):
 Aw W.M A (call (.type "str") [.ref e]) Q E s:=by
 refine Jt λ y d=>?_;obtain⟨nm,q,N,B,H,D,sub,G,f,J,L,M,S,T,U,Y,o,k,g,mN,i,O,j,hN,l,p,w,z,r⟩:=V.cls;obtain⟨oe,vs,t,n,C,hc,h,u,v⟩:=I;refine d ?_;exact jR Z r (R.keep j (by simp[Fc]) (by simp[Fc])) (Dl R hN) w (Vh R z) O.mroIs (p.hasType O.hasBase) C hc h u v c
theorem Yt {Cl:Ai}{f:Bool->Aq->Prop}(B:Gm W mg x Cl j)(w:Gm W mg i a c)(R:BB W W.h0 s.heap)(I:JX s.heap e (.ref Cl) v)(D:(BK Cl::j).contains (.ref a)=b)(G:f b s):
 Aw W.M A (excMatches (.ref e) (.ref a)) f E s:=by
 obtain⟨nm,q,N,bs,Z,sn,sub,ab,J,dd,k0,k1,k2,k3,k5,Bn,z,k,L,mN,M,Fx,S,hN,T,hT,_⟩:=B.cls;obtain⟨U,q',N',Y,C,a0,l,a1,m,a2,j0,j1,j2,j3,j5,a3,o,h,p,a4,r,H,O,a5,u,Q,_⟩:=w.cls;obtain⟨oe,vs,t,n,V,hc,y,h0,ht⟩:=I;obtain⟨hh,g,d,tk,os⟩:=s;exact T3 (R.keep S (by simp[Fc]) (by simp[Fc])) (R.keep O (by simp[Fc]) (by simp[Fc])) V hc (Q.hasType H.hasBase) D G
theorem Kg {Cl:Ai}(Gk:E2 W C k mg mb)(B:XB W V z N)(xo:Gm W mg x Cl D)(M:Gm W mg p j r)(a4:(BK Cl::D).contains (.ref j)=b)
 (S:XS W V z N Z X {s with heap:=y,toks:=m} O) (l0:m<=s.toks) (F:KQ W y s.heap e (.ref Cl) v) (St:Bb W s.heap l) (hg:CX V p=Ag) (hn:A3 V n=Ag) {t:FG->Aq->Prop}
 (a5:b=Ag->∀R tk,XS W V z N Z X {s with heap:=R,toks:=tk} (Bu O n (.av (.ref e)))->D9 V z Z X y R->JX R e (.ref Cl) v->Bb W R l->s.toks<=tk->
  Aw W.M (A.mark (Ab (.ref e))) (execs (g::c) z) (λ f w=>Aw W.M A (do bindName z n .none;JA z n u) (λ _ T=>t f T) E w) (λ _ _=>False) {s with heap:=R,toks:=tk})
 (a6:b=Av->Aw W.M A (handleBy (.ref e) z i) t E s):
 Aw W.M A (handleBy (.ref e) z (.ExceptHandler (Ab (.Name p G)) (Ab n) (g::c) u::i)) t E s:=by
 have H:XS W V z N Z X s O:=S.ae F.1 l0;have Q:=H.gd B;refine wpAny_handleBy_cons (codeAny_handlers_test (CH Gk H.F Q hg (.inl M.bx) ?_)) (by intro q;contradiction);refine Yt xo M Q.ao F.is a4 ?_;cases b with
 |false=>exact a6 rfl
 |true=>
  refine codeAny_handlers_suite_as (F.again (by simp) St λ U Y J I=>?_);have o:XS W V z N Z X {s with heap:=U} O:=S.ae (tk:=s.toks) I l0;refine o.putName B hn (sl:=.av (.ref e)) rfl (λ d q=>(by contradiction)) λ a0 L a1 h a2=>?_;exact DK (a5 rfl a0 L a1 ((BB.ap I).trans (h.ap λ a ha=>o.F.br ha)) (Y.is.bj o.F h) (J.bo h.cls) a2) (λ f w a3=>a3) λ _ _ f=>f.elim
theorem WF {c:Unit->Aq->Prop}(O:b≠.none/\b≠.type "code")(H:A.frames=Ab (z::a))(St:Bb W s.heap (z::a))(F:KQ W d s.heap e b v)
 (Q:∀N,KQ W d N e b v->Bb W N (z::a)->c () {s with heap:=N}):Aw W.M A (U3 (.ref e) z) (λ _ k=>Aw W.M A (jX (.ref e) Ah) c E k) f s:=
 F.gk O H St λ o t n T w V h Z C=>KQ.land (s:={s with heap:=o}) O h w F.il V Z C Q
theorem FI.av (F:FI W V z Z X s.heap O)(k:O.lookup x=Ab (.av v))(o:Q v s):Aw W.M A (eval (.Name x a) z) Q E s:=by
 obtain⟨u,h,w⟩:=F.at k;have:u=v:=w;subst this;exact F.bv k h o
theorem Tt (F:FI W V z Z X s.heap O)(p:O.lookup x=Ab (.av v))(q:Cm b=Ag)(r:Cm a=Ag)(u:Dq W A (eval b z) s (λ v w=>Rp W X w v e))
 (y:∀k h,BB W s.heap k->s.toks<=h->Dq W A (eval a z) {s with heap:=k,toks:=h} (λ v w=>Rp W X w v d))
 (B:∀w m t n v2 v3,BB W s.heap w->s.toks<=m->s.heap.get? t=Ah->w.get? t=Ab (M1 #[v,v2,v3] n)->Rp W X w v2 e->Rp W X w v3 d->Q (.ref t) {s with heap:=w,toks:=m}):
 Aw W.M A (eval (.Tuple [.Name x f,b,a] g c) z) Q E s:=by
 rw[KX,Bk c z [.Name x f,b,a] (by rw[Dv,Dv,Dv,q,r];rfl)];refine Ac (A0 (Ac ?_));refine AE (F.av p ?_);refine AE (u _ _ λ v2 k h C H D=>?_);refine AE (y k h C H _ _ λ v3 o i N j G=>?_);refine A6 ?_;have l:BB W s.heap o:=C.trans N;have I:s.heap.get? o.objs.size=Ah:=by
  exact BB.bh l (Ci _)
 refine B3 (B _ i o.objs.size 0 v2 v3 (l.trans (.push _ _)) (Aa H j) I (AD _ rfl) ((D.ae N).ae (.push _ _)) (G.ae (.push _ _))) (by show 3<=HH;simp[HH])
theorem LJ (F:FI W V z Z X s.heap O)(h:O.lookup x=Ab (.aa d)):Dq W A (eval (.Name x a) z) s (λ v k=>Rp W X k v d):=
 λ Q E o=>F.name h λ v r=>o v s.heap s.toks (.refl _) (An _) r
theorem UK (F:FI W V z Z X s.heap O)(t:O.lookup x=Ab (.aa (.list a)))(y:Cm e=Ag)(B:Dq W A (eval e z) s (λ v p=>Rp W X p v d))(D:a.length+1<=B2):
 Dq W A (eval (.BinOp (.Name x f) .Add (.List [e] b) c) z) s (λ v p=>Rp W X p v (.list (a++[d]))):=λ Q E G=>by
 refine LX (F.name t λ v I=>?_);rw[Mr,Bk b z [e] (by simp[y])];refine Ac (A0 (Ac (AE (B _ _ λ u N o h g J=>A6 ?_))));refine Dq.newList (s:={s with heap:=N,toks:=o}) (F.ae h).an (RpL.bq J) (by simp[B2]) _ _ λ w i C k j q=>?_;have L:GI .Add (.list a) (.list [d])=Ab (.list (a++[d])):=O9 D;exact MR (s:={s with heap:=i,toks:=C}) ((F.ae h).ae k).an ((Rp.ae h I).ae k) q L _ _ λ v3 l H m n r=>G v3 l H ((h.trans k).trans m) (Aa g (Aa j n)) r
theorem NA {Cl:Ai}(h:E2 W C k mg mb)(F:FI W V z Z X s.heap O)(G:Gd W s)(o:O.lookup n=Ab (.av (.ref e)))(w:CX V "str"=Ag)(H:Gm W mg x Cl d)(N:A.units+2<Ja)
 (I:JX s.heap e (.ref Cl) (.str m b)) (g:Q (.str m b) s):Aw W.M A (eval (.Call (.Name "str" f) [.Name n a] [] c) z) Q E s:=by
 refine B4 (CH h F G w (.inr (h.blt .str)) ?_);rw[Bk c z [.Name n a] rfl];refine M6 rfl (Bf (AE (F.av o (A6 ?_))));exact jS H G.ao N I g
variable {es:List (As×PV)}{hs:AT}{p:Evs} in
structure SV where
 es:List Expr:=[]
 bs:List (List Bs):=[]
 hs:List ExceptHandler:=[]
 sc:Bg:=default
 p:CE:=default
 nm:As:=""
 ar:Ea:=default
variable {a f:Ai}{i:Nat}{v:Ae}{c d:List PV}{t:Expr}{es:List (As×PV)}{hs:AT}{p:Evs} in
def Ir:Bs->SV
 | .FunctionDef nm ar b c _ _ sc _ _ p=>{es:=c,bs:=[b],sc,p,nm,ar}
 | .AsyncFunctionDef _ _ b c _ _ sc _ _ p=>{es:=c,bs:=[b],sc,p}
 | .ClassDef _ d _ b _ _ sc _ _ _ p=>{es:=d,bs:=[b],sc,p}
 | .Return o p=>{es:=o.toList,p}
 | .Delete d p=>{es:=d,p}
 | .Assign h v p=>{es:=v::h,p}
 | .TypeAlias a _ b sc _ _ p=>{es:=[a,b],sc,p}
 | .AugAssign a _ b p=>{es:=[a,b],p}
 | .AnnAssign a b o _ p=>{es:=a::b::o.toList,p}
 | .For t i b o p=>{es:=[t,i],bs:=[b,o],p}
 | .AsyncFor t i b o p=>{es:=[t,i],bs:=[b,o],p}
 | .While t b o p=>{es:=[t],bs:=[b,o],p}
 | .If t b o p=>{es:=[t],bs:=[b,o],p}
 | .With _ b p=>{bs:=[b],p}
 | .AsyncWith _ b p=>{bs:=[b],p}
 | .Match a _ p=>{es:=[a],p}
 | .Raise a b p=>{es:=a.toList++b.toList,p}
 | .Try b hs o f p=>{bs:=[b,o,f],hs,p}
 | .TryStar b hs o f p=>{bs:=[b,o,f],hs,p}
 | .Assert a o p=>{es:=a::o.toList,p}
 | .Import _ p=>{p}
 | .ImportFrom _ _ _ p=>{p}
 | .Global _ p=>{p}
 | .Nonlocal _ p=>{p}
 | .Expr e p=>{es:=[e],p}
 | .Pass p=>{p}
 | .Break p=>{p}
 | .Continue p=>{p}
def EV.x (v:EV)(i:Nat):Expr:=v.es.getD i default
def SV.x (v:SV)(i:Nat):Expr:=v.es.getD i default
def EV.e (v:EV)(i:Nat):EV:=JE (v.x i)
def SV.e (v:SV)(i:Nat):EV:=JE (v.x i)
def SV.b (v:SV)(i:Nat):List Bs:=v.bs.getD i []
def LY (b:List Bs)(i:Nat):SV:=Ir (b.getD i (.Pass default))
def BG (p:FD)(i:Nat):List Bs:=(LY p.main.body i).b 0
theorem XS.gm (h:XB W V z s.heap)(S:XS W V z s.heap Z X {s with heap:=c,toks:=b} O)(w:∀o A,s.heap.get? B=Ab o->o.data≠.fields A)(C:W.h0.get? B=Ah):
 XB W V z (HO s.heap B)/\XS W V z (HO s.heap B) Z X {s with heap:=c,toks:=b} O:=
 ⟨⟨Rt h.ao C w,Nq h.dl w,λ a k=>MJ (h.wr a k)⟩,⟨S.F,SK.trans S.le,S.tk,λ a k E=>MJ (S.fr a k E),S.fc⟩⟩
def Rz {a:Type}(k:BV)(z:Dj)(t:DJ a)(h:Aq)(A:List E9)(Cl:Ai)(o:As):Prop:=
 ∀(Q:a->Aq->Prop)(E:Jc),(∀s w e t,h.toks<=w->Ba o=Ag->o.length<=B2->KQ k h.heap s e (.ref Cl) (.str o t)->Bb k s A->E (.ref e) {h with heap:=s,toks:=w})->Aw k.M z t Q E h
section
variable {w:As}
theorem Rz.aq {Cl:Ai}{c:Type}{t:DJ c}{b:AT}(h:BB W s.heap b)(k:s.toks<=a)(R:Rz W A t {s with heap:=b,toks:=a} f Cl w){d:c->Aq->Prop}
 (C:∀o z e t,s.toks<=z->Ba w=Ag->w.length<=B2->KQ W s.heap o e (.ref Cl) (.str w t)->Bb W o f->E (.ref e) {s with heap:=o,toks:=z}):Aw W.M A t d E {s with heap:=b,toks:=a}:=
 R d E λ o z e t l H z1 F St=>C o z e t (Aa k l) H z1 (F.gr h) St
theorem lW {Cl:Ai}(h:Cm e=Ag)(k:Rz W A (eval e z) s b Cl w):Rz W A (eval (.List [e] a) z) s b Cl w:=λ Q E o=>by
 rw[Mr,Bk a z [e] (by simp[h])];exact Ac (A0 (Ac (AE (k _ _ o))))
theorem tK {Cl:Ai}(F:FI W V z Z X s.heap O)(h:O.lookup x=Ab (.aa d))(k:Rz W A (eval e z) s c Cl w):Rz W A (eval (.BinOp (.Name x f) b e a) z) s c Cl w:=λ Q E o=>
 LX (F.name h λ v C=>k _ _ o)
theorem qG {Cl:Ai}(F:FI W V z Z X s.heap O)(h:O.lookup x=Ab (.av v))(k:Cm b=Ag)(o:Cm a=Ag)(C:Rz W A (eval b z) s d Cl w):Rz W A (eval (.Tuple [.Name x e,b,a] f c) z) s d Cl w:=λ Q E H=>by
 rw[KX,Bk c z [.Name x e,b,a] (by simp only[Dv,Dv,Dv,k,o];rfl)];exact Ac (A0 (Ac (AE (F.av h (AE (C _ _ H))))))
theorem qX {Cl:Ai}(h:Rz W A (eval e z) s a Cl w):Rz W A (exec (.Return (Ab e) b) z) s a Cl w:=λ Q E k=>EP (h _ _ k)
theorem Qf {Cl:Ai}{st:Bs}(h:Rz W A (exec st z) s a Cl w):Rz W A (execs (st::r) z) s a Cl w:=λ Q E k=>Ay (h _ _ k)
end
variable {S:Nat} in
structure HS (W:BV)(sc:Bg)(ah:E9)(hb:AT)(Z X:List Ai)(D:Ai)(es:List (As×PV))(l:List E9)(s:Aq)(ρ:A5):Prop where
 S:XS W sc ah hb Z X s ρ
 dD:BX W X s.heap D (.dict es)
 St:Bb W s.heap l
 zD:D∈Z
 fD:D∉AW ah
 bD:hb.get? D=Ah
section
theorem HS.ae (h:HS W V z N Z X D a l s O)(K:BB W s.heap H)(k:s.toks<=tk):HS W V z N Z X D a l {s with heap:=H,toks:=tk} O:=⟨h.S.ae K k,h.dD.ae K,h.St.bg K,h.zD,h.fD,h.bD⟩
theorem HS.dy (h:HS W V z N Z X D a l s O):¬Ec V z D:=λ q=>h.fD (by
 rcases q with q |⟨x,_,q⟩
 ·exact q▸Ad
 ·exact Di q)
theorem HS.bj (h:HS W V z N Z X D c l s O)(k:XS W V z N Z X {s with heap:=H,toks:=d} b)(K:Ls W (Ec V z) s.heap H):HS W V z N Z X D c l {s with heap:=H,toks:=d} b:=
 ⟨k,h.dD.bj K (λ a o=>h.S.F.br o) h.dy,h.St.bo K.cls,h.zD,h.fD,h.bD⟩
theorem VZ (G:A.handled=Ah)(B:XB W V z N)(Q:HS W V z N Z X D p l s O)(I:O.lookup y=Ab (.av (.ref T)))(J:s.heap.get? T=Ab (M1 #[b,v1,v2] n))(L:Rp W X s.heap v1 d1)(M:Rp W X s.heap v2 d2)
 (H:(A3 V a&&A3 V c&&A3 V e)=Ag) {g:FG->Aq->Prop}
 (R:∀x v,HS W V z N Z X D p l {s with heap:=x,toks:=v} (Bu (Bu (Bu O a (.av b)) c (.aa d1)) e (.aa d2))->s.toks<=v->g .next {s with heap:=x,toks:=v}):
 Aw W.M A (exec (.Assign [.Tuple [.Name a i,.Name c j,.Name e m] r f] (.Name y u) t) z) g E s:=by
 rw[AG,AG] at H;refine CA (t:=.Tuple [.Name a i,.Name c j,.Name e m] r f) rfl rfl rfl (Q.S.F.av I ?_);refine XS.fz (xs:=[(a,i),(c,j),(e,m)]) (vs:=[b,v1,v2]) (sls:=[.av b,.aa d1,.aa d2]) G B Q.S J (by simp[H.1.1,H.1.2,H.2]) rfl ⟨rfl,(λ d q=>nomatch q),L,(λ d q=>nomatch q),M,(λ d q=>nomatch q),trivial⟩ rfl λ o h w k C=>?_;exact R o h (Q.bj w k) C
end
set_option genInjectivity false
set_option genSizeOfSpec false
theorem sH {b:Bool}{x d:PV}(h:(if b then Ab x else Ah)=Ab d):b=Ag/\x=d:=by
 cases b with
 |false=>cases h
 |true=>exact⟨rfl,AN h⟩
theorem Lf {p:Prop} [Decidable p] {a:Type}{x d:a}(h:(if p then Ab x else Ah)=Ab d):p/\x=d:=by
 by_cases q:p
 ·rw[if_pos q] at h;exact⟨q,AN h⟩
 ·rw[if_neg q] at h;cases h
theorem Sw {x:As}(h:Pw x=Ag):Ba x=Ag/\x.length<=B2:=⟨(AC.mp h).1,of_decide_eq_true (AC.mp h).2⟩
structure Pt (C:GK)(sc:Bg)(ρ:A5) where
 W:BV
 A:Dj
 ah:E9
 Z:List Ai
 X:List Ai
 k:Nat
 mg:As->Option Ae
 mb:As->Option Ae
 Gk:E2 W C k mg mb
 hA:CY k A
section
variable {α β:Type}
def Pt.J (c:Pt C V O)(t:DJ α)(P:α->AT->Prop):Prop:=∀s,FI c.W V c.ah c.Z c.X s.heap O->Gd c.W s->Dq c.W c.A t s P
variable {r:List Bs}{q:CE} in
structure Pt.St (c:Pt C V O)(vs:List Ae)(ds:List PV)(P:α->AT->Prop)(Q:α->Aq->Prop)(s:Aq):Prop where
 F:FI c.W V c.ah c.Z c.X s.heap O
 G:Gd c.W s
 r:RpL c.W c.X s.heap vs ds
 q:∀a h' tk,BB c.W s.heap h'->s.toks<=tk->P a h'->Q a {s with heap:=h',toks:=tk}
variable {c:Pt C V O}{P:α->AT->Prop}{Q:α->Aq->Prop}
theorem Pt.J.mk (h:∀Q E s,c.St [] [] P Q s->Aw c.W.M c.A t Q E s):c.J t P:=λ s F G Q E q=>h Q E s ⟨F,G,.nil,q⟩
theorem Pt.St.aq (S:c.St b d P Q s)(k:BB c.W s.heap h)(l:s.toks<=e):c.St b d P Q {s with heap:=h,toks:=e}:=
 ⟨S.F.ae k,S.G.step k l,S.r.ae k,λ a w o z A=>S.q a w o (k.trans z) (Aa l A)⟩
theorem Pt.St.cr (S:c.St a b P Q s)(h:Dq c.W c.A t s P):Aw c.W.M c.A t Q E s:=h Q E S.q
theorem Pt.St.out (S:c.St b d P Q s)(h:P a s.heap):Q a s:=S.q a s.heap s.toks (.refl _) (An _) h
theorem Pt.St.gh (S:c.St b d P Q s)(h:P a s.heap):Q a {s with toks:=s.toks+1}:=S.q a s.heap _ (.refl _) (Bq _) h
theorem Pt.St.alive (S:c.St b d P Q s):∀a∈c.X,∃o,s.heap.get? a=Ab o:=S.F.an
theorem Pt.St.r1 (S:c.St (v::b) (d::e) P Q s):Rp c.W c.X s.heap v d:=by cases S.r with |cons a _=>exact a
theorem Pt.St.li (S:c.St (v::b) (d::e) P Q s):c.St b e P Q s:=⟨S.F,S.G,by cases S.r with |cons _ a=>exact a,S.q⟩
theorem Pt.St.r2 (S:c.St (v::a::b) (d::e::f) P Q s):Rp c.W c.X s.heap a e:=S.li.r1
noncomputable abbrev Pt.Is (c:Pt C V O)(d:PV)(v:Ae)(h:AT):Prop:=Rp c.W c.X h v d
theorem Pt.J.go (j:c.J t (c.Is d))(S:c.St b e P Q s)(k:∀v s,c.St (v::b) (d::e) P Q s->a v s):Aw c.W.M c.A t a E s:=
 j s S.F S.G a E λ v h w o l r=>let T:=S.aq o l;k v _ ⟨T.F,T.G,.cons r T.r,T.q⟩
theorem Pt.J.bl {R:β->AT->Prop}(j:c.J t R)(S:c.St b d P Q s){a:β->Aq->Prop}(w:∀v k,c.St b d P Q k->BB c.W s.heap k.heap->R v k.heap->a v k):Aw c.W.M c.A t a E s:=
 j s S.F S.G a E λ v h z o l r=>w v _ (S.aq o l) o r
theorem Pt.St.ku (S:c.St b d P Q s){a:β->Aq->Prop}(k:∀(Q:β->Aq->Prop)(E:Jc),(∀h,Q v {s with toks:=h})->Aw c.W.M c.A t Q E s)(z:∀o,c.St b d P Q o->a v o):Aw c.W.M c.A t a E s:=
 Dq.of (P:=λ w k=>w=v) (λ Q E A=>k Q E λ h=>A _ _ h (.refl _) rfl) a E λ w k h C l e=>e▸z _ (S.aq C l)
def Dc (h:GK)(k:Bg)(o:A5)(e:Expr)(d:PV):Prop:=∀c:Pt h k o,c.J (eval e c.ah) (c.Is d)
def KY (h:GK)(k:Bg)(o:A5)(e:Expr)(b:Bool):Prop:=∀c:Pt h k o,c.J (isTrue e c.ah (eval e c.ah)) λ s _=>s=b
def OG (k:GK)(o:Bg)(s:A5)(e:Expr)(w:List PV):Prop:=K8 e=Ag/\∀c:Pt k o s,c.J (eval e c.ah) λ v h=>tY c.W c.X h v w
def jB (c:BV)(k X:List Ai)(h:AT)(v:Ae)(d:PV):Prop:=Rp c X h v d\/∃a,v=.ref a/\a∉k/\BX c X h a d
theorem jB.at (b:jB W Z X h v d)(c:BB W h H):QE W X H v d:=b.imp (λ r=>r.ae c) λ x=>by obtain⟨a,e,_,r⟩:=x;exact⟨a,e,r.ae c⟩
def jA (k:GK)(o:Bg)(s:A5)(e:Expr)(d:PV):Prop:=∀c:Pt k o s,c.J (eval e c.ah) λ v h=>jB c.W c.Z c.X h v d
def ZC (h:GK)(k:Bg)(o:A5)(e:Option Expr)(s:Option Int):Prop:=∀c:Pt h k o,c.J (evalPart e c.ah) λ v _=>IsPart v s
def U0 (o:GK)(s:Bg)(w:A5)(k:List Expr)(z:List PV):Prop:=k.all Cm=Ag/\∀c:Pt o s w,c.J (spliced (k.map λ e=>(Av,eval e c.ah))) λ A h=>RpL c.W c.X h A z
def o6 (h:GK)(k:Bg)(o:A5)(s:BoolOp)(w:List Expr)(b:Bool):Prop:=∀c:Pt h k o,c.J (allTrue s w c.ah) λ z _=>z=b
theorem Dc.at (c:Dc C V O e d)(h:E2 W C k mg mb)(o:CY k A)(F:FI W V z Z X s.heap O)(G:Gd W s):Dq W A (eval e z) s (λ v c=>Rp W X c v d):=c ⟨W,A,z,Z,X,k,mg,mb,h,o⟩ s F G
theorem KY.at (c:KY C V O e d)(h:E2 W C k mg mb)(o:CY k A)(F:FI W V z Z X s.heap O)(G:Gd W s):Dq W A (isTrue e z (eval e z)) s (λ v _=>v=d):=c ⟨W,A,z,Z,X,k,mg,mb,h,o⟩ s F G
theorem Dc.name (h:Rs C V O x=Ab d):Dc C V O (.Name x p) d:=λ c s F G=>VG c.Gk F G h
theorem Dc.aa (h:O.lookup x=Ab (.aa d)):Dc C V O (.Name x p) d:=λ c=>.mk λ Q E s S=>S.F.name h λ v r=>S.out r
theorem Dc.ag (h:tC t=Ab d):Dc C V O (.Constant t a p) d:=λ c=>.mk λ Q E s S=>by
 cases t with
 |none=>cases h;exact wpAny_Constant_none (S.out .none)
 |bool b=>cases h;exact wpAny_Constant_bool (S.out (.bool _))
 |int i=>cases h;exact wpAny_Constant_int (S.gh (.int _ _))
 |str x=>
  obtain⟨q,rfl⟩:=sH h;exact KU (S.gh (.str _ _ (Sw q).1 (Sw q).2))
 |_=>cases h
theorem Dc.int:Dc C V O (.Constant (.int i) kk p) (.int i):=.ag rfl
theorem Dc.am (h:Dc C V O l a)(k:Dc C V O r b)(o:GI e a b=Ab d):Dc C V O (.BinOp l e r p) d:=λ c=>.mk λ Q E s S=>
 LX ((h c).go S λ v s S=>(k c).go S λ w s S=>S.cr (MR S.alive S.r2 S.r1 o))
theorem Dc.ja (k:KY C V O t b')(o:Dc C V O (if b' then a else b) d):Dc C V O (.IfExp t a b p) d:=λ c=>.mk λ Q E s S=>
 wpAny_IfExp ((k c).bl S λ v w h _ e=>by subst e;cases v<;>exact h.cr (o c w h.F h.G))
theorem jA.own (h:O.lookup x=Ab (.own d)):jA C V O (.Name x p) d:=λ c=>.mk λ Q E s S=>S.F.name h λ v r=>S.out (.inr (by obtain⟨a,e,_,z,r⟩:=r;exact⟨a,e,z,r⟩))
theorem jA.bn (h:Dc C V O e d):jA C V O e d:=λ c s F G=>(h c s F G).ae λ _ _ _ r=>.inl r
theorem Dc.sub (A:jA C V O v b)(H:Dc C V O i kd)(N:∀h z,subscripted i Av h z=operate [h,z] (L0 h z))(W:EW b kd=Ab d):Dc C V O (.Subscript v i p) d:=λ c=>.mk λ Q E s S=>
 Subscript_ ((A c).bl S λ o s S _ Z=>(H c).bl S λ w s S k rw=>S.cr (Vl (Z.at k) rw W v i N))
theorem ZC.no:ZC C V O Ah Ah:=λ c=>.mk λ Q E s S=>wpAny_evalPart_none (S.out .none)
theorem ZC.int (h:Dc C V O e (.int i)):ZC C V O (Ab e) (Ab i):=λ c=>.mk λ Q E s S=>
 wpAny_evalPart_some ((h c).bl S λ v s S _ r=>S.out (by obtain⟨t,q⟩:=r.aj;exact q▸.int _ _))
theorem N1 (lo k st:Option Expr)(o:CE)(h:Ae)(a:Ai):∃c,subscripted (.Slice lo k st o) Av h (.ref a)=operate c (L0 h (.ref a)):=by
 cases st<;>exact⟨_,rfl⟩
theorem Dc.slice {p:CE}{v:Expr}{lo a st:Option Expr}{e:CE}{b d:PV}{l u t:Option Int}(k:jA C V O v b)(w:ZC C V O lo l)(z:ZC C V O a u)(A:ZC C V O st t)(H:DV b l u t=Ab d):Dc C V O (.Subscript v (.Slice lo a st e) p) d:=λ c=>.mk λ Q E s S=>
 Subscript_ ((k c).bl S λ o s S _ N=>wpAny_Slice ((w c).bl S λ W s S Z f=>(z c).bl S λ g s S i j=>(A c).bl S λ m s S n q=>
  let h:BB c.W s.heap (s.heap.push {cls:=.type "slice",data:=.fields #[W,g,m]}):=.push _ _
  let T:=S.aq h (An s.toks)
  T.cr (Nc (N.at (((Z.trans i).trans n).trans h)) T.alive ⟨_,AD _ rfl,rfl,rfl⟩ f j q H v _ (N1 lo a st e _ _).choose_spec)))
theorem U0.nil:U0 C V O [] []:=⟨rfl,λ c=>.mk λ Q E s S=>A6 (S.out .nil)⟩
theorem U0.cons (o:Dc C V O e d)(h:U0 C V O a b)(w:Cm e=Ag):U0 C V O (e::a) (d::b):=
 ⟨by rw[Dv,w,h.1];rfl,λ c=>.mk λ Q E s S=>AE ((o c).bl S λ v s S _ r=>(h.2 c).bl S λ A s S k z=>S.out (.cons (r.ae k) z))⟩
theorem Dc.list (h:U0 C V O a b)(k:b.length<=B2):Dc C V O (.List a p) (.list b):=λ c=>.mk λ Q E s S=>by
 rw[Mr,Bk p c.ah a h.1];exact Ac (A0 (Ac ((h.2 c).bl S λ vs s S _ r=>S.cr (Dq.newList S.alive r k))))
theorem Dc.ba (h:U0 C V O a b)(k:b.length<=B2):Dc C V O (.Tuple a d p) (.ba b):=λ c=>.mk λ Q E s S=>by
 rw[KX,Bk p c.ah a h.1];exact Ac (A0 (Ac ((h.2 c).bl S λ o s S _ r=>S.cr (Dq.newTuple S.alive r k))))
theorem U0.fg (k:U0 C V O d e)(S:c.St a b P Q s){R:Args->Aq->Prop}
 (w:∀o h,c.St a b P Q h->BB c.W s.heap h.heap->RpL c.W c.X h.heap o e->R ⟨o,[]⟩ h):Aw c.W.M c.A (evalArgs f Ag (U4 p (M4 d c.ah)) []) R E s:=by
 rw[Bk p c.ah d k.1];exact NB d ((k.2 c).bl S w)
theorem Dc.blt (A:(CX V x&&(O.lookup x).isNone)=Ag)(H:wS x=Ab b)(w:U0 C V O args ds)(N:Q2 b ds=Ab d):Dc C V O (.Call (.Name x q) args [] p) d:=λ c=>.mk λ Q E s S=>by
 have W:=Zx H;subst W;refine B4 (CH c.Gk S.F S.G (AC.mp A).1 (.inr (c.Gk.blt b)) ?_);have h:∀f,f=b.val->Aw c.W.M c.A (evalArgs f Ag (U4 p (M4 args c.ah)) []) (λ a o=>Aw c.W.M c.A (call f ([]++a.pos) a.kw) Q E o) E s:=λ f e=>
  w.fg S λ Z s S k r=>e▸S.cr (Wn c.hA.handled S.alive r N)
 have z:((U4 p (M4 args c.ah))).any (·.1)=Av:=by rw[Bk p c.ah args w.1];exact Oj args
 rcases iG b with⟨id,e⟩ |⟨T,e⟩
 ·exact e▸F4 z (h _ e.symm)
 ·exact e▸M6 z (h _ e.symm)
theorem Dc.fn {g:List PV->Option PV}(H:(CX V x&&(O.lookup x).isNone)=Ag)(N:C.fn x=Ab g)(W:U0 C V O args b)(Z:g b=Ab d):Dc C V O (.Call (.Name x q) args [] p) d:=λ c=>.mk λ Q E s S=>by
 obtain⟨a,o,m,e,f,i,z,A,h⟩:=c.Gk.fn x g N;refine B4 (CH c.Gk S.F S.G (AC.mp H).1 (.inl e) ?_);exact Cj (W.fg S λ j l w k r=>⟨⟨w.G.ao.keep f z A,i⟩,w.cr (h c.A l c.X b j d c.hA w.G w.F.alive r Z)⟩)
theorem Dc.bw {f:List PV}{p:CE}{e:Expr}{name:As}{a:CE}{args:List Expr}{b d:PV}{mf:MF}(hk:(VC e&&(a.endLine==p.line))=Ag)(H:vD name=Ab mf)(N:Dc C V O e b)(h:U0 C V O args f)(W:args.length<20)(z:Mg mf b f=Ab d):Dc C V O (.Call (.Attribute e name a) args [] p) d:=λ c=>.mk λ Q E s S=>by
 have o:=Yr H;subst o;have mt:=Ys z;have A:=AC.mp hk;refine wpAny_Call_method (RV A.1 _ c.ah) (Nz _ p h.1 W) A.2 mf.plain mf.slot mf.lr ((N c).bl S λ v s S Z w=>⟨(Sm w mt).1 _ rfl,(Sm w mt).2,?_⟩);exact F4 (by rw[Bk p c.ah args h.1];exact Oj args) (h.fg S λ g s S k r=>S.cr (T1 S.alive (w.ae k) r z))
theorem Dc.jr {p:CE}{a:CE}{x b:As}(hk:(VC d&&(a.endLine==p.line))=Ag)(z:Dc C V O d (.str x))(hc:(Pw y&&Pw b&&!(y==b)&&decide (x.length+(x.length+1)*b.length<=16777216)&&Pw (KJ x y b))=Ag):
 Dc C V O (.Call (.Attribute d "replace" a) [.Constant (.str y) f g,.Constant (.str b) e i] [] p) (.str (KJ x y b)):=λ c=>.mk λ Q E s S=>by
 have w:=AC.mp hk;rw[AG,AG,AG,C3,decide_eq_true_eq] at hc;obtain⟨⟨⟨_,A⟩,H⟩,h⟩:=hc;have h:=Sw h;refine wpAny_Call_method (RV w.1 _ c.ah) (Nz _ p rfl (show 2<20 by decide)) w.2 PySem.F.plainAttrs_str PySem.F.slot_str_replace PySem.F.type_str_replace ((z c).bl S λ v s S W o=>⟨(Sm o (.inl ⟨_,rfl,rfl⟩)).1 _ rfl,(Sm o (.inl ⟨_,rfl,rfl⟩)).2,?_⟩);obtain⟨t,rfl,_⟩:=o.aj;rw[Bk p c.ah _ rfl];refine F4 rfl (Bf (AE (KU (AE (KU (A6 ?_))))));exact(S.aq (.refl _) (BD (Bq _))).cr (.of λ Q E N=>SC.replace (Dz S.G.toks) (Nat.succ_ne_zero _) (Cu (CK _)) A H λ Z k=>N _ _ k (.refl _) (.str _ _ h.1 h.2))
theorem S3 {R:Pt C V O->Ae->AT->Prop}(H:Dc C V O l a)(N:∀c:Pt C V O,c.J (eval r c.ah) (R c))(W:∀(c:Pt C V O) v h,R c v h->Rp c.W c.X h v b\/((d=.In\/d=.NotIn)/\QE c.W c.X h v b))(Z:K8 r=Ag)(h:I9 d a b=Ab t):
 KY C V O (.Compare l [d] [r] p) t/\Dc C V O (.Compare l [d] [r] p) (.bool t):=
 have e:∀c:Pt C V O,c.A.units<9000:=λ c=>Az (AS _ _) c.hA.units
 ⟨λ c=>.mk λ Q E s S=>DB ((H c).bl S λ v s S _ o=>(N c).bl S λ w s S k rw=>S.ku (λ Q E z=>HA (e c) (o.ae k) (W c _ _ rw) h λ A=>z A) λ s S=>CB (S.out rfl)) (IB Z),
  λ c=>.mk λ Q E s S=>wpAny_Compare1 ((H c).bl S λ v s S _ o=>(N c).bl S λ w s S k rw=>S.ku (λ Q E z=>HA (e c) (o.ae k) (W c _ _ rw) h λ A=>z A) λ s S=>S.out (.bool t)) (IB Z)⟩
theorem KY.au (c:Dc C V O l a)(h:Dc C V O r b)(k:K8 r=Ag)(o:I9 d a b=Ab t):KY C V O (.Compare l [d] [r] p) t:=(S3 c h (λ _ _ _ r=>.inl r) k o).1
theorem KY.cq (c:Dc C V O l a)(h:jA C V O r b)(k:K8 r=Ag)(o:d=.In\/d=.NotIn)(s:I9 d a b=Ab t):KY C V O (.Compare l [d] [r] p) t:=(S3 c h (λ _ _ _ r=>.inr ⟨o,r.at (.refl _)⟩) k s).1
theorem Dc.au (c:Dc C V O l a)(h:Dc C V O r b)(k:K8 r=Ag)(o:I9 d a b=Ab t):Dc C V O (.Compare l [d] [r] p) (.bool t):=(S3 c h (λ _ _ _ r=>.inl r) k o).2
theorem KY.not (h:KY C V O e b):KY C V O (.UnaryOp .Not e p) (!b):=λ c=>.mk λ Q E s S=>wpAny_isTrue_Not ((h c).bl S λ v s S _ e=>S.out (e▸rfl))
theorem KY.val {e:Expr}(k:∀h,isTrue e h (eval e h)=(do let v <-eval e h;X9 e.pos;pU [v] (truthy v)))(o:Dc C V O e d)(w:Pg d=Ab b):KY C V O e b:=λ c=>.mk λ Q E s S=>by
 rw[k];exact Ac ((o c).bl S λ v s S _ r=>Ac (A0 (Bt (S.cr (Vb r w)))))
theorem KY.name (c:Rs C V O x=Ab d)(h:Pg d=Ab b):KY C V O (.Name x p) b:=.val (λ _=>rfl) (.name c) h
theorem o6.nil:o6 C V O a [] (a== .And):=λ c=>.mk λ Q E s S=>Ar (S.out rfl)
theorem o6.bu (h:KY C V O x b)(k:b=Ag->o6 C V O .And a t):o6 C V O .And (x::a) (b&&t):=λ c=>.mk λ Q E s S=>
 wpAny_allTrue_And_cons ((h c).bl S λ v s S _ e=>by subst e;cases v;exact VU (S.out rfl);exact PW (S.cr (k rfl c s S.F S.G)))
theorem o6.dj (h:KY C V O x b)(k:b=Av->o6 C V O .Or a t):o6 C V O .Or (x::a) (b||t):=λ c=>.mk λ Q E s S=>
 wpAny_allTrue_Or_cons ((h c).bl S λ v s S _ e=>by subst e;cases v;exact VU (S.cr (k rfl c s S.F S.G));exact PW (S.out rfl))
theorem KY.all (h:o6 C V O a d b):KY C V O (.BoolOp a d p) b:=λ c=>.mk λ Q E s S=>wpAny_isTrue_BoolOp (S.cr (h c s S.F S.G))
theorem OG.list (h:Dc C V O e (.list a))(k:K8 e=Ag):OG C V O e a:=⟨k,λ c s F G=>(h c s F G).ae λ _ _ _ r=>.list r⟩
theorem OG.ba (h:Dc C V O e (.ba a))(k:K8 e=Ag):OG C V O e a:=⟨k,λ c s F G=>(h c s F G).ae λ _ _ _ r=>.ba r⟩
theorem Vv (c:bM f=Ab g):(∃b,f=[.int b]/\(0<=b/\b<=100000)/\Sp 0 b=g)\/∃a b,f=[.int a,.int b]/\(a<=b/\b-a<=100000/\-1000000<=a/\b<=1000000)/\Sp a (b-a)=g:=by
 cases f with
 |nil=>cases c
 |cons d f=>
  obtain⟨a,h,c⟩:=AM.mp c;cases f with
  |nil=>exact .inl ⟨a,by rw[Nv h],Lf c⟩
  |cons e k=>
   obtain⟨b,o,c⟩:=AM.mp c;cases k with
   |cons _ _=>cases c
   |nil=>exact .inr ⟨a,b,by rw[Nv h,Nv o],Lf c⟩
theorem OG.range (A:CX V "range"=Ag)(z:U0 C V O args ds)(H:bM ds=Ab d):OG C V O (.Call (.Name "range" q) args [] p) d:=⟨rfl,λ c=>.mk λ Q E s S=>by
 refine B4 (CH c.Gk S.F S.G A (.inr c.Gk.l9) (M6 (by rw[Bk p c.ah args z.1];exact Oj args) (z.fg S λ N s S k r=>?_)));rcases Vv H with⟨b,rfl,h,e⟩ |⟨a,b,rfl,h,e⟩
 ·obtain⟨v,rfl,o⟩:=r.k6;obtain⟨t,rfl⟩:=o.aj;refine call_range_1 (S.q _ _ _ (.push _ _) (BD (Bq _)) ?_);have:=tY.range (W:=c.W) (X:=c.X) (IsRange.new s.heap 0 b 1 s.toks t (s.toks+1)) h.1 (by rw[Int.sub_zero];exact h.2) (by decide) (Cx h.2 (by decide));rw[Int.sub_zero] at this;exact e▸this
 ·obtain⟨v,w,rfl,o,rw⟩:=r.kz;obtain⟨t,rfl⟩:=o.aj;obtain⟨u,rfl⟩:=rw.aj;exact call_range_2 (S.q _ _ _ (.push _ _) (Bq _) (e▸tY.range (IsRange.new s.heap _ _ 1 t u s.toks) h.1 h.2.1 h.2.2.1 h.2.2.2))⟩
end
set_option genInjectivity false
set_option genSizeOfSpec false
section
variable {β:Type}
def NL (k:GK)(o:Bg)(s:A5)(h:List Expr)(b:Bool):Prop:=
 ∀c:Pt k o s,c.J (forIn h Ag λ t r=>if r=Ag then do let w <-isTrue t c.ah (eval t c.ah);pure (E6 w) else pure (E6 r)) λ z _=>z=b
theorem NL.nil:NL C V O [] Ag:=λ c=>.mk λ Q E s S=>Ar (S.out rfl)
theorem NL.bq (h:KY C V O e b):NL C V O [e] b:=λ c=>.mk λ Q E s S=>by
 rw[EG];refine Ac ?_;exact Ac ((h c).bl S λ v s S _ e=>Ar (Ar (S.out e)))
variable {xs:List PV}{it:Expr} in
structure KR (C:GK)(sc:Bg)(β:Type) where
 W:BV
 A:Dj
 ah:E9
 hb:AT
 Z:List Ai
 X:List Ai
 k:Nat
 mg:As->Option Ae
 mb:As->Option Ae
 I:Ai
 D:Ai
 xs:List PV
 St:Nat->AT->Prop
 Acc:List Ai->AT->List β->Prop
 Gk:E2 W C k mg mb
 hA:CY k A
 ak:ZK D Acc
 ao:BB W W.h0 hb
 dl:W.di hb
 wr:∀a,Ec sc ah a->hb.get? a=Ah
 Df:D∉AW ah
 D0:hb.get? D=Ah
 DZ:D∈Z
 ZX:∀a∈Z,a∈X
 IX:I∉X
 If:I∉AW ah
 Ib:hb.get? I=Ah
 it:MX W A (I::X) I xs St
variable {tk:Nat}{st:Bs} in
structure CI (L:KR C V β)(s0:Aq)(i:Nat)(ρ:A5)(ds:List β)(s:Aq):Prop where
 F:FI L.W V L.ah (L.I::L.Z) (L.I::L.X) s.heap ρ
 st:L.St i s.heap
 le:BB L.W L.hb s.heap
 ck:L.Acc (L.I::L.X) s.heap ds
 kb:F2 (λ b=>b=L.I\/b=L.D\/Ec V L.ah b) s0.heap s.heap
 tk:s0.toks<=s.toks
 t1:1<=s.toks
 eq:s={s0 with heap:=s.heap,toks:=s.toks}
variable {tk:Nat} in
structure CO (L:KR C V β)(s0:Aq)(ρ:A5)(ds:List β)(s:Aq):Prop where
 F:FI L.W V L.ah L.Z L.X s.heap ρ
 le:BB L.W L.hb s.heap
 ck:L.Acc L.X s.heap ds
 kb:F2 (λ b=>b=L.I\/b=L.D\/Ec V L.ah b) s0.heap s.heap
 tk:s0.toks<=s.toks
 eq:s={s0 with heap:=s.heap,toks:=s.toks}
variable {L:KR C V β}{ds:List β}
theorem K3 (h:Ec V z a):a∈AW z:=h.elim (λ e=>e▸Ad) λ⟨_,_,e⟩=>Di e
theorem CI.gd (c:CI L a i O ds s):Gd L.W s:=⟨L.ao.trans c.le,c.le.2 L.dl,c.t1⟩
theorem CI.fp (c:CI L d i O ds s)(w:∀o,o.cls≠.type "frame"->o.cls≠.none->s.heap.get? L.I=Ab o->h.get? L.I=Ab o):∀o,s.heap.get? L.I=Ab o->h.get? L.I=Ab o:=λ o e=>by
 obtain⟨z,k,a,_,b,_⟩:=L.it.cj i _ c.st;exact w o (by obtain rfl:=A4 e k;exact b) (by obtain rfl:=A4 e k;exact a) e
theorem CI.dq {i g:Nat}{f:Aq}(c:CI L f i O ds s)(k:BB L.W s.heap h)(l:s.toks<=g):CI L f i O ds {s with heap:=h,toks:=g} where
 F:=c.F.ae k
 st:=L.it.frame _ _ _ c.st (c.fp λ o a b e=>k.keep e a b) λ b o _ e d=>D6 k e d
 le:=c.le.trans k
 ck:=L.ak.bi c.ck (λ b o e w d=>⟨k.keep e d.1 d.2,w⟩) λ o e=>by
  obtain⟨A,z,d⟩:=L.ak.obj c.ck;obtain rfl:=A4 e z;exact D6 k e d
 kb:=c.kb.trans k.bz
 tk:=Aa c.tk l
 t1:=Aa c.t1 l
 eq:=by rw[c.eq]
theorem CI.ec (c:CI L j i O ds s)(F:FI L.W V L.ah (L.I::L.Z) (L.I::L.X) h f)(z:BB L.W L.hb h)(l:s.toks<=m)(k:L.Acc (L.I::L.X) h g)(w:F2 (λ b=>b=L.D\/Ec V L.ah b) s.heap h):
 CI L j i f g {s with heap:=h,toks:=m} where
 F:=F
 st:=L.it.frame _ _ _ c.st (c.fp λ o a b e=>w _ o (λ q=>q.elim (λ q=>L.IX (q▸L.ZX _ L.DZ)) λ q=>L.If (K3 q)) e a b) λ b o A e d=>w b o (λ q=>A (q.elim (λ q=>q▸Af _ (L.ZX _ L.DZ)) λ q=>c.F.zx b (c.F.bb b (K3 q)))) e d.cls.1 d.cls.2
 le:=z
 ck:=k
 kb:=c.kb.trans (w.weak λ _ q=>.inr q)
 tk:=Aa c.tk l
 t1:=Aa c.t1 l
 eq:=by rw[c.eq]
theorem CI.bj (c:CI L d i O ds s)(F:FI L.W V L.ah (L.I::L.Z) (L.I::L.X) h a)(S:Ls L.W (Ec V L.ah) s.heap h)(l:s.toks<=f):CI L d i a ds {s with heap:=h,toks:=f}:=
 c.ec F (S.j9 _ L.wr c.le) l (L.ak.bi c.ck (λ b o e k _=>⟨S.keep b o (λ q=>k (c.F.zx b (c.F.bb b (K3 q)))) e,k⟩) λ o e=>S.keep _ o (λ q=>L.Df (K3 q)) e) (S.bz.weak λ _ q=>.inr q)
theorem CI.step {i j tk:Nat}{d:Aq}(c:CI L d i O ds s)(k:BC L.I s.heap h)(st:L.St j h)(l:s.toks<=tk):CI L d j O ds {s with heap:=h,toks:=tk} where
 F:=c.F.ext k Ad L.If (by obtain⟨o,e,_⟩:=L.it.cj _ _ st;exact⟨o,e⟩)
 st:=st
 le:=c.le.ext L.Ib (λ o C z _=>by obtain⟨E,A,a,b,_⟩:=L.it.cj _ _ c.st;obtain rfl:=A4 z A;exact⟨a,b⟩) k
 ck:=L.ak.bi c.ck (λ b o e w _=>⟨k b o (λ q=>w (q▸Ad)) e,w⟩) λ o e=>k _ o (λ q=>L.IX (q▸L.ZX _ L.DZ)) e
 kb:=c.kb.trans λ b o w e _ _=>k b o (λ q=>w (.inl q)) e
 tk:=Aa c.tk l
 t1:=Aa c.t1 l
 eq:=by rw[c.eq]
theorem CI.own (c:CI L f i O ds s)(k:BM L.D s.heap h)(z:∃o,h.get? L.D=Ab o)(l:s.toks<=g)(w:L.Acc (L.I::L.X) h a):CI L f i O a {s with heap:=h,toks:=g}:=
 c.ec (c.F.ext k.extBut (Af _ L.DZ) L.Df z) (c.le.ext L.D0 (λ o H A _=>by
   obtain⟨N,C,d⟩:=L.ak.obj c.ck;obtain rfl:=A4 A C;rcases d with d |d |d<;>rw[d]<;>exact⟨nofun,by decide⟩) k.extBut) l w λ b o E e _ _=>(k.2 b λ q=>E (.inl q)).trans e
theorem CI.weak {a:A5}(c:CI L b i a ds s)(k:∀y h,O.lookup y=Ab h->a.lookup y=Ab h):CI L b i O ds s:={c with F:=c.F.aw k}
theorem CI.out (c:CI L d i O ds s)(k:BC L.I s.heap h)(l:s.toks<=f):CO L d O ds {s with heap:=h,toks:=f} where
 F:=c.F.bp k L.If L.IX L.ZX
 le:=c.le.ext L.Ib (λ o C z _=>by obtain⟨E,A,a,b,_⟩:=L.it.cj _ _ c.st;obtain rfl:=A4 z A;exact⟨a,b⟩) k
 ck:=L.ak.bi c.ck (λ b o e w _=>⟨k b o (λ q=>w (q▸Ad)) e,λ q=>w (Af _ q)⟩) λ o e=>k _ o (λ q=>L.IX (q▸L.ZX _ L.DZ)) e
 kb:=c.kb.trans λ b o w e _ _=>k b o (λ q=>w (.inl q)) e
 tk:=Aa c.tk l
 eq:=by rw[c.eq]
def KR.pt (h:KR C V β)(k:A5):Pt C V k:=⟨h.W,h.A,h.ah,h.I::h.Z,h.I::h.X,h.k,h.mg,h.mb,h.Gk,h.hA⟩
theorem CI.go {a:Type}{t:DJ a}{R:a->AT->Prop}{b:a->Aq->Prop}(c:CI L d i O ds s)(j:(L.pt O).J t R)(o:∀v h,CI L d i O ds h->BB L.W s.heap h.heap->R v h.heap->b v h):Aw L.W.M L.A t b E s:=
 j s c.F c.gd b E λ v _ _ k l r=>o v _ (c.dq k l) k r
theorem sA {a b c d e:List β}(h:a++b=c++d)(k:d.length<=e.length):a.length+b.length<=c.length+e.length:=by
 rw[<-AQ,h,AQ];exact A9 k _
theorem WE (h:i<n):n+1-(i+1)<n+1-i:=FK (Gu h) (CK i)
def KR.fy (h:KR C V β)(k:List Expr)(o:A5)(b:Bool):Prop:=∀s,FI h.W V h.ah (h.I::h.Z) (h.I::h.X) s.heap o->Gd h.W s->BB h.W h.hb s.heap->
 Dq h.W h.A (forIn k Ag λ t r=>if r=Ag then do let w <-isTrue t h.ah (eval t h.ah);pure (E6 w) else pure (E6 r)) s λ z _=>z=b
theorem CI.lu {a:Type}{t:DJ a}{R:a->AT->Prop}{b:a->Aq->Prop}(c:CI L d i O ds s)(j:Dq L.W L.A t s R)(o:∀v h,CI L d i O ds h->BB L.W s.heap h.heap->R v h.heap->b v h):Aw L.W.M L.A t b E s:=
 j b E λ v _ _ k l r=>o v _ (c.dq k l) k r
variable {t:Expr}{y:As}{ρ':A5} in
inductive Wx {β:Type}(sc:Bg)(target:Expr)(T:A5->Bool->Prop)(ρ:A5)(inner:A5->List β->Prop)(rss:List (List β))(i:Nat)(x:PV):Prop
 |mk (y:List β) (ρ':A5) (ok:Bool) (e:rss[i]? =Ab y) (b:Hl sc target x ρ=Ab ρ') (t:T ρ' ok) (k:if ok=Ag then inner ρ' y else y=[])
theorem KR.loop {R:Ex->Aq->Prop}{l:List Expr}(h:KR C V β){e:Expr}{g:List FR}{j:Ae->E9->DJ Unit}(G:OI e g j){d iter:Expr}{a:Nat}(hg:g[a]? =Ab ⟨d,iter,l,0⟩)
 (N:(FS d).all (λ x=>(O.lookup x).isNone)=Ag) {f:List (List β)} (A:A5->List β->Prop) {T:A5->Bool->Prop} (hT:∀o B,T o B->h.fy l o B)
 (hm:∀(i:Nat)(x:PV),h.xs[i]? =Ab x->Wx V d T O A f i x) (hl:f.length=h.xs.length)
 (I:∀o r,A o r->∀(s0 s:Aq)(i:Nat)(ds:List β)(Q:Ix->Aq->Prop)(E:Jc)(K:DJ Ix),CI h s0 i o ds s->ds.length+r.length<=B2->
  (∀W,CI h s0 i o (ds++r) W->Aw h.W.M h.A K Q E W)->Aw h.W.M h.A (VW e (j (.ref h.D) h.ah) g a (.ref h.D) h.ah K) Q E s)
  (c:CI h s 0 O ds s) (J:ds.length+f.flatten.length<=B2) (hR:∀W,CO h s O (ds++f.flatten) W->R (.ok .next) W):Es h.W.M h.A (.compLoop e a (.ref h.I) (.ref h.D) h.ah) R s:=by
 refine codeAny_loop rfl (λ k W=>∃i,i<=h.xs.length/\k=h.xs.length+1-i/\CI h s i O (ds++(f.take i).flatten) W) (λ k W hI=>ML λ Q' E' M gE=>?_) (h.xs.length+1) ⟨0,AZ _,rfl,by simpa using c⟩;obtain⟨i,hi,rfl,c⟩:=hI;have n:(h.W.M.den (.compLoop e a (.ref h.I) (.ref h.D) h.ah))=((compTurn e a (.ref h.I) (.ref h.D) h.ah).onRaise (λ x=>do U3 x h.ah;theTreesLotGoes x)):=by
  show(if(Code.compLoop e a (.ref h.I) (.ref h.D) h.ah).isFrame=Ag then _ else _)=_;rw[G.loop];rfl
 rw[n,G.fi];refine wpAny_noted ?_;rw[G.cu _ _ _ _ _ _ _ hg];refine Ac (A0 (XE λ K hK=>?_));by_cases w:i<h.xs.length
 ·obtain⟨y,o,B,S,Z,U,D⟩:=hm i h.xs[i] (AA w);refine Cz (An _) (h.it.item i _ _ _ _ c.st (AA w) λ v p m rv H z L=>hK _ _ ?_);have c:=c.step z H L;refine XE λ K hK=>h.it.dn (i+1) _ _ _ d v H (hK _ _ ?_);refine XE λ K hK=>Cz (An _) (NI c.F h.hA.handled Z rv λ a0 Y q t u=>hK _ _ ?_);have c:=c.bj q t u;refine XE λ K hK=>c.lu (hT o B U _ c.F c.gd c.le) λ b a1 c _ e=>hK _ _ ?_;have hf:=Wo Z N;have tk:(ds++(f.take i).flatten)++y=ds++(f.take (i+1)).flatten:=by simp only[R9 S,BY]
  subst e;cases b with
  |false=>
   refine KD (VU (Ar (M _ _ ⟨rfl,h.xs.length+1-(i+1),WE w,i+1,w,rfl,?_⟩)));have D:=D;rw[<-tk,D,EH];exact c.weak hf
  |true=>
   exact KD (PW (I o y D _ _ _ _ _ _ _ c (Aa (sA tk (OO f (i+1))) J) λ W c=>Ar (M _ _ ⟨rfl,h.xs.length+1-(i+1),WE w,i+1,w,rfl,tk▸c.weak hf⟩)))
 ·have:=EK hi (B7.mp w);subst this;refine Cz (An _) (h.it.done _ _ _ c.st λ p m z L=>hK _ _ (Ar (M _ _ (hR _ ?_))));simp only[ER (AB hl)] at c;exact c.out z L
end
set_option genInjectivity false
set_option genSizeOfSpec false
section
theorem Hu (k:BB W h H)(e:H.get? a=Ah):h.get? a=Ah:=by
 exact BB.bh k e
theorem DM (e:h.get? a=Ah)(f:∃o,h.get? b=Ab o):b≠a:=λ q=>by obtain⟨o,f⟩:=f;rw[q,e] at f;cases f
theorem On {a:Bg}(h:Ei V a=Ag):a.kind=.function/\∀x∈a.names,x.2=.local->a.names.lookup x.1=Ab .local:=by
 unfold Ei at h;rw[AG,AG] at h;refine⟨BQ h.1.1,λ x s w=>?_⟩;have k:∀(l:List (As×GA)),(l.map (·.1)).Nodup->x∈l->l.lookup x.1=Ab x.2:=λ l=>by
  induction l with
  |nil=>intro _ h;cases h
  |cons p r z=>
   intro o A;rw[Bl,BA] at o;rcases Ak.mp A with q |q
   ·rw[q];exact AF
   ·exact(AK λ e=>o.1 (AH.mpr ⟨x,q,e⟩)).trans (z o.2 q)
 rw[k _ (of_decide_eq_true h.1.2) s,w]
theorem PC:a∈I::(Y++D::Z)↔a∈Y++D::I::Z:=by
 simp only[Ak,AL];exact⟨λ q=>q.elim (λ q=>.inr (.inr (.inl q))) λ q=>q.elim .inl λ q=>.inr (q.imp id .inr),λ q=>q.elim (λ q=>.inr (.inl q)) λ q=>q.elim (λ q=>.inr (.inr (.inl q))) λ q=>q.imp id λ q=>.inr (.inr q)⟩
end
section
variable {β:Type}
theorem Lo (c:Pt C V O){g:FR}{j:Ae->E9->DJ Unit}(ce:OI e (g::p) j)(a8:g.is_async=0)
 {Acc:BV->Ai->List Ai->AT->List β->Prop} (ak:∀W D,ZK D (Acc W D)) {oN:Eo} (c2:oN.isFreed=Av)
 (a9:∀(M:Dr)(A:Dj)(s:Aq)(Q:Jc)(E:Jc),Q (.ref s.heap.objs.size) {s with heap:=s.heap.push oN}->Aw M A f Q E s) (a4:∀W D X h,h.get? D=Ab oN->Acc W D X h [])
  (B:Ei V d=Ag) (b0:OG C V O g.iter n)
  (run:∀(L:KR C d β),L.Acc=Acc L.W L.D->L.xs=n->(∀F:BV->Dj->AT->Prop,F c.W c.A s.heap->F L.W L.A L.hb)->∀(s:Aq)(R:Ex->Aq->Prop),CI L s 0 (Br d O) [] s->(∀s',CO L s (Br d O) rs s'->R (.ok .next) s')->Es L.W.M L.A (.compLoop e 0 (.ref L.I) (.ref L.D) L.ah) R s)
 (F:FI c.W V c.ah c.Z c.X s.heap O) (G:Gd c.W s) {i:Option (Ae->DJ Unit)}
 (hQ:∀(D b1:Ai)(J:AT)(tk:Nat)(m:As->Option Ae),s.heap.get? D=Ah->s.heap.get? b1=Ah->D≠b1->D∉c.X->BB c.W s.heap J->s.toks<=tk->J.Ns b1 m->Acc c.W D (b1::c.X) J rs->
  JB c.W.M c.A E i Q (.ref D) b1 (.ok .next) {s with heap:=J,toks:=tk}):
 Aw c.W.M c.A (Ml e d c.ah l f Av (eval g.iter c.ah) i) Q E s:=by
 obtain⟨cl,b2,_⟩:=TY (A:=c.A) (E:=E) (Q:=λ _ _=>True) F G.ao B (λ _ _ _ _ _ _ _ _=>trivial);refine wpAny_comprehension_free ce.dc (LK b0.1 c.ah) b2 (On B).1 (On B).2 (b0.2 c s F G _ _ λ x S u w T itb=>?_);refine Hg itb λ I z hI a5 a6 b3=>a9 _ _ _ _ _ ?_;have N:=F.ae w;have H:BB c.W S z:=.af a6;have hD:=Ci z;have Z:=AD z c2;have r:BB c.W z (z.push oN):=.push _ _;have b4:=(N.fresh (G.ao.trans w) H hI a5).fresh ((G.ao.trans w).trans H) r hD ⟨_,Z⟩;have b5:=((G.ao.trans w).trans H).trans r;have k3:=(w.trans H).trans r;generalize c8:z.objs.size=D at*;generalize c3:z.push oN=t at*;have c4:∀(k:E9) J Y,FI c.W d {k with scope:=NS d c.ah} (Y++D::I::c.Z) (Y++D::I::c.X) J (Br d O)->(∀b o,t.get? b=Ab o->J.get? b=Ab o)->(∀a∈Y,t.get? a=Ah)->
  (∀a,Ec d {k with scope:=NS d c.ah} a->a∈Y)->(∀a∈AW {k with scope:=NS d c.ah},a∈Y\/a∈AW c.ah)->
  Es c.W.M c.A (.compStart e 0 (.ref I) (.ref D) {k with scope:=NS d c.ah}) (JB c.W.M c.A E i Q (.ref D) k.locals) {s with heap:=J,toks:=u}:=λ k U Y b6 y hY b7 b8=>by
  have a0:BB c.W t U:=.af y;have b9:I∉c.X:=λ q=>DM hI (N.alive I q).2 rfl;have v:=BL r a5;have c5:=DM hD a5;have nY:∀{a},(∃o,t.get? a=Ab o)->a∉Y:=λ e q=>DM (hY _ q) e rfl;have c6:D∉c.X:=λ q=>DM hD ((N.ae H).alive D q).2 rfl;obtain⟨St,st,a1⟩:=MX.of (A:=c.A) ((((((b3 b9).be hD).ae r).ay (Y:=Y) hY).ae a0).ai λ a ha=>PC.mp ha) Ad c.hA.handled;have a2:∀a∈AW c.ah,∃o,S.get? a=Ab o:=λ a ha=>(N.alive a (N.zx a (N.bb a ha))).2;have c0:=Hu (w.trans H) hD;have a7:=b7 _ (.inl rfl)
  let L:KR C d β:={
   W:=c.W,A:=c.A,ah:={k with scope:=NS d c.ah},hb:=s.heap,Z:=Y++D::c.Z,X:=Y++D::c.X,k:=c.k,mg:=c.mg,mb:=c.mb,I:=I,D:=D,xs:=n,St:=St,Acc:=Acc c.W D
   Gk:=c.Gk,hA:=c.hA,ak:=ak c.W D,ao:=G.ao,dl:=G.dl
   wr:=λ a ha=>Hu k3 (hY a (b7 a ha))
   Df:=λ q=>(b8 _ q).elim (λ q=>nY ⟨_,Z⟩ q) λ q=>DM hD (BL H (a2 D q)) rfl
   D0:=c0
   DZ:=AL.mpr (.inr Ad)
   ZX:=λ a ha=>(AL.mp ha).elim (λ q=>AL.mpr (.inl q)) λ q=>AL.mpr (.inr ((Ak.mp q).elim (λ q=>q▸Ad) λ q=>Af _ (F.zx a q)))
   IX:=λ q=>(AL.mp q).elim (nY v) λ q=>(Ak.mp q).elim c5 b9
   If:=λ q=>(b8 I q).elim (nY v) λ q=>DM hI (a2 I q) rfl
   Ib:=Hu w hI
   it:=a1}
  have a3:Es c.W.M c.A (.compLoop e 0 (.ref I) (.ref D) {k with scope:=NS d c.ah}) (JB c.W.M c.A E i Q (.ref D) k.locals) {s with heap:=U,toks:=u}:=
   run L rfl rfl (λ F h=>h) _ _ ⟨b6.congr (λ a=>PC) (λ a=>PC),st,k3.trans a0,a4 _ _ _ _ (y _ _ Z),.refl,An _,Aa G.toks T,rfl⟩ λ s' o=>by
    obtain⟨m,hn,_⟩:=o.F.ns;rw[o.eq];refine hQ D k.locals _ _ m c0 (Hu k3 (hY _ a7)) (λ q=>nY ⟨_,Z⟩ (q▸a7)) c6 o.le (Aa T o.tk) hn ((ak c.W D).bi o.ck (λ b o e nb _=>⟨e,λ q=>nb ?_⟩) λ _ e=>e);exact(Ak.mp q).elim (λ q=>q▸AL.mpr (.inl a7)) λ q=>AL.mpr (.inr (Af _ q))
  exact Mm ce rfl a8 a3 (a1.self 0 _ _ _ st a3)
 obtain⟨c7,c1,hw⟩:=TY (s:={s with heap:=t,toks:=u})
  b4 b5 B c4
 exact(Sem.pure.inj (c1.symm.trans b2):c7=cl)▸hw
end
set_option genInjectivity false
set_option genSizeOfSpec false
section
variable {β:Type}{L:KR C V β}{ds:List β}
theorem Zl {b:KR C V PV}{e:List PV}(w:b.Acc=ZJ b.W b.D)(c:CI b j i O e s)(L:Dc C V O f d)(N:e.length+1<=B2){g:Unit->Aq->Prop}
 (Q:∀z,CI b j i O (e++[d]) z->g () z):Aw b.W.M b.A (ND f (.ref b.D) b.ah) g E s:=
 Ac (c.go (L (b.pt O)) λ v s c _ W=>by
  have a:=c.ck;rw[w] at a;obtain⟨l,n,Z,A⟩:=a;refine Ac (Kq Z (Aa (AB A.length) (CQ N)) λ H o h k=>Ar (Q _ (c.own k ⟨_,h⟩ (An _) ?_)));rw[w];have:=(A.append (RpL.bq W)).az k (Af _ (b.ZX _ b.DZ));exact⟨_,o,h,by simpa using this⟩)
theorem Zm {b:KR C V (As×PV)}{e:List (As×PV)}(z:b.Acc=WA b.W b.D)(c:CI b l i O e s)(Q:Dc C V O f (.str x))(W:Dc C V O g d)(Z:e.length+1<=B2){j:Unit->Aq->Prop}
 (m:∀A,CI b l i O (e++[(x,d)]) A->j () A):Aw b.W.M b.A (Ln f g (.ref b.D) b.ah) j E s:=
 Ac (c.go (Q (b.pt O)) λ v s c _ n=>Ac (Bt (c.go (W (b.pt O)) λ w s c hk p=>by
  obtain⟨t,rfl,_⟩:=n.aj;have a:=c.ck;rw[z] at a;obtain⟨q,r,h,u⟩:=a;have k:=MO e;have y:=FW;refine Ac (A0 (Bt (wpAny_dictSet_pairs (knd:=b.W.K) (k:=x) (by simp[BV.K,KI,Value.isStrOf]) r (λ H L N=>m _ (c.own N (by obtain⟨o,_,_,B,_⟩:=L;exact⟨o,B⟩) (Bq _) ?_)) (Aa (AB (by simpa using congrArg BR h)) (Aa k (Aa (CQ Z) y))))));have h:=LC (k:=x) h u p;rw[z];exact⟨_,L,by rw[Kl];exact h.1,by rw[Kl];exact h.2.az N (Af _ (b.ZX _ b.DZ))⟩)))
def iY (Acc:BV->Ai->List Ai->AT->List β->Prop)(A:GK)(C:Bg)(h:Ae->E9->DJ Unit)(o:A5)(d:β):Prop:=
 ∀(L:KR A C β),L.Acc=Acc L.W L.D->∀w i k s,CI L w i o k s->k.length+1<=B2->∀(Q:Unit->Aq->Prop)(E:Jc),(∀z,CI L w i o (k++[d]) z->Q () z)->Aw L.W.M L.A (h (.ref L.D) L.ah) Q E s
theorem iY.list (h:Dc C V O a d):iY ZJ C V (ND a) O d:=λ L o _ _ _ _ c s _ _ k=>Zl o c h s k
theorem iY.dict (h:Dc C V O a (.str x))(o:Dc C V O b d):iY WA C V (Ln a b) O (x,d):=λ L s _ _ _ _ c w _ _ k=>Zm s c h o w k
variable {Acc:BV->Ai->List Ai->AT->List β->Prop}
def KR.Em (h:KR C V β)(k:Ae->E9->DJ Unit)(w:A5)(d:β):Prop:=
 ∀z i o s,CI h z i w o s->o.length+1<=B2->∀(Q:Unit->Aq->Prop)(E:Jc),(∀A,CI h z i w (o++[d]) A->Q () A)->Aw h.W.M h.A (k (.ref h.D) h.ah) Q E s
def qD (w:Bg)(T:A5->Bool->Prop)(P:A5->β->Prop)(t:Expr)(o:A5)(s:List PV)(z:List β):Prop:=
 (FS t).all (λ x=>(o.lookup x).isNone)=Ag/\∃h:List (List β),h.length=s.length/\z=h.flatten/\
  ∀(i:Nat)(x:PV),s[i]? =Ab x->Wx w t T o (λ k y=>∃d,P k d/\y=[d]) h i x
theorem KR.dz {R:Ex->Aq->Prop}{f:Ae->E9->DJ Unit}(o:KR C V β)(H:OI e b f)(L:b[a]? =Ab ⟨t,l,g,0⟩)(N:b[a+1]? =Ah){j:List β}
 {T:A5->Bool->Prop} {P:A5->β->Prop} (W:∀h A,T h A->o.fy g h A) (hP:∀h d,P h d->o.Em f h d) (Z:qD V T P t O o.xs j) (c:CI o s 0 O ds s) (z:ds.length+j.length<=B2) (m:∀w,CO o s O (ds++j) w->R (.ok .next) w):Es o.W.M o.A (.compLoop e a (.ref o.I) (.ref o.D) o.ah) R s:=by
 obtain⟨n,p,q,rfl,u⟩:=Z;refine o.loop H L n (λ h y=>∃d,P h d/\y=[d]) W u q (λ h r v x s i ds Q E K c z k=>?_) c z m;obtain⟨d,B,rfl⟩:=v;unfold VW;rw[N];exact Ac (hP h d B x i ds s c z _ _ λ w c=>k w c)
theorem KR.ko (k:KR C V β)(h:A5)(o:Bool)(t:NL C V h a o):k.fy a h o:=λ s F G _=>t (k.pt h) s F G
theorem KR.ew {R:Ex->Aq->Prop}{d:Ae->E9->DJ Unit}(h:KR C V β)(z:h.Acc=Acc h.W h.D)(A:OI e b d)(E:b[a]? =Ab ⟨t,i,f,0⟩)(H:b[a+1]? =Ah){g:List β}
 (k:qD V (λ o L=>NL C V o f L) (iY Acc C V d) t O h.xs g) (c:CI h s 0 O ds s) (N:ds.length+g.length<=B2) (Q:∀w,CO h s O (ds++g) w->R (.ok .next) w):Es h.W.M h.A (.compLoop e a (.ref h.I) (.ref h.D) h.ah) R s:=
 h.dz A E H h.ko (λ _ _ k=>k h z) k c N Q
variable {xs:List PV}{it:Expr} in
def KR.sub (h:KR C V β){J:Ai}{b:List PV}{St:Nat->AT->Prop}(k:J∉h.I::h.X)(o:J∉AW h.ah)(s:h.hb.get? J=Ah)(w:MX h.W h.A (J::h.I::h.X) J b St):KR C V β:=
 {h with Z:=h.I::h.Z,X:=h.I::h.X,I:=J,xs:=b,St:=St,DZ:=Af _ h.DZ,ZX:=λ a z=>(Ak.mp z).elim (λ q=>q▸Ad) λ q=>Af _ (h.ZX a q),IX:=k,If:=o,Ib:=s,it:=w}
def D? (s:GK)(o:Bg)(P:A5->β->Prop)(t1 w L:Expr)(z:List Expr)(C:A5)(E:List PV)(N:List β):Prop:=
 (FS t1).all (λ x=>(C.lookup x).isNone)=Ag/\∃k:List (List β),k.length=E.length/\N=k.flatten/\
  ∀(i:Nat)(x:PV),E[i]? =Ab x->Wx o t1 (λ h A=>NL s o h [] A) C (λ h y=>∃H,OG s o h w H/\qD o (λ h A=>NL s o h z A) P L h H y) k i x
theorem KR.lc {R:Ex->Aq->Prop}{a:Ae->E9->DJ Unit}(h:KR C V β)(hL:h.Acc=Acc h.W h.D)(B:OI e [⟨t1,j,[],0⟩,⟨l,f,g,0⟩] a){m:List β}
 (a0:D? C V (iY Acc C V a) t1 f l g O h.xs m) (c:CI h s 0 O ds s) (D:ds.length+m.length<=B2) (hR:∀L,CO h s O (ds++m) L->R (.ok .next) L):Es h.W.M h.A (.compLoop e 0 (.ref h.I) (.ref h.D) h.ah) R s:=by
 obtain⟨hf,a1,hl,rfl,hm⟩:=a0;refine h.loop B rfl hf (λ A y=>∃G,OG C V A f G/\qD V (λ A ok=>NL C V A g ok) (iY Acc C V a) l A G y) h.ko hm hl (λ A r hr s0 s i ds Q E K c D k=>?_) c D hR;obtain⟨G,p,hg⟩:=hr;refine Ac (c.go (p.2 (h.pt A)) λ v w c U itb=>Ac (A0 (KD (VU (Ac (EI (LK p.1 h.ah v) (Ac (Bt ?_))))))));refine Hg itb λ J z t I H u=>Ac (NO ?_);have n:J∉h.I::h.X:=λ q=>DM t (c.F.alive J q).2 rfl;obtain⟨St,st,N⟩:=MX.of (u n) Ad h.hA.handled;have W:BB h.W w.heap z:=.af H;have Y:=c.dq W (An _)
 let M:=h.sub n (λ q=>n (c.F.zx _ (c.F.bb _ q))) (Hu c.le t) N
 have cM:CI M {w with heap:=z} 0 A ds {w with heap:=z}:=⟨c.F.fresh c.gd.ao W t I,st,Y.le,h.ak.bi c.ck (λ b o e S d=>⟨H _ _ e,λ q=>(Ak.mp q).elim (λ q=>DM t ⟨o,e⟩ q) S⟩) λ _ e=>H _ _ e,.refl,An _,Y.t1,rfl⟩;have x:∀{R':Ex->Aq->Prop},(∀L,CO M {w with heap:=z} A (ds++r) L->R' (.ok .next) L)->Es h.W.M h.A (.compLoop e 1 (.ref J) (.ref h.D) h.ah) R' {w with heap:=z}:=λ T=>
  M.ew hL B rfl rfl hg cM D T
 have Z:∀L,CO M {w with heap:=z} A (ds++r) L->Aw h.W.M h.A K Q E L:=λ L o=>by
  rw[o.eq];refine k _ (c.ec o.F o.le o.tk o.ck λ b ob S e h1 h2=>o.kb b ob (λ q=>q.elim (λ q=>DM t ⟨ob,e⟩ q) S) (H _ _ e) h1 h2)
 rw[Oa];exact Mm B rfl rfl (x Z) (N.self 0 _ _ _ st (x Z))
end
section
variable {β:Type}{P:A5->β->Prop}
theorem qD.of {b:Type}{l:List b}{g:b->PV}{T:A5->Bool->Prop}{q:b->Bool}{f:b->β}(z:(FS t).all (λ x=>(O.lookup x).isNone)=Ag)
 (o:∀a∈l,∃h,Hl V t (g a) O=Ab h/\T h (q a)/\(q a=Ag->P h (f a))):qD V T P t O (l.map g) ((l.filter q).map f):=by
 refine⟨z,l.map λ a=>if q a=Ag then[f a] else[],by rw[Al,Al],?_,λ i x s=>?_⟩
 ·clear o;induction l with
  |nil=>rfl
  |cons a r A=>
   simp only[Bl,List.flatten_cons,FN,<-A];cases q a<;>rfl
 ·rw[Bo] at s;obtain⟨a,w,rfl⟩:=Bp.mp s;obtain⟨h,C,E,H⟩:=o a (Cq w);refine⟨_,h,q a,by rw[Bo,w];rfl,C,E,?_⟩;cases k:q a with
  |false=>simp only[k];rfl
  |true=>exact⟨_,H k,if_pos k⟩
theorem D?.of {c e:Type}{l:List c}{g:c->PV}{g2:e->PV}{j:c->List e}{q:c->e->Bool}{f:c->e->β}(z:(FS t1).all (λ x=>(O.lookup x).isNone)=Ag)
 (A:∀a∈l,∃h,Hl V t1 (g a) O=Ab h/\OG C V h d ((j a).map g2)/\(FS m).all (λ x=>(h.lookup x).isNone)=Ag/\∀b∈j a,∃k,Hl V m (g2 b) h=Ab k/\NL C V k n (q a b)/\(q a b=Ag->P k (f a b))):
 D? C V P t1 d m n O (l.map g) (l.flatMap λ a=>((j a).filter (q a)).map (f a)):=by
 refine⟨z,l.map λ a=>((j a).filter (q a)).map (f a),by rw[Al,Al],List.flatMap_def ..,λ i x s=>?_⟩;rw[Bo] at s;obtain⟨a,w,rfl⟩:=Bp.mp s;obtain⟨o,E,H,N,Q⟩:=A a (Cq w);exact⟨_,o,Ag,by rw[Bo,w];rfl,E,.nil,_,H,.of N Q⟩
inductive EE (C:GK)(sc:Bg)(ρ:A5)(e:Expr)(d:PV):Prop
 |mk (sem:E9->Option (Ae->DJ Unit)->DJ Ae) (h1:∀ah,eval e ah=sem ah Ah) (h2:∀ah u,evalThenUse e ah u=do let _ <-sem ah (Ab u)) (h3:∀line ah x q,∃b,Dk [.Name x q] e line ah=pure b)
  (h4:∀(c:Pt C sc ρ)(s:Aq),FI c.W sc c.ah c.Z c.X s.heap ρ->Gd c.W s->∀(use:Option (Ae->DJ Unit))(Q:Jc)(E:Jc),
   (∀(D V:Ai)(h':AT)(tk:Nat)(m:As->Option Ae),s.heap.get? D=Ah->s.heap.get? V=Ah->BB c.W s.heap h'->s.toks<=tk->h'.Ns V m->Rp c.W (V::c.X) h' (.ref D) d->JB c.W.M c.A E use Q (.ref D) V (.ok .next) {s with heap:=h',toks:=tk})->
   Aw c.W.M c.A (sem c.ah use) Q E s)
theorem EE.ev (h:EE C V O e d):Dc C V O e d:=λ c s F G Q E o=>by
 obtain⟨w,z,_,_,h⟩:=h;rw[z];exact h c s F G Ah Q E λ D N W Z m _ A k l H r=>Rm A k l H r o
end
section
theorem Ua {i:List PV}(u:Ei V a=Ag)(w:OG C V O f j)(v:i.length<=B2)
 (run:∀(L:KR C a PV),L.Acc=ZJ L.W L.D->L.xs=j->∀(s:Aq)(R:Ex->Aq->Prop),CI L s 0 (Br a O) [] s->(∀Z,CO L s (Br a O) i Z->R (.ok .next) Z)->Es L.W.M L.A (.compLoop (.ListComp b (⟨t,f,d,0⟩::g) a p) 0 (.ref L.I) (.ref L.D) L.ah) R s):
 EE C V O (.ListComp b (⟨t,f,d,0⟩::g) a p) (.list i):=
 ⟨λ k o=>Ml (.ListComp b (⟨t,f,d,0⟩::g) a p) a k (pV (⟨t,f,d,0⟩::g) p) (newList []) Av (eval f k) o,λ _=>rfl,λ _ _=>rfl,λ _ _ _ _=>⟨_,rfl⟩,λ c s F G o Q E y=>
  Lo c (GV b _ a p) rfl (Acc:=ZJ) (λ W D=>wU D) rfl (λ M A s Q E B=>B3 B) (λ W D X h e=>⟨#[],0,e,.nil⟩) u w (λ L I J _=>run L I J) F G λ D S T U m Y hV z H N l hn x=>by
   obtain⟨vs,n,e,r⟩:=x;exact y D S T U m Y hV N l hn (.list e (λ q=>(Ak.mp q).elim z H) (Aa (AB r.length) v) r)⟩
theorem SD (h:E2 W C k mg mb)(G:Gd W s)(w:s.heap.get? a=Ah):(a==NR)=Av:=by
 cases q:a==NR with
 |false=>rfl
 |true=>obtain⟨o,z⟩:=BL G.ao h.l8;simp only[<-BQ q,w] at z;contradiction
theorem gM {j:List (As×PV)}(v:Ei V a=Ag)(w:OG C V O d n)(y:j.length<=B2)
 (run:∀(L:KR C a (As×PV)),L.Acc=WA L.W L.D->L.xs=n->∀(s:Aq)(R:Ex->Aq->Prop),CI L s 0 (Br a O) [] s->(∀Z,CO L s (Br a O) j Z->R (.ok .next) Z)->Es L.W.M L.A (.compLoop (.DictComp f g (⟨t,d,b,0⟩::i) a p) 0 (.ref L.I) (.ref L.D) L.ah) R s):
 EE C V O (.DictComp f g (⟨t,d,b,0⟩::i) a p) (.dict (Zn j)):=
 ⟨λ k o=>Ml (.DictComp f g (⟨t,d,b,0⟩::i) a p) a k (pV (⟨t,d,b,0⟩::i) p) newDict Av (eval d k) o,λ _=>rfl,λ _ _=>rfl,λ _ _ _ _=>⟨_,rfl⟩,λ c s F G o Q E B=>
  Lo c (Km f g _ a p) rfl (Acc:=WA) (λ W D=>tQ D) rfl (λ M A s Q E I=>B3 I) (λ W D X h e=>⟨[],⟨_,#[],0,e,⟨rfl,rfl,rfl⟩,rfl,λ _ J=>by simp at J,Pairs.nil,List.nodup_nil⟩,rfl,.nil⟩) v w (λ L S T _=>run L S T) F G λ D U Y tk m u hV z H N l hn x=>by
   obtain⟨a0,e,q,r⟩:=x;exact B D U Y tk m u hV N l hn (.dict e (λ q=>(Ak.mp q).elim z H) (SD c.Gk G u) (Aa (AB (by simpa using congrArg BR q)) (Aa (MO j) y)) q r)⟩
theorem EE.T {i:Type}{l:List i}{g:i->PV}(q:i->Bool)(f:i->PV)(o:OG C V O n (l.map g))(w:Ei V d=Ag)(z:(FS t).all (λ x=>((Br d O).lookup x).isNone)=Ag)
 (A:∀a∈l,∃h,Hl d t (g a) (Br d O)=Ab h/\NL C d h j (q a)/\(q a=Ag->Dc C d h m (f a))) (E:l.length<=B2):EE C V O (.ListComp m [⟨t,n,j,0⟩] d p) (.list ((l.filter q).map f)):=
 have k:=Al f▸Aa (AX q l) E
 Ua w o k λ L H N s R c Q=>L.ew H (GV ..) rfl rfl (N▸.of z λ a W=>by obtain⟨h,a,b,e⟩:=A a W;exact⟨h,a,b,λ q=>.list (e q)⟩) c (Aa (AB (Ct _)) k) Q
theorem EE.M {c:Type}{l:List c}{g:c->PV}(f:c->PV)(k:OG C V O e (l.map g))(o:Ei V b=Ag)(s:(FS t).all (λ x=>((Br b O).lookup x).isNone)=Ag)
 (w:∀a∈l,∃h,Hl b t (g a) (Br b O)=Ab h/\Dc C b h d (f a)) (z:l.length<=B2):EE C V O (.ListComp d [⟨t,e,[],0⟩] b p) (.list (l.map f)):=by
 have:=EE.T (p:=p) (λ _=>Ag) f k o s (λ a A=>by obtain⟨h,E,H⟩:=w a A;exact⟨h,E,.nil,λ _=>H⟩) z;rwa[Jm.mpr λ _ _=>rfl] at this
theorem EE.D {f:Type}{l:List f}{g:f->PV}(o:f->As)(w:f->PV)(z:OG C V O m (l.map g))(A:Ei V d=Ag)(E:(FS t).all (λ x=>((Br d O).lookup x).isNone)=Ag)
 (H:∀a∈l,∃h,Hl d t (g a) (Br d O)=Ab h/\Dc C d h i (.str (o a))/\Dc C d h j (w a)) (N:l.length<=B2):EE C V O (.DictComp i j [⟨t,m,[],0⟩] d p) (.dict (Zn (l.map λ a=>(o a,w a)))):=
 have k:=Al (λ a=>(o a,w a))▸N
 gM A z k λ L Q W s R c Z=>L.ew Q (Km ..) rfl rfl (W▸by
  have:=qD.of (T:=λ h n=>NL C d h [] n) (P:=iY WA C d (Ln i j)) E λ a q=>by obtain⟨h,a,b,e⟩:=H a q;exact⟨h,a,.nil,λ _=>.dict b e⟩
  rwa[Jm.mpr λ _ _=>rfl] at this) c (Aa (AB (Ct _)) k) Z
theorem EE.T2 {j r:Type}{l:List j}{g:j->PV}{g2:r->PV}(o:j->List r)(q:j->r->Bool)(f:j->r->PV)(w:OG C V O m (l.map g))(A:Ei V i=Ag)(E:(FS t1).all (λ x=>((Br i O).lookup x).isNone)=Ag)
 (H:∀a∈l,∃h,Hl i t1 (g a) (Br i O)=Ab h/\OG C i h n ((o a).map g2)/\(FS t).all (λ x=>(h.lookup x).isNone)=Ag/\∀b∈o a,∃k,Hl i t (g2 b) h=Ab k/\NL C i k u (q a b)/\(q a b=Ag->Dc C i k v (f a b)))
 (z:(l.flatMap λ a=>((o a).filter (q a)).map (f a)).length<=B2):EE C V O (.ListComp v [⟨t1,m,[],0⟩,⟨t,n,u,0⟩] i p) (.list (l.flatMap λ a=>((o a).filter (q a)).map (f a))):=
 Ua A w z λ L N Q s R c W=>L.lc N (GV ..) (Q▸.of E λ a Z=>by obtain⟨h,a,b,d,e⟩:=H a Z;exact⟨h,a,b,d,λ y B=>by obtain⟨k,a,b,e⟩:=e y B;exact⟨k,a,b,λ q=>.list (e q)⟩⟩) c (Aa (AB (Ct _)) z) W
end
structure F5 (W:BV)(A:Dj)(sc:Bg)(ah:E9)(hb:AT)(t:DJ FG)(ρ:A5)(fl:Fl):Prop where
 go:∀(Z X:List Ai)(s:Aq)(Q:FG->Aq->Prop)(E:Jc),XS W sc ah hb Z X s ρ->KA W sc ah hb Z X s fl Q->Aw W.M A t Q E s
section
variable {S:Nat}{q:CE} in
structure ST (W:BV)(sc:Bg)(ah:E9)(hb:AT)(Z X:List Ai)(ρ:A5)(fl:Fl)(Q:FG->Aq->Prop)(s:Aq):Prop where
 S:XS W sc ah hb Z X s ρ
 q:KA W sc ah hb Z X s fl Q
theorem F5.mk' (h:∀Z X Q E s,ST W V z N Z X O a Q s->Aw W.M A t Q E s):F5 W A V z N t O a:=⟨λ Z X s Q E S q=>h Z X Q E s ⟨S,q⟩⟩
theorem F5.run (h:F5 W A V z N t O b){a:FG->Aq->Prop}(T:ST W V z N Z X O b a s):Aw W.M A t a E s:=h.go _ _ _ _ _ T.S T.q
variable {Q:FG->Aq->Prop}
theorem ST.aq (T:ST W V z N Z X O a Q s)(k:BB W s.heap h)(l:s.toks<=b):ST W V z N Z X O a Q {s with heap:=h,toks:=b}:=⟨T.S.ae k l,T.q.aq k.ap l⟩
theorem ST.next (T:ST W V z N Z X O (.next O) Q s):Q .next s:=T.q s.heap s.toks T.S .refl (An _)
theorem ST.kt {α:Type}{t:DJ α}{R:Pt C V O->α->AT->Prop}(T:ST W V z N Z X O b Q s)(w:E2 W C k mg mb)(H:CY k A)(B:XB W V z N)(j:∀c:Pt C V O,c.ah=z->c.W=W->c.A=A->c.J (α:=α) t (R c)){a:α->Aq->Prop}
 (k:∀v o,ST W V z N Z X O b Q o->BB W s.heap o.heap->R ⟨W,A,z,Z,X,k,mg,mb,w,H⟩ v o.heap->a v o):Aw W.M A t a E s:=
 j ⟨W,A,z,Z,X,_,mg,mb,w,H⟩ rfl rfl rfl s T.S.F (T.S.gd B) a E λ v h e d l r=>k v _ (T.aq d l) d r
end
section
variable {Q:FG->Aq->Prop}
theorem ST.ev (H:E2 W C k mg mb)(c:CY k A)(B:XB W V z N)(T:ST W V z N Z X O b Q s)(o:Dc C V O e d)(k:∀v h,ST W V z N Z X O b Q h->BB W s.heap h.heap->Rp W X h.heap v d->a v h):Aw W.M A (eval e z) a E s:=
 o ⟨W,A,z,Z,X,_,mg,mb,H,c⟩ s T.S.F (T.S.gd B) a E λ v o f w l r=>k v _ (T.aq w l) w r
theorem ST.ts (w:E2 W C k mg mb)(H:CY k A)(B:XB W V z N)(T:ST W V z N Z X O c Q s)(h:KY C V O e b){a:Bool->Aq->Prop}(j:∀o,ST W V z N Z X O c Q o->a b o):Aw W.M A (isTrue e z (eval e z)) a E s:=
 h ⟨W,A,z,Z,X,_,mg,mb,w,H⟩ s T.S.F (T.S.gd B) a E λ v h f d l r=>r▸j _ (T.aq d l)
theorem Pq {c:CE}(g:E2 W C k mg mb)(f:CY k A)(B:XB W V z N)(i:Dc C V O v d)(H:GH V t d O=Ab b)(j:Xc t=Ag)(hw:Dk [t] v c.line z=pure Av)(e:swappedStores [t] v z=pure Ah):F5 W A V z N (exec (.Assign [t] v c) z) O (.next b):=.mk' λ Z X Q E s T=>
 CA j hw e (T.ev g f B i λ v s T k r=>GY f.handled B T.S H r λ o h w St l=>T.q o h w (St.ap λ a m=>T.S.F.br m) l)
theorem By (h:E2 W C k mg mb)(o:CY k A)(B:XB W V z N)(s:Dc C V O v d)(w:A3 V x=Ag)(hw:Dk [.Name x q] v pos.line z=pure Av):F5 W A V z N (exec (.Assign [.Name x q] v pos) z) O (.next (Bu O x (.aa d))):=
 Pq h o B s (if_pos w) rfl hw rfl
theorem DU (H:E2 W C k mg mb)(o:CY k A)(B:XB W V z N)(h:EE C V O v d)(c:A3 V x=Ag):F5 W A V z N (exec (.Assign [.Name x q] v a) z) O (.next (Bu O x (.aa d))):=by
 have e:=h;obtain⟨f,u,g,i,j⟩:=e;obtain⟨b,hw⟩:=i a.line z x q;cases b with
 |false=>exact By H o B h.ev c hw
 |true=>
  refine .mk' λ Z X Q E s T=>?_;rw[arm_exec_Assign];refine Ac (A0 (Ac (EI hw (KD (PW (Ac ?_))))));rw[g];exact Ac (DK (j ⟨W,A,z,Z,X,_,mg,mb,H,o⟩ s T.S.F (T.S.gd B) _ (λ _ n=>Q .next n) E λ D y G I m _ p w l t r=>Ts (t:=.Name x q) B T.S o.handled (if_pos c) T.q p w l t r) (λ _ _ h=>Ar (Ar h)) λ _ _ x=>x)
theorem GB (h:E2 W C k mg mb)(o:CY k A)(B:XB W V z N)(w:KY C V O t c)(H:F5 W A V z N (execs (if c then b else a) z) O d):F5 W A V z N (exec (.If t b a e) z) O d:=.mk' λ Z X Q E s T=>
 KT (T.ts h o B w λ s T=>by cases c<;>exact H.run T)
theorem He (f:E2 W C k mg mb)(g:CY k A)(B:XB W V z N)(i:jA C V O e d):F5 W A V z N (exec (.Return (Ab e) b) z) O (.ret d):=.mk' λ Z X Q E s T=>
 EP (T.kt f g B (λ c h _ _=>h▸i c) λ v s T k r=>T.q v s.heap s.toks T.S.le (An _) (by
  rcases r with r |⟨a,rfl,H,r⟩
  ·exact r.ai T.S.F.zx
  ·cases d with
   |list l=>obtain⟨m,n,h,o,w⟩:=r;exact .list h H o (w.ai T.S.F.zx)
   |dict p=>obtain⟨j,h,y,o,q,w⟩:=r;exact .dict h H y o q (w.ai T.S.F.zx)
   |_=>exact r.elim))
end
section
variable {Q:FG->Aq->Prop}
def o3 (a b:A5):Prop:=∀x h,a.lookup x=Ab h->b.lookup x=Ab h
theorem F5.pre (h:F5 W A V z N t O b)(k:o3 O a):F5 W A V z N t a b:=.mk λ Z X s Q E S o=>h.go Z X s Q E (S.aw k) o
theorem F5.post (h:F5 W A V z N t O (.next a))(o:o3 b a):F5 W A V z N t O (.next b):=.mk λ Z X s Q E S w=>h.go Z X s Q E S λ C H c k l=>w C H (c.aw o) k l
theorem F5.du (h:F5 W A V z N t O (.brk a))(o:o3 b a):F5 W A V z N t O (.brk b):=.mk λ Z X s Q E S w=>h.go Z X s Q E S λ C H c k l=>w C H (c.aw o) k l
theorem EN:o3 (Ek a O) O:=λ x h=>SN a x h O
theorem F5.keep (h:F5 W A V z N t O (.next b))(e:Ek c b=a):F5 W A V z N t O (.next a):=e▸h.post EN
theorem F5.fq (h:F5 W A V z N t O (.brk b))(e:Ek c b=a):F5 W A V z N t O (.brk a):=e▸h.du EN
theorem FT:F5 W A V z N (execs [] z) O (.next O):=.mk' λ Z X Q E s T=>BN T.next
theorem Fk {r:List Bs}{st:Bs}{a:A5}{b:Fl}(C:F5 W A V z N (exec st z) O (.next a))(H:F5 W A V z N (execs r z) a b):F5 W A V z N (execs (st::r) z) O b:=.mk λ Z X s Q E S c=>
 Ay (C.go Z X s _ _ S λ k h o d w=>H.go Z X {s with heap:=k,toks:=h} _ _ o (c.aq d w))
theorem LD {r:List Bs}{st:Bs}{a:A5}(h:F5 W A V z N (exec st z) O (.brk a)):F5 W A V z N (execs (st::r) z) O (.brk a):=.mk λ Z X s Q E S k=>Ay (h.go Z X s _ _ S k)
theorem jT {r:List Bs}{st:Bs}{d:PV}(h:F5 W A V z N (exec st z) O (.ret d)):F5 W A V z N (execs (st::r) z) O (.ret d):=.mk λ Z X s Q E S k=>Ay (h.go Z X s _ _ S k)
theorem D4 {st:Bs}{a:Fl}(h:F5 W A V z N (exec st z) O a):F5 W A V z N (execs [st] z) O a:=by
 cases a with
 |next k=>exact Fk h FT
 |brk k=>exact LD h
 |ret d=>exact jT h
theorem Na:F5 W A V z N (exec (.Break q) z) O (.brk O):=.mk' λ Z X Q E s T=>by exact Ac (A0 (Ar (T.q s.heap s.toks T.S .refl (An _))))
class inductive tU (W:BV) (A:Dj) (C:GK) (sc:Bg) (ah:E9) (hb:AT) (t:Expr) (b o:List Bs):Nat->A5->Fl->Prop
 |stop {n0 ρ0 fl0}:KY C sc ρ0 t Av->F5 W A sc ah hb (execs o ah) ρ0 fl0->tU W A C sc ah hb t b o (n0+1) ρ0 fl0
 |next {n0 ρ0 ρ20 fl0}:KY C sc ρ0 t Ag->F5 W A sc ah hb (execs b ah) ρ0 (.next ρ20)->tU W A C sc ah hb t b o n0 ρ20 fl0->tU W A C sc ah hb t b o (n0+1) ρ0 fl0
 |brk {n0 ρ0 ρb}:KY C sc ρ0 t Ag->F5 W A sc ah hb (execs b ah) ρ0 (.brk ρb)->tU W A C sc ah hb t b o (n0+1) ρ0 (.next ρb)
theorem aO (l:E2 W C k mg mb)(m:CY k A)(B:XB W V z N)(r:tU W A C V z N t b a n O c):F5 W A V z N (exec (.While t b a d) z) O c:=.mk' λ Z X Q E s T=>by
 refine wpAny_While (codeAny_whileLoop (λ n q=>∃g,tU W A C V z N t b a n g c/\ST W V z N Z X g c Q q) (λ n q u=>ML λ y D p gE=>?_) n ⟨O,r,T⟩);obtain⟨g,e,T⟩:=u;cases e with
 |stop j v=>exact T.ts l m B j λ s T=>p _ _ (VU (v.run T))
 |next j i x=>exact T.ts l m B j λ s T=>p _ _ (PW (i.go Z X s _ _ T.S λ f o w h H=>⟨_,CK _,_,x,w,T.q.aq h H⟩))
 |brk j i=>exact T.ts l m B j λ s T=>p _ _ (PW (i.go Z X s _ _ T.S λ f o w h H=>T.q f o w h H))
end
section
def iU (z:GK)(k:Bg)(o:A5)(e:Expr)(d:PV):Prop:=∀(c:Pt z k o)(s:Aq),FI c.W k c.ah c.Z c.X s.heap o->Gd c.W s->∀(Q:Jc)(E:Jc),
 (∀a h w,s.heap.get? a=Ah->BB c.W s.heap h->s.toks<=w->BX c.W (a::c.X) h a d->Q (.ref a) {s with heap:=h,toks:=w})->Aw c.W.M c.A (eval e c.ah) Q E s
theorem iU.list {b:List PV}(z:U0 C V O a b)(N:b.length<=B2):iU C V O (.List a p) (.list b):=λ c s F G Q E W=>by
 rw[Mr,Bk p c.ah a z.1];refine Ac (A0 (Ac (z.2 c s F G _ _ λ vs h w k o A=>?_)));have H:=(List.size_toArray ..).symm▸A.length▸N;exact B3 (W _ _ _ (Hu k (Ci h)) (k.trans (.push _ _)) o ⟨_,_,AD _ rfl,H,(A.be (Ci h)).ae (.push _ _)⟩) (Aa H FW)
theorem iU.dict:iU C V O (.Dict [] [] p) (.dict []):=λ c s F G Q E h=>
 wpAny_Dict_empty (h _ _ _ (Ci s.heap) (.push _ _) (An _) ⟨[],⟨_,#[],0,AD _ rfl,⟨rfl,rfl,rfl⟩,rfl,λ _ k=>by simp at k,Pairs.nil,List.nodup_nil⟩,SD c.Gk G (Ci s.heap),AZ _,rfl,.nil⟩)
theorem iU.am (m:Dc C V O l (.list e))(n:Dc C V O r b)(q:GI a (.list e) b=Ab d):iU C V O (.BinOp l a r p) d:=λ c s F G Q E t=>
 LX (m c s F G _ _ λ v H z h o u=>n c {s with heap:=H,toks:=z} (F.ae h) (G.step h o) _ _ λ w N i k W rw=>
  Qu ⟨e,rfl⟩ (u.ae k) rw q _ _ λ v3 Z A f g j=>j.1▸t _ Z A (Hu (h.trans k) (Ci N)) ((h.trans k).trans f) (Aa o (Aa W g)) j.2)
end
section
variable {Q:FG->Aq->Prop}
theorem ST.own (T:ST W V z N Z X O b Q s)(k:O.lookup x=Ab (.own d)):∃a,Fz V z s.heap x (.ref a)/\a∈X/\a∉Z/\BX W X s.heap a d:=by
 obtain⟨v,h,a,rfl,o,w,r⟩:=T.S.F.at k;exact⟨a,h,o,w,r⟩
theorem ST.cu (T:ST W V z N Z X O (.next (Bu O x (.own b))) Q s)(A:O.lookup x=Ab (.own d))(h:Fz V z s.heap x (.ref a))(k:a∈X)(o:a∉Z)(r:BX W X s.heap a d)(w:BM a s.heap H)(C:BX W X H a b)(l:s.toks<=c):
 Q .next {s with heap:=H,toks:=c}:=T.q H c (T.S.cu A h w k o (Jr r) C l) (.eo w k o) l
theorem Mi:Value.type "list"≠Value.type "frame":=by decide
theorem JH {b:List PV}{a:Array Ae}(r:RpL W X h a.toList b):a.size=b.length:=r.length
theorem N0 (q:E2 W C k mg mb)(t:CY k A)(B:XB W V z N){c:CE}{b:CE}{xs:List PV}(hk:(Cm a&&(b.endLine==c.line))=Ag)(g:O.lookup x=Ab (.own (.list xs)))(u:Dc C V O a d)(y:xs.length<B2):
 F5 W A V z N (exec (.Expr (.Call (.Attribute (.Name x f) "append" b) [a] [] c) e) z) O (.next (Bu O x (.own (.list (xs++[d]))))):=.mk' λ Z X Q E s T=>by
 have i:=AC.mp hk;have o:[a].all Cm=Ag:=by rw[Dv,i.1];rfl
 obtain⟨D,w,j,G,r⟩:=T.own g;obtain⟨I,n,l,J,m⟩:=id r;refine wpAny_Expr (wpAny_Call_append rfl (Nz [a] c o (show 1<20 by decide)) i.2 (Bk c z [a] o) (FI.bv T.S.F g w ⟨D,I,rfl,⟨_,n,l,rfl,rfl,rfl⟩,T.ev q t B u λ v s T k L=>?_⟩)) (by simp only[interactive];rw[T.S.F.kind];rfl) rfl;refine Kq (k.keep l Mi nofun) J λ p H h o=>T.cu g (w.ae k) j G (r.ae k) o ⟨_,H,h,?_,?_⟩ (An _)
 ·rw[Array.size_push,JH m];exact y
 ·have:=((m.ae k).append (RpL.bq L)).az o j;simpa using this
theorem qQ (I:E2 W C k mg mb)(J:CY k A)(B:XB W V z N)(hk:(Cm a&&(c.endLine==e.line))=Ag)(j:O.lookup x=Ab (.own (.list f)))(L:Dc C V O a (.list d))(t:f.length+d.length<=B2):
 F5 W A V z N (exec (.Expr (.Call (.Attribute (.Name x i) "extend" c) [a] [] e) g) z) O (.next (Bu O x (.own (.list (f++d))))):=.mk' λ Z X Q E s T=>by
 have u:=AC.mp hk;have o:[a].all Cm=Ag:=by rw[Dv,u.1];rfl
 obtain⟨D,w,y,M,r⟩:=T.own j;obtain⟨U,n,l,Y,p⟩:=id r;refine wpAny_Expr (wpAny_Call_method rfl (Nz [a] e o (show 1<20 by decide)) u.2 PySem.F.plainAttrs_list PySem.F.slot_list_extend PySem.F.type_list_extend (FI.bv T.S.F j w ⟨⟨_,l,rfl⟩,λ b N=>by cases N;exact⟨_,l,rfl⟩,?_⟩)) (by simp only[interactive];rw[T.S.F.kind];rfl) rfl;rw[Bk e z [a] o];refine F4 rfl (Bf (AE (T.ev I J B L λ v s T k R=>A6 ?_)));obtain⟨b,ws,m,rfl,S,_,_,q⟩:=R.aj;refine Ze (k.keep l Mi nofun) S (by rw[JH p,JH q];exact t) λ G H h o=>T.cu j (w.ae k) y M (r.ae k) o ⟨_,H,h,?_,?_⟩ (An _)
 ·rw[Array.size_append,JH p,JH q];exact t
 ·have:=((p.ae k).append q).az o y;simpa using this
theorem WM (Y:E2 W C k mg mb)(hA:CY k A)(B:XB W V z N)(G:O.lookup x=Ab (.own d))(hv:Dc C V O v f)(hi:Dc C V O i e)(m:qS d e f=Ab g)(M:swapsWith v (Ab (.Subscript (.Name x q) i c)) b.line z=pure Av):
 F5 W A V z N (exec (.Assign [.Subscript (.Name x q) i c] v b) z) O (.next (Bu O x (.own g))):=.mk' λ Z X Q E s T=>by
 obtain⟨a,p,I,hZ,r⟩:=T.own G;refine wpAny_Assign_Subscript (T.ev Y hA B hv λ v' s T w rv=>FI.bv T.S.F G (p.ae w) (T.ev Y hA B hi λ kv s T H rk=>?_)) M;have h:=(p.ae w).ae H;have o:=(r.ae w).ae H;have j:=rv.ae H;cases d with
 |list xs=>
  obtain⟨u,R,m⟩:=AM.mp m;obtain rfl:=Nv R;obtain⟨hk,rfl⟩:=Lf m;obtain⟨t,rfl⟩:=rk.aj;obtain⟨vs,n,J,S,L⟩:=id o;have l:=JH L;have a1:B2=1048576:=rfl;have D:=BP s.heap a (CJ (·.setIfInBounds u.toNat v'))
  refine ki_setAt J hk.1 (Int.lt_trans hk.2 (DD (Fv.mpr (l▸S)) (show(B2:Int)<2^63 by decide+kernel))) (by rw[l];exact hk.2) (T.cu G h I hZ o D ⟨_,_,PySem.IsL.update J (·.setIfInBounds u.toNat v'),?_,?_⟩ (An _))
  ·simpa using S
  ·have:=(RpL.set j u.toNat L).az D I;simpa using this
 |dict es=>
  obtain⟨u,R,m⟩:=AM.mp m;obtain rfl:=aN R;obtain⟨hk,rfl⟩:=Lf m;obtain⟨t,rfl,_⟩:=rk.aj;obtain⟨U,J,y,S,q,L⟩:=id o;refine wpAny_setItem_pairs (k:=u) (by simp[BV.K,KI,Value.isStrOf]) J (λ a0 hm D=>?_) (Aa (AB (by simpa using congrArg BR q)) (Aa (AY hk) FW));obtain⟨q1,q2⟩:=LC q L j;have a2:U.length=es.length:=by simpa using congrArg BR q
  exact T.cu G h I hZ o D ⟨_,hm,y,(by simpa using congrArg BR q1)▸Aa (HG ..) hk,q1,q2.az D I⟩ (Bq _)
 |_=>contradiction
end
set_option genInjectivity false
set_option genSizeOfSpec false
class inductive H8 (W:BV) (A:Dj) (sc:Bg) (ah:E9) (hb:AT) (t:Expr) (b o:List Bs):List PV->A5->Fl->Prop
 |nil {ρ0 fl0}:F5 W A sc ah hb (execs o ah) ρ0 fl0->H8 W A sc ah hb t b o [] ρ0 fl0
 |next {x xs0 ρ0 ρb ρ20 fl0}:GH sc t x ρ0=Ab ρb->F5 W A sc ah hb (execs b ah) ρb (.next ρ20)->H8 W A sc ah hb t b o xs0 ρ20 fl0->H8 W A sc ah hb t b o (x::xs0) ρ0 fl0
 |brk {x xs0 ρ0 ρb ρ20}:GH sc t x ρ0=Ab ρb->F5 W A sc ah hb (execs b ah) ρb (.brk ρ20)->H8 W A sc ah hb t b o (x::xs0) ρ0 (.next ρ20)
 |ret {x xs0 ρ0 ρb d}:GH sc t x ρ0=Ab ρb->F5 W A sc ah hb (execs b ah) ρb (.ret d)->H8 W A sc ah hb t b o (x::xs0) ρ0 (.ret d)
section
variable {Q:FG->Aq->Prop}
theorem H8.aj (o:H8 W A V z N t b g (x::i) O f):∃h k,GH V t x O=Ab h/\F5 W A V z N (execs b z) h k/\(match k with | .next e=>H8 W A V z N t b g i e f | .brk e=>f=.next e | .ret d=>f=.ret d):=by
 cases o with
 |next a b c=>exact⟨_,_,a,b,c⟩
 |brk a b=>exact⟨_,_,a,b,rfl⟩
 |ret a b=>exact⟨_,_,a,b,rfl⟩
theorem H8.iz (h:H8 W A V z N t b a [] O c):F5 W A V z N (execs a z) O c:=by
 cases h;assumption
variable {it:Expr}{fr:List Nat} in
structure LB (W:BV)(A:Dj)(sc:Bg)(ah:E9)(hb:AT)(Z X:List Ai)(I:Ai)(xs:List PV)(St:Nat->AT->Prop):Prop where
 it:MX W A (I::X) I xs St
 IX:I∉X
 Ib:hb.get? I=Ah
 zx:∀a∈Z,a∈X
 zf:∀a∈AW ah,a∈Z
 fr:∀a∈X,a∉Z->hb.get? a=Ah
variable {S:Nat}{q:CE}{st:Bs} in
structure LI (W:BV)(sc:Bg)(ah:E9)(hb:AT)(Z X:List Ai)(I:Ai)(St:Nat->AT->Prop)(ρ:A5)(i:Nat)(fl:Fl)(Q:FG->Aq->Prop)(s:Aq):Prop where
 st:St i s.heap
 S:XS W sc ah hb (I::Z) (I::X) s ρ
 q:KA W sc ah hb Z X s fl Q
theorem LB.If {St:Nat->AT->Prop}(B:LB W A V z N Z X I a St):I∉AW z:=λ q=>B.IX (B.zx _ (B.zf _ q))
theorem LB.ne {St:Nat->AT->Prop}(B:LB W A V z N Z X I a St)(st:St i h)(hc:(b∉X/\EL o)\/(b∈Z/\¬Ec V z b/\o.cls≠.type "frame"/\o.cls≠.none))(s:h.get? b=Ab o):b≠I:=λ q=>by
 obtain⟨H,k,_,_,_,w⟩:=B.it.cj _ _ st;rcases hc with⟨_,C⟩ |⟨E,_⟩
 ·simp only[q,k] at s;cases s;exact w C
 ·exact B.IX (B.zx _ (q▸E))
theorem LB.ai {St:Nat->AT->Prop}(B:LB W A V z N Z X I a St)(st:St i h)(s:D9 V z (I::Z) (I::X) h H):D9 V z Z X h H:=λ b o hc k=>
 s b o (hc.imp (λ c=>⟨λ q=>(Ak.mp q).elim (B.ne st hc k) c.1,c.2⟩) λ c=>⟨Af _ c.1,c.2⟩) k
theorem LB.frame {St:Nat->AT->Prop}(B:LB W A V z N Z X I a St)(st:St i h)(C:D9 V z (I::Z) (I::X) h H):St i H:=by
 obtain⟨Q,k,E,_,O,_⟩:=B.it.cj _ _ st;exact B.it.frame _ _ _ st (λ o s=>by obtain rfl:=A4 k s;exact C I _ (.inr ⟨Ad,λ q=>B.If (K3 q),O,E⟩) k) λ b o N s w=>C b o (.inl ⟨N,w⟩) s
theorem LB.drop {St:Nat->AT->Prop}(B:LB W A V z N Z X I a St)(S:XS W V z N (I::Z) (I::X) s O):XS W V z N Z X s O:=⟨S.F.bp (λ _ _ _ e=>e) B.If B.IX B.zx,S.le,S.tk,B.fr,S.fc⟩
theorem LB.ext {St:Nat->AT->Prop}(B:LB W A V z N Z X I d St)(L:LI W V z N Z X I St O i a Q s)(e:BC I s.heap h)(l:s.toks<=c):KA W V z N Z X {s with heap:=h,toks:=c} a Q/\BB W N h:=by
 obtain⟨o,k,C,E,_⟩:=B.it.cj _ _ L.st;exact⟨L.q.aq (λ b o hc k=>e b o (B.ne L.st hc k) k) l,L.S.le.ext B.Ib (λ H f w g=>by obtain rfl:=A4 k w;exact⟨C,E⟩) e⟩
theorem LB.step {St:Nat->AT->Prop}(B:LB W A V z N Z X I b St)(L:LI W V z N Z X I St O i a Q s)(e:BC I s.heap h)(st:St j h)(l:s.toks<=tk):LI W V z N Z X I St O j a Q {s with heap:=h,toks:=tk}:=
 ⟨st,⟨L.S.F.ext e Ad B.If (by obtain⟨o,k,_⟩:=B.it.cj _ _ st;exact⟨o,k⟩),(B.ext L e l).2,Aa L.S.tk l,L.S.fr,L.S.fc.at λ o k=>e _ o (λ q=>B.If (q▸Ad)) k⟩,(B.ext L e l).1⟩
theorem LB.out {St:Nat->AT->Prop}(B:LB W A V z N Z X I c St)(L:LI W V z N Z X I St O i a Q s)(e:BC I s.heap h)(l:s.toks<=b):ST W V z N Z X O a Q {s with heap:=h,toks:=b}:=
 ⟨⟨L.S.F.bp e B.If B.IX B.zx,(B.ext L e l).2,Aa L.S.tk l,B.fr,L.S.fc.at λ o k=>e _ o (λ q=>B.If (q▸Ad)) k⟩,(B.ext L e l).1⟩
theorem LB.eg {St:Nat->AT->Prop}(B:LB W A V z N Z X I d St)(L:LI W V z N Z X I St O i c Q s)(S:XS W V z N (I::Z) (I::X) {s with heap:=h,toks:=b} a)(k:D9 V z (I::Z) (I::X) s.heap h)(l:s.toks<=b):LI W V z N Z X I St a i c Q {s with heap:=h,toks:=b}:=
 ⟨B.frame L.st k,S,L.q.aq (B.ai L.st k) l⟩
end
section
variable {Q:FG->Aq->Prop}
theorem LI.cast {St:Nat->AT->Prop}(e:b=a)(L:LI W V z N Z X I St O i b Q s):LI W V z N Z X I St O i a Q s:=e▸L
theorem LI.j7 {St:Nat->AT->Prop}(L:LI W V z N Z X I St a i (.next O) Q s)(S:XS W V z N Z X s O):Q .next s:=L.q _ _ S .refl (An _)
theorem LI.j6 {St:Nat->AT->Prop}(L:LI W V z N Z X I St c i (.ret d) Q s)(k:BB W N h)(l:s.toks<=b)(r:Rp W (I::Z) h v d):Q (.ret v) {s with heap:=h,toks:=b}:=L.q v h b k l (r.ai λ a o=>Af _ o)
structure LN (W:BV)(A:Dj)(sc:Bg)(ah:E9)(hb:AT)(Z X:List Ai)(I:Ai)(St:Nat->AT->Prop)(t:Expr)(b o:List Bs)(xs:List PV)(fl:Fl)(Q:FG->Aq->Prop)(n:Nat)(s:Aq):Prop where
 ex:∃ρ i,i<=xs.length/\n=xs.length-i/\LI W sc ah hb Z X I St ρ i fl Q s/\H8 W A sc ah hb t b o (xs.drop i) ρ fl
theorem Ux {R:Ex->Aq->Prop}{c:List PV}{t:Expr}{j:Fl}{I:Ai}{St:Nat->AT->Prop}(hh:A.handled=Ah)(Bx:XB W V z N)(B:LB W A V z N Z X I c St){b g:List Bs}(L:LI W V z N Z X I St O 0 j (λ f u=>R (.ok f) u) s)(e:H8 W A V z N t b g c O j):Es W.M A (.forLoop t (.ref I) b g z) R s:=by
 refine Kn (LN W A V z N Z X I St t b g c j λ f u=>R (.ok f) u) (λ n u hI=>ML λ Q' E' U gE=>?_) c.length ⟨O,0,AZ _,rfl,L,e⟩;obtain⟨a0,i,hi,hn,L,M⟩:=hI.ex;by_cases w:i<c.length
 ·rw[Fi w] at M;obtain⟨a1,f1,h1,h2,m⟩:=M.aj;refine Cz (An _) (B.it.item i u _ _ c[i] L.st (AA w) λ v x p rv C E H=>U _ _ ?_);have L:=B.step L E C H;refine B.it.dn (i+1) _ _ _ t v C (GY hh Bx L.S h1 rv λ Y S y q D=>?_);have L:=B.eg L y (q.ap λ a ha=>L.S.F.br ha) D;refine h2.go (I::Z) (I::X) _ _ _ L.S ?_;cases f1 with
  |next G=>exact λ l Q o k h=>⟨_,hn▸Nat.sub_succ_lt_self _ _ w,G,i+1,w,rfl,B.eg L o k h,m⟩
  |brk G=>exact λ l Q o k h=>((B.eg L o k h).cast m).j7 (B.drop o)
  |ret d=>exact λ v l Q T h r=>(L.cast m).j6 T h r
 ·have J:=EK hi (B7.mp w);rw[J,List.drop_length] at M;exact Cz (An _) (B.it.done u _ _ (J▸L.st) λ x p E H=>U _ _ (M.iz.run (B.out L E H)))
end
set_option genInjectivity false
set_option genSizeOfSpec false
theorem J6 (u:E2 W C k mg mb)(g:CY k A)(B:XB W V z N)(p:OG C V O e f)(x:H8 W A V z N t b d f O fl):F5 W A V z N (exec (.For t e b d pos) z) O fl:=.mk' λ Z X Q E s T=>by
 rw[arm_exec_For];refine Ac (A0 (Ac (T.kt u g B (λ c y _ _=>y▸p.2 c) λ v s T k D=>Ac (EI (LK p.1 z v) (Ac (A0 (Ac (Bt ?_))))))));refine Hg D λ I o i j hk l=>?_;have w:I∉X:=λ q=>DM i (T.S.F.an I q) rfl;have h:BB W s.heap o:=.af hk;obtain⟨St,m,n⟩:=MX.of (l w) Ad g.handled;have H:XS W V z N (I::Z) (I::X) {s with heap:=o} O:=
  ⟨T.S.F.fresh (B.ao.trans T.S.le) h i j,T.S.le.trans h,T.S.tk,λ a G r=>T.S.fr a ((Ak.mp G).resolve_left λ q=>r (q▸Ad)) λ q=>r (Af _ q),T.S.fc.bg h⟩
 refine NO ?_;rw[Oa];exact Ux g.handled B ⟨n,w,Hu T.S.le i,T.S.F.zx,T.S.F.bb,T.S.fr⟩ ⟨m,H,T.q.aq h.ap (An _)⟩ x
structure Th (W:BV)(A:Dj)(sc:Bg)(ah:E9)(hb:AT)(sts:List Bs)(ρ:A5)(d:PV):Prop where
 go:∀(Z X:List Ai)(s:Aq)(Q:FG->Aq->Prop)(E:Jc),XS W sc ah hb Z X s ρ->(∀v h' tk,BB W hb h'->s.toks<=tk->Rp W Z h' v d->Q (.ret v) {s with heap:=h',toks:=tk})->Aw W.M A (execs sts ah) Q E s
theorem K5 {r:List Bs}{st:Bs}{ρ1:A5}{d:PV}(c:F5 W A V z N (exec st z) O (.next ρ1))(e:Th W A V z N r ρ1 d):Th W A V z N (st::r) O d:=.mk λ Z X s Q E S f=>
 Ay (c.go Z X s _ _ S λ o h w i C=>e.go Z X {s with heap:=o,toks:=h} Q E w λ v H k b a g=>f v H k b (Aa C a) g)
theorem Jp {r:List Bs}{st:Bs}{d:PV}(h:F5 W A V z N (exec st z) O (.ret d)):Th W A V z N (st::r) O d:=.mk λ Z X s Q E S k=>Ay (h.go Z X s _ _ S k)
theorem R8 {b:CE}(p:E2 W C k mg mb)(t:CY k A)(B:XB W V z N)(u:iU C V O v d')(j:(A3 V x&&WS O x)=Ag)(y:Th W A V z N r (Bu O x (.own d')) d)
 (hw:Dk [.Name x q] v b.line z=pure Av):Th W A V z N (.Assign [.Name x q] v b::r) O d:=.mk λ Z X s Q E S D=>
 have j:=AC.mp j
 Ay (CA rfl hw rfl (u ⟨W,A,z,Z,X,_,mg,mb,p,t⟩ s S.F (S.gd B) _ _ λ a n l G w H I=>
  Rq B S j.1 (VA j.2) G w H I λ c h e f=>y.go Z (a::X) {s with heap:=c,toks:=h} Q _ e λ v g o m i J=>D v g o m (Aa f i) J))
theorem Oz (m:Gw W a fd f c){g:List PV->Option PV}(V:∀args d,g args=Ab d->args.length=f.length/\∀A h H,CY k A->XB W fd.scope h H->Th W A fd.scope h H c (f.zip (args.map Dt.aa)) d):Gx W (k+1) a g:=
 λ A s X args Z d i G n r e Q E p=>
  Ge m i G n (MT.gw r) ((Al _).trans (V args d e).1) λ h j N t B l w S=>
   ((V args d e).2 _ h _ (i.down h) B).go _ _ _ _ _ S λ v z o O C q=>p v z o O (Aa w C) (q.ai λ b H=>AL.mpr (.inr H))
set_option genInjectivity false
set_option genSizeOfSpec false
section
variable {Q:FG->Aq->Prop}
theorem bN {Cl:Ai}{f:List Ae}{c g:CE}(y:E2 W C k mg mb)(D:CY k A)(B:XB W V z N){x:As}(I:Gm W mg x Cl f)(S:XS W V z N Z X s O){a:Expr}{b:As}{d:CE}(l:Cm a=Ag)(U:CX V x=Ag)(Y:Dc C V O a (.str b))
 (hE:∀n J e t,BB W s.heap n->s.toks<=J->Ba b=Ag->b.length<=B2->KQ W s.heap n e (.ref Cl) (.str b t)->E (.ref e) {s with heap:=n,toks:=J}):
 Aw W.M A (exec (.Raise (Ab (.Call (.Name x g) [a] [] c)) Ah d) z) Q E s:=by
 obtain⟨nm,q,a0,bs,w,sn,sub,ab,p,dd,k0,k1,k2,k3,k5,Bn,r,j,a1,mN,a2,L,hC,hN,u,M,_⟩:=I.cls;have R:[a].all Cm=Ag:=by rw[Dv,l];rfl
 have G:=S.gd B;refine wpAny_Raise_call_subT (nm:=nm) (q:=q) (N:=a0) (bs:=bs) (hdct:=w) (sn:=sn) (sub:=sub) (ab:=ab) (col:=p) (dd:=dd) (k0:=k0) (k1:=k1) (k2:=k2) (k3:=k3) (k5:=k5) L (M.hasType L.hasBase) D.handled
  (by rw[Bk c z [a] R];rfl) u (CH y S.F G U (.inl I.bx) ⟨rfl,?_⟩)
 simp only[Bk c z [a] R];refine Bf (AE (Y ⟨W,A,z,Z,X,_,mg,mb,y,D⟩ s S.F G _ _ λ v T o h H rv=>A6 ⟨rfl,by show 1<=HH;decide,(G.ao.trans h).keep hC (by simp) (by simp),Dl (G.ao.trans h) hN,TU (G.ao.trans h) M,λ i e m=>?_⟩));obtain⟨t,rfl,o1,z1⟩:=rv.aj;exact hE i o e t (h.trans (.af m.keeps)) H o1 z1 ((KQ.jk m).gr h)
structure Q5 (W:BV)(A:Dj)(sc:Bg)(ah:E9)(hb:AT)(Cl:Ai)(sts:List Bs)(ρ:A5)(out:xO):Prop where
 go:∀(Z X:List Ai)(s:Aq)(Q:FG->Aq->Prop)(E:Jc),XS W sc ah hb Z X s ρ->(∀d,out=.ret d->∀v h' tk,BB W hb h'->s.toks<=tk->Rp W Z h' v d->Q (.ret v) {s with heap:=h',toks:=tk})->
  (∀x w,out=.mh x w->∀h' tk e t,D3 ah h'->s.toks<=tk->Ba w=Ag->w.length<=B2->KQ W hb h' e (.ref Cl) (.str w t)->E (.ref e) {s with heap:=h',toks:=tk})->Aw W.M A (execs sts ah) Q E s
theorem JF {Cl:Ai}{r:List Bs}{st:Bs}{a:A5}{b:xO}(i:F5 W A V z N (exec st z) O (.next a))(j:Q5 W A V z N Cl r a b):Q5 W A V z N Cl (st::r) O b:=.mk λ Z X s Q E S l m=>
 Ay (i.go Z X s _ _ S λ c H f B C=>j.go Z X {s with heap:=c,toks:=H} Q E f (λ d n v k h g o p=>l d n v k h g (Aa C o) p) λ x w q k h e t u o y z1 F=>m x w q k h e t u (Aa C o) y z1 F)
theorem Vd {Cl:Ai}{r:List Bs}{st:Bs}{d:PV}(h:F5 W A V z N (exec st z) O (.ret d)):Q5 W A V z N Cl (st::r) O (.ret d):=.mk λ Z X s Q E S k o=>
 Ay (h.go Z X s _ _ S (k d rfl))
theorem K4 {Cl:Ai}{r:List Bs}{c:CE}{t:Expr}{a:xO}(h:E2 W C k mg mb)(o:CY k A)(B:XB W V z N){b:List Bs}(s:KY C V O t Av)(w:Q5 W A V z N Cl r O a):Q5 W A V z N Cl (.If t b [] c::r) O a:=
 JF (GB h o B s FT) w
theorem NY {Cl:Ai}{f:List Ae}{r:List Bs}{i g d:CE}{t:Expr}(p:E2 W C k mg mb)(q:CY k A)(B:XB W V z N){a:Expr}{x b:As}{c:CE}(v:KY C V O t Ag)(y:Gm W mg x Cl f)(D:CX V x=Ag)(G:Cm a=Ag)(I:Dc C V O a (.str b)):
 Q5 W A V z N Cl (.If t [.Raise (Ab (.Call (.Name x g) [a] [] i)) Ah c] [] d::r) O (.mh x b):=.mk λ Z X s Q E S T J=>
 Ay (KT (v ⟨W,A,z,Z,X,_,mg,mb,p,q⟩ s S.F (S.gd B) _ _ λ U u n H o e=>by
  subst e;have h:=S.ae H o;exact Ay (bN p q B y h G D I λ j w L M l m R z1 F=>J x b rfl j w L M (h.fc.bg l) (Aa o m) R z1 (F.gr h.le))))
theorem jM {Cl a:Ai}{args:List PV}{g:List Ae}{c:List Bs}{i:List As}{l:List E9}{f:xO}(I:Gw W a fd i c)(T:args.length=i.length)(U:∀A h p,CY k A->XB W fd.scope h p->Q5 W A fd.scope h p Cl c (i.zip (args.map Dt.aa)) f)
 (J:CY (k+1) A) (q:A.frames=Ab l) (St:Bb W s.heap l) (G:Gd W s) (Y:∀b∈X,W.h0.get? b=Ah/\∃o,s.heap.get? b=Ab o) (r:RpL W X s.heap g args) {j:Jc}
 (hQ:∀d,f=.ret d->∀v O V,BB W s.heap O->s.toks<=V->Rp W X O v d->j v {s with heap:=O,toks:=V})
 (hE:∀x w,f=.mh x w->∀O V e t,s.toks<=V->Ba w=Ag->w.length<=B2->KQ W s.heap O e (.ref Cl) (.str w t)->Bb W O l->E (.ref e) {s with heap:=O,toks:=V}):
 Aw W.M A (call (.ref a) g) j E s:=
 Ge I J G Y (MT.gw r) ((Al _).trans T) λ h L u M B R N S=>
  (U _ h _ (J.down h) B).go _ _ _ _ _ S (λ d hd v C z y H rv=>hQ d hd v C z y (Aa N H) (rv.ai λ b p=>AL.mpr (.inr p))) λ x w hx C z e' t fc H o1 z1 F=>
by
 have Z:(A.deeper h).frames=Ab (h::l):=by show A.frames.map (h::·)=_;rw[q];rfl
 have D:Bb W C (h::l):=⟨by rw[M,I.kind];nofun,by rw[M];rfl,(S.F.alive h.locals (S.F.zx _ (S.F.bb _ Ad))).1,fc,St.bg F.1⟩;exact KQ.bp (by simp) Z D F λ m n Q=>hE x w hx m z e' t (Aa N H) o1 z1 n Q.2.2.2.2
theorem o8 {Cl a:Ai}{c:List Bs}{f:List As}(n:Gw W a fd f c){g:List PV->Option PV}(Z:∀args d,g args=Ab d->args.length=f.length/\∀A h N,CY k A->XB W fd.scope h N->Q5 W A fd.scope h N Cl c (f.zip (args.map Dt.aa)) (.ret d)):Gx W (k+1) a g:=
 λ A s X args i d j G p r e Q E q=>
  Ge n j G p (MT.gw r) ((Al _).trans (Z args d e).1) λ h l O y B m z S=>
   ((Z args d e).2 _ h _ (j.down h) B).go _ _ _ _ _ S (λ D t v C o V H u=>q v C o V (Aa z H) (by cases t;exact u.ai λ b N=>AL.mpr (.inr N))) λ x w I=>(by contradiction)
theorem Z2 {Cl a:Ai}{args:List PV}{f:List Ae}{c:List Bs}{g:List As}{l:List E9}(H:Gw W a fd g c){x i:As}(N:args.length=g.length)(O:∀A h C,CY k A->XB W fd.scope h C->Q5 W A fd.scope h C Cl c (g.zip (args.map Dt.aa)) (.mh x i))
 (V:CY (k+1) A) (w:A.frames=Ab l) (St:Bb W s.heap l) (G:Gd W s) (Z:∀b∈X,W.h0.get? b=Ah/\∃o,s.heap.get? b=Ab o) (r:RpL W X s.heap f args):Rz W A (call (.ref a) f) s l Cl i:=
 λ Q E j=>jM H N O V w St G Z r (λ d u=>(by contradiction)) λ v y m n p e t l q z1 F z=>by cases m;exact j n p e t l q z1 F z
end
structure FH (h:AT)(c P:Ai)(ps:Array Ae):Prop where
 hd:CodeHd h c P
 at_:h.get? P=Ab (Me ps)
 ok:U6 ps.toList
theorem FH.keeps (T:FH h c P a)(k:∀b o,h.get? b=Ab o->H.get? b=Ab o):FH H c P a:=⟨T.hd.keeps k,k _ _ T.at_,T.ok⟩
theorem FH.ne (T:FH h c P a):c≠P:=
 by obtain⟨_,_,_,_,_,_,_,_,_,e⟩:=T.hd;exact e.2.2.2.2.2.2.2.2.2
theorem mV (T:CodeHd h c P):∃o,h.get? c=Ab o/\o.cls=.type "code":=
 by obtain⟨o,_,_,_,_,_,_,_,_,e⟩:=T;exact⟨o,e.1,e.2.1⟩
theorem Xg (T:CodeHd h c P)(k:∀o,h.get? c=Ab o->H.get? c=Ab o):CodeHd H c P:=
 by obtain⟨o,s,w,z,A,C,E,N,O,e⟩:=T;exact⟨o,s,w,z,A,C,E,N,O,k o e.1,e.2⟩
theorem FH.extBut (T:FH h c P b)(k:BC a h H)(o:c≠a)(s:P≠a):FH H c P b:=
 ⟨Xg T.hd λ _=>k _ _ o,k _ _ s T.at_,T.ok⟩
theorem FH.more (T:FH h c P d)(k:BC P h H)(hP:H.get? P=Ab (Me (d++ #[BS a,BS b,v]))):FH H c P (d++ #[BS a,BS b,v]):=by
 refine⟨Xg T.hd λ _=>k _ _ T.ne,hP,?_⟩;have:(d++ #[BS a,BS b,v]).toList=d.toList++[BS a,BS b,v]:=by simp
 rw[this];exact TriplesOk_snoc _ _ _ _ T.ok
theorem Wh {M:Dr}{d:CodeContext->DJ Ae}(m:z.code=.ref c)(T:FH s.heap c P g)
 (n:∀U(s:Aq)(Q:Jc)(E:Jc),(∀h V w u,(∀b o,s.heap.get? b=Ab o->w.get? b=Ab o)->s.heap.objs.size<=h->s.heap.objs.size<=V->w.IsCode h V #[]->w.TableAt h V #[]->w.CodeRec (.ref h) f->Q (.ref h) {s with heap:=w,toks:=u})->Aw M A (d U) Q E s)
 (v:∀S,Cg a g.toList=Ab S->Q S s)
 (p:Cg a g.toList=Ah->∀h V w u,BC P s.heap w->s.heap.objs.size<=h->s.heap.objs.size<=V->h<w.objs.size->V<w.objs.size->FH w c P (g++ #[BS a.line,BS a.col,.ref h])->FH w h V #[]->w.CodeRec (.ref h) f->s.toks<=u->Q (.ref h) {s with heap:=w,toks:=u}):
 Aw M A (codeAt z a d) Q E s:=by
 refine Jt λ gg kk=>?_;obtain⟨o,C,a3,tf,Y,tg,a6,a4,tt,op,ho,hd,a0,h2,h7,h9,a1,H,q,a2,a7⟩:=T.hd.code T.at_ T.ok;refine kk ?_;unfold codeAt;rw[m,if_neg (DC)];refine Ac (wpAny_fieldsOf ho hd ?_);rw[a0];refine Ac (wpAny_fieldsOf H q ?_);cases N:Cg a g.toList with
 |some S=>exact Ar (v S N)
 |none=>
 rw[h2,h7,h9,a1];refine Cz (An _) (Ac (n _ _ _ _ λ h V w u hk x y k O r=>?_));have Z:=hk _ _ H;refine Ac (wpAny_updateFieldsOfTheText Z q ?_);have i:(Et (λ C=>if(Cg a C.toList).isSome=Ag then C else C++ #[BS a.line,BS a.col,.ref h]) op).data=
  .fields (g++ #[BS a.line,BS a.col,.ref h]):=by
  rw[En q,N];rfl
 have j:=B1 (λ o=>Et (λ C=>if(Cg a C.toList).isSome=Ag then C else
  C++ #[BS a.line,BS a.col,.ref h]) o) Z (Eb i)
 refine Ac (wpAny_fieldsOf j i ?_);simp only[(by simp:(g++ #[BS a.line,BS a.col,BK h]).toList=g.toList++[BS a.line,BS a.col,.ref h]),codeAmong_snoc _ a2 N];have B:=Dz (Ao (AU H) x);have W:=(BP w P (λ o=>Et (λ C=>if(Cg a C.toList).isSome=Ag then C else C++ #[BS a.line,BS a.col,BK h]) o)).extBut;refine Ar λ l=>p N h V _ _ (λ b D hb e=>W b D hb (hk b D e)) x y (by rw[Heap.size_after_update];exact k.lt.1) (by rw[Heap.size_after_update];exact k.lt.2) ?_ ?_ ?_ l
 ·refine T.more (λ b D hb e=>W b D hb (hk b D e)) ?_;rw[j,(AN (H.symm.trans T.at_))];rw[Et,N];rfl
 ·exact(⟨CodeHd.of k O,O.2,trivial⟩:FH w h V #[]).extBut W B (Dz (Ao (AU H) y))
 ·obtain⟨a5,G,t,I,J,L,R⟩:=r;cases J;exact⟨_,G,t,I,rfl,W _ _ B L,R⟩
theorem Qj:∀(l m:List Ae),U6 l->Cg d l=Ab c->Cg d (l++m)=Ab c:=by
 intro l m
 fun_induction U6 l with
 |case1=>intro _ h;contradiction
 |case2 a w b z v o s=>
  intro k h;dsimp only[Eg,Cg] at h ⊢;split at h
  ·rename_i q;rw[if_pos q];exact h
  ·rename_i q;rw[if_neg q];exact s k h
 |case3=>intro k;exact k.elim
noncomputable abbrev Wf (name h:As)(params:Ea)(k:List Bs)(scope:Bg)(o:List (As×Ai))(s w z:Ae):FF:=
 {name,qualname:=h,params,body:=.stmts k,scope,globals:=Ce,closure:=o,defaults:=.none,kwdefaults:=.none,pyModule:=s,code:=w,closureTuple:=z,builtins:=Ji}
noncomputable abbrev Xx (name o:As)(h:Ea)(s:List Bs)(k:Bg)(w:List (As×Ai))(z A C:Ae):Eo:=
 {cls:=.type "function",data:=.func (Wf name o h s k w z A C)}
noncomputable abbrev VR (name h:As)(params:Ea)(k:Expr)(scope:Bg)(o:List (As×Ai))(s w z:Ae):FF:=
 {name,qualname:=h,params,body:=.expr k,scope,globals:=Ce,closure:=o,defaults:=.none,kwdefaults:=.none,pyModule:=s,code:=w,closureTuple:=z,builtins:=Ji}
variable {c:Ai}{n:Nat}{vs:List Ae}{t:Expr}{g:Array CC} in
inductive Da (h:AT)(cd:Ae)(q:As):Prop
 |mk (c:Ai) (o:Eo) (vs:Array Ae) (t:Tok) (e:cd=.ref c) (g:h.get? c=Ab o) (k:o.cls=.type "code") (d:o.data=.fields vs) (n:vs[1]? =Ab (.str q t))
theorem Da.db (x:Da h f q):h.CodeRec f q:=by obtain⟨c,o,k,t,a,b,_,d,e⟩:=x;exact⟨c,o,k,t,a,b,d,e⟩
theorem Da.at_ (x:Da h f q)(k:∀b o,h.get? b=Ab o->o.cls=.type "code"->H.get? b=Ab o):Da H f q:=by obtain⟨c,o,s,t,a,b,hc,d,e⟩:=x;exact⟨c,o,s,t,a,k _ _ b hc,hc,d,e⟩
theorem Da.of (x:h.CodeRec (.ref c) q)(T:FH h c P a):Da h (.ref c) q:=by
 obtain⟨C,o,s,t,e,k,w,z⟩:=x;cases e;obtain⟨E,A,hc⟩:=mV T.hd;obtain rfl:=A4 k A;exact⟨c,o,s,t,rfl,k,hc,w,z⟩
structure tZ (h h':AT)(P c:Ai)(ps ps':Array Ae)(pos:CE)(qual:As)(f:Ai)(o:Eo)(cv:Ae):Prop where
 ext:BC P h h'
 new:h.get? f=Ah
 at_:h'.get? f=Ab o
 ji:FH h' c P ps'
 hit:Cg pos ps'.toList=Ab cv
 db:Da h' cv qual
 more:∀pos' cv',Cg pos' ps.toList=Ab cv'->Cg pos' ps'.toList=Ab cv'
 only:∀pos' cv',Cg pos' ps'.toList=Ab cv'->Cg pos' ps.toList=Ab cv'\/(cv'=cv/\Cg pos ps.toList=Ah/\pos'.line=pos.line/\pos'.col=pos.col)
 same:(Cg pos ps.toList).isSome=Ag->ps'=ps
 pre:∃more,ps'=ps++more
theorem MP {e:CE}:∀(l:List Ae),U6 l->Cg d (l++[BS e.line,BS e.col,c])=Ab f->Cg d l=Ab f\/(f=c/\d.line=e.line/\d.col=e.col):=by
 intro l
 fun_induction U6 l with
 |case1=>
  intro _ h;dsimp only[D1,Cg,BS] at h;split at h
  ·rename_i q;rw[AG,beq_iff_eq] at q;cases h;exact .inr ⟨rfl,(JD q.1).symm,(JD (BQ q.2)).symm⟩
  ·contradiction
 |case2 a w b z v o s=>
  intro k h;dsimp only[Eg,Cg] at h ⊢;split at h
  ·rename_i q;rw[if_pos q];exact .inl h
  ·rename_i q;rw[if_neg q];exact s k h
 |case3=>intro k;exact k.elim
theorem VH {M:Dr}{n:Array Ae}
 (a3:ZQ scope z=pure m) (a4:z.globals=Ce) (hg:s.heap.Ns Ce mg) (D:z.code=.ref c) (T:FH s.heap c P n) (a5:Ce≠P) (L:s.heap.BuiltinsAt mg P)
 (a6:∀V,Cg j n.toList=Ab V->Da s.heap V i)
 (b4:∀f V x W Z C,tZ s.heap W P c n C j i f {cls:=.type "function",data:=.func {name,qualname:=i,params,body:=.expr u,scope,globals:=Ce,closure:=m,defaults:=.none,kwdefaults:=.none,pyModule:=(mg "__name__").getD .none,code:=V,closureTuple:=x,builtins:=Ji}} V->s.toks<=Z->s.heap.objs.size<=f->
  Q (.ref f) {s with heap:=W,toks:=Z}):
 Aw M A (makeFunction name i params (.expr u) scope z [] [] [] j p) Q E s:=by
 rw[makeFunction_eq];simp;refine Jt λ gg kk=>?_;obtain⟨bm,ob,a7,R,_,S,a8,U,G,I⟩:=L;refine kk ?_;have y:∀x h H,(∀b o,s.heap.get? b=Ab o->h.get? b=Ab o)->s.heap.objs.size<=h.objs.size->s.toks<=H->
  Aw M A (do
   let cd <-functionCode z j p name i params scope (.expr u)
   let Y <-builtinsFor Ce z.builtins
   let nm <-nsGet Ce "__name__"
   newObj (.type "function") (.func {name,qualname:=i,params,body:=.expr u,scope,globals:=Ce,closure:=m,defaults:=.none,kwdefaults:=.none,annotations:=Ah,pyModule:=nm.getD .none,code:=cd,closureTuple:=x,builtins:=Y,doc:=.none})) Q E {s with heap:=h,toks:=H}:=λ x h H w N v=>by
  have B:=T.keeps w;have y:∀V W Z C,BC P h W->h.objs.size<=W.objs.size->FH W c P C->Cg j C.toList=Ab V->Da W V i->(∀k O,Cg k n.toList=Ab O->Cg k C.toList=Ab O)->
   (∀k O,Cg k C.toList=Ab O->Cg k n.toList=Ab O\/(O=V/\Cg j n.toList=Ah/\k.line=j.line/\k.col=j.col))->((Cg j n.toList).isSome=Ag->C=n)->(∃a0,C=n++a0)->s.toks<=Z->
   Aw M A (do
    let Y <-builtinsFor Ce z.builtins
    let nm <-nsGet Ce "__name__"
    newObj (.type "function") (.func {name,qualname:=i,params,body:=.expr u,scope,globals:=Ce,closure:=m,defaults:=.none,kwdefaults:=.none,annotations:=Ah,pyModule:=nm.getD .none,code:=V,closureTuple:=x,builtins:=Y,doc:=.none})) Q E {s with heap:=W,toks:=Z}:=λ V W Z C hx hz T' a9 rc a1 only same b0 l=>by
   have a2:=(hg.keeps w).extBut hx a5;refine Ac (wpAny_builtinsFor a2 a7 R (hx _ _ S (w _ _ a8)) U G I (Ac (wpAny_nsGet a2 ?_)));exact B3 (b4 W.objs.size V x _ Z C ⟨λ b o L e=>AI _ ((λ b o L e=>hx b o L (w b o e)) b o L e),(Lk (Aa N hz)),AD _ rfl,T'.keeps λ b o e=>AI _ e,a9,rc.at_ λ b o e _=>AI _ e,a1,only,same,b0⟩ l (Aa N hz)) (by size_fits)
  refine Ac (Wh D B (λ b5 s Q E hQ=>wpAny_newCodeX λ c' P' W Z a b d e f g=>hQ c' P' W Z a b d e f g) (λ V hc=>?_) λ J c' P' W Z hx b1 b6 b2 b7 T' b3 rc l=>?_)
  ·exact y V h H n (λ _ _ _ e=>e) (An _) B hc ((a6 V hc).at_ λ b o e _=>w b o e) (λ _ _ e=>e) (λ _ _ e=>.inl e) (λ _=>rfl) ⟨#[],by rfl⟩ v
  ·have hl:(n++ #[BS j.line,BS j.col,BK c']).toList=n.toList++[BS j.line,BS j.col,.ref c']:=by simp
   refine y (.ref c') W Z _ hx (AY (Az b1 b2)) T' ?_ (.of rc b3) (λ k O e=>?_) (λ k O e=>?_) (λ q=>by(first |exact Do J q |obtain rfl:=A4 J q |cases J.symm.trans q |(rw[J] at q;exact BI q))) ⟨_,rfl⟩ (Aa v l)
   ·rw[hl];exact codeAmong_snoc _ T.ok J
   ·rw[hl];exact Qj _ _ T.ok e
   ·rw[hl] at e;exact(MP _ T.ok e).imp id λ q=>⟨q.1,J,q.2⟩
 dsimp only[makeTail];rw[a3,a4];refine Ac (Ar ?_);have go:∀x h,(∀b o,s.heap.get? b=Ab o->h.get? b=Ab o)->s.heap.objs.size<=h.objs.size->Aw M A (do
  let cd <-functionCode z j p name i params scope (.expr u)
  let Y <-builtinsFor Ce z.builtins
  let nm <-nsGet Ce "__name__"
  let t <-pure .none
  newObj (.type "function") (.func {name,qualname:=i,params,body:=.expr u,scope,globals:=Ce,closure:=m,defaults:=.none,kwdefaults:=.none,annotations:=Ah,pyModule:=nm.getD .none,code:=cd,closureTuple:=x,builtins:=Y,doc:=t})) Q E {s with heap:=h}:=λ x h w N=>by
  exact y x h s.toks w N (An _)
 cases m with
 |nil=>
  refine Ac (Ar ?_);exact go .none s.heap (λ _ _ e=>e) (An _)
 |cons q r=>
  refine Ac (wpAny_newTextTuple ?_);exact go (.ref s.heap.objs.size) _ (λ b o' e=>AI _ e) (by rw[CV];exact Bq _)
noncomputable abbrev gR (h:Array DictEntry)(k:Nat):Eo:={cls:=.type "dict",data:=.dict h k}
structure w7 (h:AT)(a:Ai)(m:As->Option Ae):Prop where
 obj:∃es ep,h.get? a=Ab (gR es ep)/\StrKeys es/\UniqKeys es/\∀name,Ie es name=m name
theorem w7.ln {m:As->Option Ae}(x:w7 h a m):h.Ns1 a m:=by obtain⟨k,o,e,a,b,c⟩:=x.obj;exact⟨_,k,o,e,rfl,a,b,c⟩
theorem w7.ns {m:As->Option Ae}(x:w7 h a m):h.Ns a m:=x.ln.ns
def ZY (m:As->Option Ae)(name:As)(v:Ae):As->Option Ae:=λ x=>if x=name then Ab v else m x
def tB (m:As->Option Ae)(name:As):As->Option Ae:=λ x=>if x=name then Ah else m x
variable {args:List PV}{pos:CE} in
noncomputable abbrev OU (x y:As)(h k:CE):Ea:={posonlyargs:=[],args:=[{arg:=x,annotation:=Ah,pos:=h},{arg:=y,annotation:=Ah,pos:=k}],vararg:=Ah,kwonlyargs:=[],kw_defaults:=[],kwarg:=Ah,defaults:=[]}
variable {body:List Bs}{bk:List (As×Ai)}{pos:CE}{y:As} in
structure L8 where
 name:As
 x:As
 y:As
 px:CE
 py:CE
 body:List Bs
 sc:Bg
 pos:CE
 bk:List (As×Ai)
def MY (k:AT)(f:Ai)(h:As)(s:Ae)(r:L8):Prop:=∃o w,k.get? f=Ab (Xx r.name h (OU r.x r.y r.px r.py) r.body r.sc r.bk s o w)/\Da k o h
section
def Qk:List As:=["__module__","__qualname__","__firstlineno__","__slots__","__hash__","__static_attributes__"]
end
noncomputable abbrev gv:List Ae:=((Ab #[Value.type "object"]).getD #[]).toList
noncomputable abbrev gB:List Ae:=if gv.isEmpty=Ag then[Value.type "object"] else gv
section
end
theorem YX (e:h.get? a=Ab o):o.isFreed=Av:=(Heap.get?_some_iff.mp e).2
def kG (h:Array (Option Ae))(i:Nat)(v:Option Ae):Array (Option Ae):=(h++Array.replicate (i+1-h.size) Ah).setIfInBounds i v
theorem Sl {M:Dr}{b:Unit->Aq->Prop}(h:s.heap.get? a=Ab o)(w:i<1000)
 (z:∀k,k.get? a=Ab {o with slots:=kG o.slots i v}->BM a s.heap k->b () {s with heap:=k}):Aw M A (setSlotAt a i v) b E s:=by
 unfold setSlotAt;rw[if_neg (Nat.not_le.mpr (Ao w (by rw[sizeLine_eq];decide)))];refine Ac (Ar (MZ h (z _ ?_ (BP ..))));refine B1 (λ o=>{o with slots:=(o.slots++Array.replicate (i+1-o.slots.size) Ah).setIfInBounds i v}) h ?_;have C:=YX h;obtain⟨c,d,H,N⟩:=o;cases H<;>first |rfl |exact C
theorem lD:mroOf (.type "object")=pure [.type "object"]:=by kernel_rfl
theorem Yy {M:Dr}{m:As->Option Ae}(N:h.get? a=Ab o)(O:o.data=.cls b)(w:b.mro=[.ref a,.type "object"])(W:h.Ns b.ns m)
 (C:(match m name with |some v=>pure (Ab v) |none=>Fj (.type "object") name)=pure r):FX M h (Fj (.ref a) name) r:=by
 intro A Q E s k q;rw[typeLookup_eq];refine Ac (Ac (Ac (wpAny_load (k _ _ N) ?_)));rw[O];refine Ar (Ar ?_);rw[w,lookupAlong_cons];refine Ac ?_;refine Ac (Ac (wpAny_load (k _ _ N) ?_));rw[O];refine Ar ?_;refine wpAny_nsGet (W.keeps k) ?_;cases V:m name with
 |some v=>rw[V] at C;injection C with e;subst e;exact Ar q
 |none=>
  rw[V] at C;have z:=C;rw[typeLookup_eq,lD] at z;have H:lookupAlong [.type "object"] name=pure r:=z;rw[H];exact Ar q
theorem QQ {M:Dr}(z:h.get? a=Ab o)(C:o.data=.cls c)(w:c.mro=[.ref a,.type "object"])(H:([BK a,.type "object"]:List Ae).contains b=r):FX M h (isSubtype (.ref a) b) r:=by
 intro A Q E s k q;unfold isSubtype;refine Ac (Ac (Ac (wpAny_load (k _ _ z) ?_)));rw[C];refine Ar (Ar ?_);rw[w];dsimp only;rw[if_neg (by simp),H];exact Ar q
section
noncomputable abbrev VI (h:As)(k:Nat)(a:Ai):Eo:={cls:=.type "member_descriptor",data:=.fields #[.str h k,.ref a,.builtin "proto.slot",.builtin "proto.slot#set",BS 0]}
end
section
end
noncomputable abbrev G? (a k:Ai)(name h:As):ClassData:={name:=name,bases:=gB,mro:=[.ref a,.type "object"],ns:=k,qualname:=h,hasDel:=Av}
variable {c md:Ai}{n:Nat}{g:Array CC} in
inductive ZF (h:AT)(a:Ai)(name qual sn:As)(m:As->Option Ae):Prop
 |mk (o:Eo) (ns md:Ai) (mtk:Tok) (g:h.get? a=Ab o) (c:o.cls=.type "type") (d:o.dict=Ah) (k:o.data=.cls {G? a ns name qual with hasDict:=Av,slotNames:=[sn]}) (s:(o.slots[4]?).join=Ab (.builtin "object.__new__"))
  (n:w7 h ns (ZY (ZY (tB m "__qualname__") sn (.ref md)) "__doc__" .none)) (e:h.get? md=Ab (VI sn mtk a))
section
end
section
end
variable {a:Ai} in
def La (h:Ai)(l:List Bs):List L8:=l.flatMap λ s=>if s.ctorIdx==0 then(match(Ir s).ar.args with
 |[a,b]=>[⟨(Ir s).nm,a.arg,b.arg,a.pos,b.pos,(Ir s).b 0,(Ir s).sc,(Ir s).p,if(Ir s).sc.names.lookup ("mycmp":As)==Ab .free then[("mycmp",h)] else[]⟩]
 |_=>[]) else[]
variable {n:Nat}{r:List Bs}{m:As->Option Ae} in
inductive iW (h:AT)(K:Ai)(qual slotn:As)(pm:Ae)(names:List As)(rs:List L8):Prop
 |mk (m:As->Option Ae) (k:ZF h K "K" qual slotn m) (r:∀r∈rs,∃f,m r.name=Ab (.ref f)/\MY h f ((qual++".")++r.name) pm r) (n:∀x:As,Qk.contains x=Av->x∉names->m x=Ah)
def Jn (h k:AT):Prop:=∀b o,h.get? b=Ab o->o.cls≠.type "frame"->o.cls≠.none->(∀s,o.data≠.cell s)->k.get? b=Ab o
theorem BB.al (k:BB W h H):Jn h H:=λ b o e s w _=>k.keep e s w
theorem Ls.al (S:Ls W (Ec V z) h H)(F:FI W V z Z X h O)(A:D3 z h):Jn h H:=λ b o e C d E=>S.keep b o (λ q=>by
 rcases q with rfl |⟨x,N,s⟩
 ·obtain⟨Q,f,g,k,hc,_⟩:=A;obtain rfl:=A4 e k;exact C hc
 ·obtain⟨c,i,a,⟨Q,k,w⟩,_⟩:=F.cell x (.inl N);obtain rfl:=A4 s a;obtain rfl:=A4 e k;exact E _ w) e
theorem MY.al (x:MY h f a b r)(o:Jn h H):MY H f a b r:=by
 obtain⟨w,z,A,c,C,E,t,N,O,k,s,Q⟩:=x;exact⟨w,z,o _ _ A (by simp) (by simp) (λ _ q=>by cases q),c,C,E,t,N,o _ _ O (by rw[k];simp) (by rw[k];simp) (λ _ q=>by cases s.symm.trans q),k,s,Q⟩
theorem ZF.al {m:As->Option Ae}(x:ZF h a name b c m)(k:Jn h H):ZF H a name b c m:=by
 obtain⟨o,A,C,s,E,w,N,z,O,Q,V⟩:=x;refine⟨o,A,C,s,k _ _ E (by rw[w];simp) (by rw[w];simp) (λ _ q=>by cases z.symm.trans q),w,N,z,O,?_,k _ _ V (by simp) (by simp) (λ _ q=>by cases q)⟩;obtain⟨W,Z,e,r⟩:=Q.obj;exact⟨W,Z,k _ _ e (by simp) (by simp) (λ _ q=>by cases q),r⟩
theorem iW.al {K:Ai}{g d:As}{i:Ae}{e:List As}{j:List L8}(x:iW h K g d i e j)(k:Jn h H):iW H K g d i e j:=by
 obtain⟨m,a,b,c⟩:=x;exact⟨m,a.al k,λ r o=>by obtain⟨f,s,w⟩:=b r o;exact⟨f,s,w.al k⟩,c⟩
noncomputable abbrev Db (h:FF)(L f:Ai):E9:=newEnv h.scope L h.globals h.closure (h.qualname++".<locals>.") (Ab f) h.code Ah h.builtins
structure XO (W:BV)(h:AT)(X:List Ai)(f:Ai)(fd:FF)(ps:List As)(φ:A5):Prop where
 obj:∃o,h.get? f=Ab o/\o.data=.func fd
 db:h.CodeRec fd.code fd.qualname
 bind:∀vals:List Ae,vals.length=ps.length->Tq fd ⟨vals,[]⟩=pure (ps.zip vals)
 co:fd.scope.isCoroutine=Av
 bi:fd.scope.isGenerator=Av
 kind:fd.scope.kind=.function
 bx:fd.globals=Ce
 blt:fd.builtins=Ji
 cp:∀x∈fd.scope.names,x.2≠.cell
 jj:∀x∈ps,D5 x=Ag/\fd.scope.names.lookup x=Ab .local
 nd:ps.Nodup
 gu:∀x sl,φ.lookup x=Ab sl->fd.scope.names.lookup x=Ab .free/\D5 x=Ag/\(∀d,sl≠.own d)
 free:∀x,fd.scope.names.lookup x=Ab .free->∃c ov,fd.closure.lookup x=Ab c/\h.IsCell c ov/\∀sl,φ.lookup x=Ab sl->∃v,ov=Ab v/\BU W (fd.closure.map (·.2)++X) (fd.closure.map (·.2)++X) h v sl
 inj:∀x y c,fd.closure.lookup x=Ab c->fd.closure.lookup y=Ab c->x=y
 alive:∀a∈fd.closure.map (·.2),W.h0.get? a=Ah/\∃o,h.get? a=Ab o
theorem kK {M:Dr}{h₀:AT}(f:As×Ae->PUnit->DJ (ForInStep PUnit))(t:∀n v u,f (n,v) u=(do M3 z n v;pure (.yield ⟨⟩)))(hk:z.scope.kind=.function):
 ∀(k:List (As×Ae))(m:As->Option Ae)(s:Aq)(Q:PUnit->Aq->Prop),s.heap.Ns z.locals m->D3 z s.heap->(∀b o,b≠z.locals->h₀.get? b=Ab o->s.heap.get? b=Ab o)->(∀x∈k,z.kindOf x.1=Ab .local)->
  (∀C H,C.Ns z.locals (Oi z.kindOf k m)->D3 z C->(∀b o,b≠z.locals->h₀.get? b=Ab o->C.get? b=Ab o)->s.toks<=H->Q ⟨⟩ {s with heap:=C,toks:=H})->Aw M A (forIn k ⟨⟩ f) Q E s:=by
 intro k;induction k with
 |nil=>
  intro m s Q N O w _ h;exact Ar (h s.heap s.toks N O w (An _))
 |cons j r V=>
  intro m s Q N O w l h;rw[EG,t];have p:=l (j.1,j.2) Ad;refine Ac (Ac (C5 p N (λ C W Z g=>Ar ?_) (by rw[hk];rfl)));refine V _ {s with heap:=C,toks:=s.toks+1} Q W (O.bo g) (λ b o q e=>(Z.2 b q).trans (w b o q e)) (λ y B=>l y (Af _ B)) λ i H a b c d=>h i H ?_ b c (Aa (Bq _) d);rw[Oi];rw[if_pos p];exact a
theorem WW (D:XO W s.heap X f fd g i)(G:Gd W s)(hX:∀b∈X,W.h0.get? b=Ah/\∃o,s.heap.get? b=Ab o)
 (r:MT W (fd.closure.map (·.2)++X) s.heap a args) (M:args.length=g.length) {j:E9->Aq->Prop}
 (hQ:∀k C,XB W fd.scope (Db fd s.heap.objs.size f) s.heap->s.toks<=C->XS W fd.scope (Db fd s.heap.objs.size f) s.heap (AW (Db fd s.heap.objs.size f)++X) (AW (Db fd s.heap.objs.size f)++X) {s with heap:=k,toks:=C} (g.zip args++i)->j (Db fd s.heap.objs.size f) {s with heap:=k,toks:=C}):
 Aw W.M A (F8 fd.scope fd.globals fd.closure (g.zip a) (fd.qualname++".<locals>.") (Ab f) fd.code Ah fd.builtins) j E s:=by
 simp only[F8,Option.isSome_none,Bw,if_false];refine Ac (OT ?_);rw[forIn_yield_id fd.closure (λ x S c=>by
    obtain⟨name,J⟩:=x;have:(J==Cp)=Av:=by simpa using D.cp _ S
    simp only[this,Bw,if_false])]
 refine Ac (Ar (Ac ?_));have hk:∀b o,s.heap.get? b=Ab o->(s.heap.push {cls:=.type "frame",data:=.dict #[]}).get? b=Ab o:=λ b o e=>AI _ e;have T:∀x∈g.zip a,fd.scope.names.lookup x.1=Ab .local:=λ x S=>(D.jj x.1 (R3 (vs:=a) (AH.mpr ⟨x,S,rfl⟩))).2;refine kK (z:=Db fd s.heap.objs.size f) (h₀:=s.heap) _ (λ _ _ _=>rfl) D.kind (g.zip a) (λ _=>Ah) {s with heap:=s.heap.push {cls:=.type "frame",data:=.dict #[]}} _ (Heap.Ns.new s.heap (.type "frame")) ⟨_,_,_,AD _ rfl,rfl,rfl⟩ (λ b o Q e=>hk b o e) T λ k C hn fc kp V=>Ar ?_;have w:s.heap.get? s.heap.objs.size=Ah:=Ci s.heap;have m:∀b o,s.heap.get? b=Ab o->k.get? b=Ab o:=λ b o e=>kp b o (λ q=>by rw[q] at e;have e':s.heap.get? s.heap.objs.size=Ab o:=e;exact Do w e') e;have p:BB W s.heap k:=.af m;have t:W.h0.get? s.heap.objs.size=Ah:=DE G.ao w;have U:∃o,k.get? s.heap.objs.size=Ab o:=by obtain⟨o,_,_,ho,_⟩:=hn;exact⟨o,ho⟩
 have Z:∀b,b∈AW (Db fd s.heap.objs.size f)↔b=s.heap.objs.size\/b∈fd.closure.map (·.2):=λ b=>Ak
 have Y:∀{b o},s.heap.get? b=Ab o->b≠s.heap.objs.size:=λ e q=>by rw[q,w] at e;cases e
 have B:∀b o,s.heap.get? b=Ab o->b∉fd.closure.map (·.2)++X->(o.cls=.type "list"\/o.cls=.type "tuple"\/o.cls=.type "dict")->k.get? b=Ab o/\b∉AW (Db fd s.heap.objs.size f)++X:=λ b o e n _=>⟨m b o e,λ q=>by
  rcases AL.mp q with q |q
  ·rcases(Z b).mp q with q |q
   ·exact Y e q
   ·exact n (A8 _ q)
  ·exact n (AV _ q)⟩
 have rr:MT W (AW (Db fd s.heap.objs.size f)++X) k a args:=r.bi B;have l:∀{y O},(g.zip args).lookup y=Ab O->fd.scope.names.lookup y=Ab .local:=λ H=>(D.jj _ (IS H)).2;have N:∀{y O},(g.zip args++i).lookup y=Ab O->(g.zip args).lookup y=Ab O\/i.lookup y=Ab O:=λ{y O} H=>by
  rw[Mh] at H;cases q:(g.zip args).lookup y with
  |some z=>rw[q] at H;exact .inl H
  |none=>rw[q] at H;exact .inr H
 have L:∀{y d},(g.zip args++i).lookup y≠Ab (.own d):=λ{y d} H=>by
  rcases N H with q |q
  ·exact absurd q (MT.fk rr)
  ·exact(D.gu _ _ q).2.2 d rfl
 have F:FI W fd.scope (Db fd s.heap.objs.size f) (AW (Db fd s.heap.objs.size f)++X) (AW (Db fd s.heap.objs.size f)++X) k (g.zip args++i):={
  bb:=λ b Q=>AL.mpr (.inl Q)
  zx:=λ b Q=>Q
  kind:=D.kind
  bx:=D.bx
  blt:=D.blt
  ea:=λ y h=>h
  da:=λ y h=>h
  df:=λ y h=>.inl h
  dp:=λ y h=>h
  ns:=⟨_,hn,λ y O M H=>by
   rcases N H with q |q
   ·exact(S9 _ _ rr D.nd q).1 M
   ·rw[(D.gu _ _ q).1] at M;cases M⟩
  cell:=λ y H=>by
   have I:fd.scope.names.lookup y=Ab .free:=H.resolve_left λ q=>D.cp _ (mem_of_lookup q) rfl;obtain⟨c,ov,e1,⟨oc,a0,a1⟩,e3⟩:=D.free y I;refine⟨c,ov,e1,⟨oc,m _ _ a0,a1⟩,λ O H=>?_⟩;rcases N H with q |q
   ·rw[l q] at I;cases I
   ·obtain⟨v,e4,R⟩:=e3 O q;refine⟨v,e4,?_⟩;cases O with
    |av u=>exact R
    |cg u d=>exact⟨R.1,Rp.bi B R.2⟩
    |aa d=>exact Rp.bi B R
    |own d=>exact absurd rfl ((D.gu _ _ q).2.2 d)
  inj:=D.inj
  dt:=λ y O H=>by
   rcases N H with q |q
   ·exact⟨.inl (l q),(D.jj _ (IS q)).1⟩
   ·exact⟨.inr (.inr (D.gu _ _ q).1),(D.gu _ _ q).2.1⟩
  alive:=λ b Q=>by
   rcases AL.mp Q with q |q
   ·rcases(Z b).mp q with q |q
    ·subst q;exact⟨t,U⟩
    ·exact⟨(D.alive b q).1,BL p (D.alive b q).2⟩
   ·exact⟨(hX b q).1,BL p (hX b q).2⟩
  ci:=λ y z d e h1 h2=>absurd h1 L}
 refine hQ k C ⟨G.ao,G.dl,λ b Q=>?_⟩ V ⟨F,p,Aa G.toks V,λ b Q hz=>absurd Q hz,fc⟩;rcases Q with rfl |⟨y,H,_⟩
 ·exact w
 ·exact absurd rfl (D.cp _ (mem_of_lookup H))
theorem UD {R:Ex->Aq->Prop}(D:XO W s.heap X f fd d e)(N:fd.body=.stmts c)(C:W.h0.NoLimit)(O:CY (k+1) A)(G:Gd W s)(Q:∀b∈X,W.h0.get? b=Ah/\∃o,s.heap.get? b=Ab o)
 (r:MT W (fd.closure.map (·.2)++X) s.heap a args) (H:args.length=d.length)
 (V:∀w h,XB W fd.scope (Db fd s.heap.objs.size f) s.heap->s.toks<=h->XS W fd.scope (Db fd s.heap.objs.size f) s.heap (AW (Db fd s.heap.objs.size f)++X) (AW (Db fd s.heap.objs.size f)++X) {s with heap:=w,toks:=h} (d.zip args++e)->
  Aw W.M (A.deeper (Db fd s.heap.objs.size f)) (execs c (Db fd s.heap.objs.size f)) (λ Z g=>R (.ok (.ret (match Z with | .ret v=>v |_=>.none))) g) (λ _ _=>False) {s with heap:=w,toks:=h}):
 Es W.M A (.call (.ref f) ⟨a,[]⟩) R s:=by
 obtain⟨o,i,j⟩:=D.obj;refine OE (Cw (Az (AS ..) O.depth) (by decide+kernel)) i j D.co D.bi N D.db ?_;simp only[D.bind a (r.length.trans H)];refine Ar (WW D G Q r H λ w h B E S=>⟨?_,codeAny_func ?_⟩)
 ·obtain⟨l,m,n⟩:=C;exact⟨l,Dl (G.ao.trans S.le) m,n⟩
 ·exact DK (V w h B E S) (λ _ _ z=>z) λ _ _ z=>z.elim
theorem nU {R:Ex->Aq->Prop}(D:XO W s.heap X f fd d e)(N:fd.body=.expr a)(C:W.h0.NoLimit)(O:CY (k+1) A)(G:Gd W s)(Q:∀b∈X,W.h0.get? b=Ah/\∃o,s.heap.get? b=Ab o)
 (r:MT W (fd.closure.map (·.2)++X) s.heap c args) (H:args.length=d.length)
 (V:∀w h,XB W fd.scope (Db fd s.heap.objs.size f) s.heap->s.toks<=h->XS W fd.scope (Db fd s.heap.objs.size f) s.heap (AW (Db fd s.heap.objs.size f)++X) (AW (Db fd s.heap.objs.size f)++X) {s with heap:=w,toks:=h} (d.zip args++e)->
  Aw W.M (A.deeper (Db fd s.heap.objs.size f)) (eval a (Db fd s.heap.objs.size f)) (λ v Z=>R (.ok (.ret v)) Z) (λ _ _=>False) {s with heap:=w,toks:=h}):
 Es W.M A (.call (.ref f) ⟨c,[]⟩) R s:=by
 obtain⟨o,g,i⟩:=D.obj;refine kla_callFunE (Cw (Az (AS ..) O.depth) (by decide+kernel)) g i D.co D.bi N D.db ?_;simp only[D.bind c (r.length.trans H)];refine Ar (WW D G Q r H λ w h B E S=>⟨?_,kla_codeExpr ?_⟩)
 ·obtain⟨j,l,m⟩:=C;exact⟨j,Dl (G.ao.trans S.le) l,m⟩
 ·exact DK (V w h B E S) (λ _ _ z=>z) λ _ _ z=>z.elim
open PySem.Calls Builtin.ObjectAttr Builtin.Getset_descriptor
variable {a c f:Ai}{n:Nat}{g:Array CC}{m:As->Option Ae} in
inductive w3 (h:AT)(K:Ai)(sn:As):Prop
 |mk (o:Eo) (cd:ClassData) (g:h.get? K=Ab o) (c:o.cls=.type "type") (d:o.data=.cls cd) (m:cd.mro=[.ref K,.type "object"]) (s:cd.slotNames=[sn]) (e:cd.hasDel=Av) (a:cd.abstract=Av) (f:cd.hasDict=Av) (n:(o.slots[4]?).join=Ab (.builtin "object.__new__"))
variable {v:Ae} in
structure Ku (M:Dr)(h:AT)(K md:Ai)(sn:As)(m:As->Option Ae):Prop where
 cls:w3 h K sn
 mem:∃mtk,h.get? md=Ab (VI sn mtk K)
 gx:∀(name:As) r,(match(if name=("__doc__":As) then Ab E4 else if name=sn then Ab (.ref md) else if name=("__qualname__":As) then Ah else m name) with |some v=>pure (Ab v) |none=>Fj (.type "object") name)=(pure r:DJ (Option Ae))->FX M h (Fj (.ref K) name) r
theorem ZF.ask {M:Dr}{b:As}{m:As->Option Ae}{K:Ai}{name a:As}(x:ZF h K name a b m):∃k,Ku M h K k b m:=by
 obtain⟨o,O,k,s,w,A,Q,z,C,E,H⟩:=x;exact⟨k,⟨o,_,w,A,z,rfl,rfl,rfl,rfl,rfl,C⟩,⟨s,H⟩,λ nm r N=>Yy w z rfl E.ns N⟩
section
theorem Ku.mro {a K:Ai}{M:Dr}{b:As}{m:As->Option Ae}(x:Ku M h K a b m):FX M h (mroOf (.ref K)) [.ref K,.type "object"]:=by
 obtain⟨o,z,k,A,s,w,_⟩:=x.cls;rw[<-w];refine((HI k).andThen ?_).andThen .now;rw[s];exact .now
theorem Ku.sub {a K:Ai}{M:Dr}{c:As}{m:As->Option Ae}(x:Ku M h K a c m){b:Ae}{r:Bool}(k:([BK K,.type "object"]:List Ae).contains b=r):FX M h (isSubtype (.ref K) b) r:=by
 obtain⟨o,A,s,C,w,z,_⟩:=x.cls;exact QQ s w z k
theorem Ku.slots {b K:Ai}{M:Dr}{a:As}{m:As->Option Ae}(x:Ku M h K b a m):FX M h (Slots.slotNamesOf (.ref K)) [a]:=by
 obtain⟨o,z,k,A,s,C,w,_⟩:=x.cls;rw[<-w];refine((HI k).andThen ?_).andThen .now;rw[s];exact .now
theorem lJ:Fj (.type "member_descriptor") "__get__"=pure (Ab (.builtin "member_descriptor.__get__")):=by rw[typeLookup_type,builtinLookup_eq_fast];kernel_rfl
theorem SH:Fj (.type "member_descriptor") "__set__"=pure (Ab (.builtin "member_descriptor.__set__")):=by rw[typeLookup_type,builtinLookup_eq_fast];kernel_rfl
theorem Ku.de {a K:Ai}{M:Dr}{b:As}{m:As->Option Ae}(x:Ku M h K a b m):FX M h (Md (.ref a)) (.type "member_descriptor"):=by
 obtain⟨k,e⟩:=x.mem;exact(HI e).andThen .now
theorem Ku.jg {b K:Ai}{M:Dr}{a:As}{m:As->Option Ae}(x:Ku M h K b a m)(k:a≠"__doc__"):FX M h (Fj (.ref K) a) (Ab (.ref b)):=x.gx a _ (by rw[if_neg k,if_pos rfl])
def ED (h:AT)(x K:Ai)(v:Ae):Prop:=∃k,h.get? x=Ab {cls:=.ref K,dict:=Ab k,data:=.plain,slots:= #[Ab v]}
theorem ED.al {v:Ae}{K:Ai}{x:Ai}(i:ED h x K v)(k:Jn h H):ED H x K v:=by obtain⟨o,e⟩:=i;exact⟨o,k _ _ e (by simp) (by simp) (λ _ q=>by contradiction)⟩
theorem ED.ty {M:Dr}{v:Ae}{K:Ai}{x:Ai}(i:ED h x K v):FX M h (Md (.ref x)) (.ref K):=by obtain⟨k,e⟩:=i;exact(HI e).andThen .now
end
section
theorem YH {c K:Ai}{R:Ex->Aq->Prop}{v:Ae}{g:Array CC}{e:As}{m:As->Option Ae}{os:GZ}{a:FD}{d:M8}{t:Nat}{x:Ai}{b:Ae}(X:Ku (model a w) h K c e m)(I:ED h x K v)(s:R (.ok (.ret v)) ⟨h,g,d,t,os⟩):Es (model a w) A (.call (.builtin "member_descriptor.__get__") ⟨[.ref c,.ref x,b],[]⟩) R ⟨h,g,d,t,os⟩:=by
 obtain⟨o,k⟩:=X.mem;obtain⟨z,C⟩:=id I;have E:=I.ty (M:=model a w);have H:=X.sub (b:=.ref K) (r:=Ag) (by simp);have N:=X.slots;have O:=Im (M:=model a w) k 0 (v:=.str e o) rfl;have Q:=Im (M:=model a w) k 1 (v:=.ref K) rfl;have V:=Im (M:=model a w) k 2 (v:=.builtin "proto.slot") rfl;have W:=Im (M:=model a w) k 4 (v:=BS 0) rfl;refine JC KF.slot_mem.plain KF.entry_mem (KF.slot_mem.check _ _ _ _ _ _ _ _ ⟨_,k,rfl⟩ (KF.args_mem _ _ _) ?_);unfold Builtin.«member_descriptor.__get__» descrGet;rw[dga_obj];refine Ac (Ar ?_);simp only[descrGetter,descrCheckInstance,descrNameAndClass,isInstance]
 repeat lk
 refine⟨Code.quiet_builtin _ (by decide+kernel),Gz KF.entry_slot ?_⟩;unfold Builtin.«proto.slot» Slots.target
 repeat lk
 exact s
theorem RD {e K:Ai}{v:Ae}{g:Array CC}{c:As}{m:As->Option Ae}{os:GZ}{a:FD}{d:M8}{t:Nat}{x:Ai}{b:Bool}(X:Ku (model a w) h K e c m)(I:ED h x K v)(k:c≠"__doc__")(o:m "__getattribute__"=Ah)(s:m "__getattr__"=Ah)(z:("__getattribute__":As)≠c)(C:("__getattr__":As)≠c)(N:IJ v=Ag)(O:Q v ⟨h,g,d,t+1,os⟩):
 Aw (model a w) A (getAttr (.ref x) c b) Q E ⟨h,g,d,t,os⟩:=by
 have H:=I.ty (M:=model a w);have V:FX (model a w) h (Fj (.ref K) "__getattribute__") (Ab (.builtin "object.__getattribute__")):=X.gx _ _ (by rw[if_neg (by decide+kernel),if_neg z,if_neg (by decide+kernel),o];kernel_rfl);have W:FX (model a w) h (Fj (.ref K) "__getattr__") Ah:=X.gx _ _ (by rw[if_neg (by decide+kernel),if_neg C,if_neg (by decide+kernel),s];kernel_rfl);have Z:FX (model a w) h (takesStores (.ref e)) Ag:=(X.de.andThen (Fu SH)).andThen .now;have f:FX (model a w) h (find (.ref x) (.ref K) c) (.bind (.builtin "member_descriptor.__get__") (.ref e)):=(X.jg k).andThen ((X.de.andThen (Fu lJ)).andThen ((show FX (model a w) h (dataDescriptor? (Ab (.ref e)) (Ab (.builtin "member_descriptor.__get__"))) (Ab (.builtin "member_descriptor.__get__",.ref e)) from Z.andThen .now).andThen (Looks.tag .now)));refine Ac (wpAny_mkText (Bt (Ac (H.at (Ac (V.at ?_))))));refine Ac (wpAny_onRaise (wpAny_runValue (Gz F.plainObj_entry_getattr_hooked ?_)));refine Ac (Ar (Ac (H.at (Ac (f.at (Ac (W.at ?_)))))));refine Ac (Bt (Ic (YH X I (Ar ?_))));show Aw _ _ (handedOut v) _ _ _;rw[handedOut_of N];exact Ar O
end
section
noncomputable abbrev RF (K h:Ai)(k:Array (Option Ae)):Eo:={cls:=.ref K,dict:=Ab h,data:=.plain,slots:=k}
theorem YG {b K:Ai}{R:Ex->Aq->Prop}{v:Ae}{g:Array CC}{e:As}{m:As->Option Ae}{os:GZ}{a:FD}{d:M8}{t:Nat}{x c:Ai}(X:Ku (model a w) h K b e m)(C:h.get? x=Ab (RF K c #[]))(E:∀o,o.get? x=Ab (RF K c #[Ab v])->BM x h o->R (.ok (.ret .none)) ⟨o,g,d,t,os⟩):
 Es (model a w) A (.call (.builtin "member_descriptor.__set__") ⟨[.ref b,.ref x,v],[]⟩) R ⟨h,g,d,t,os⟩:=by
 obtain⟨s,k⟩:=X.mem;have N:FX (model a w) h (Md (.ref x)) (.ref K):=(HI C).andThen .now;have O:=X.sub (b:=.ref K) (r:=Ag) (by simp);have Q:=X.slots;have V:=Im (M:=model a w) k 0 (v:=.str e s) rfl;have W:=Im (M:=model a w) k 1 (v:=.ref K) rfl;have Z:=Im (M:=model a w) k 3 (v:=.builtin "proto.slot#set") rfl;have f:=Im (M:=model a w) k 4 (v:=BS 0) rfl;refine JC KF.slot_mset.plain KF.entry_mset (KF.slot_mset.check _ _ _ _ _ _ _ _ ⟨_,k,rfl⟩ (KF.args_mset _ _ _) ?_);unfold Builtin.«member_descriptor.__set__» descrSet descrStoreThrough descrCheckInstance descrNameAndClass isInstance;have i:FX (model a w) h (descrItself (.ref b)) [.ref b]:=((HI k).andThen .now).andThen (Fu (by kernel_rfl))
 repeat lk
 refine⟨Code.quiet_builtin _ (by decide+kernel),Gz KF.entry_slotset ?_⟩;unfold Builtin.«proto.slot#set» Slots.target
 repeat lk
 refine Sl C (DQ _) λ o z H=>?_;exact Ar (E o z H)
theorem YK {c K:Ai}{v:Ae}{g:Array CC}{b:As}{m:As->Option Ae}{os:GZ}{a:FD}{d:M8}{t:Nat}{x e:Ai}{f:Unit->Aq->Prop}(X:Ku (model a w) h K c b m)(O:h.get? x=Ab (RF K e #[]))(z:b≠"__doc__")(C:m "__setattr__"=Ah)(H:("__setattr__":As)≠b)
 (V:∀o Q,o.get? x=Ab (RF K e #[Ab v])->BM x h o->t<=Q->f () ⟨o,g,d,Q,os⟩):Aw (model a w) A (setAttr (.ref x) b v) f E ⟨h,g,d,t,os⟩:=by
 have k:=PySem.F.store_object;have s:FX (model a w) h (Md (.ref x)) (.ref K):=(HI O).andThen .now;have W:FX (model a w) h (Fj (.ref K) "__setattr__") (Ab (.builtin "object.__setattr__")):=X.gx _ _ (by rw[if_neg (by decide+kernel),if_neg H,if_neg (by decide+kernel),C];exact k.slot.lookup);have Z:=X.jg z;have i:FX (model a w) h (storeTaker? (Ab (.ref c))) (Ab (.ref c)):=((X.de.andThen (Fu SH)).andThen .now:FX (model a w) h (takesStores (.ref c)) Ag).andThen .now;have j:=X.mro;unfold setAttr callSpecial? specialOf;refine Ac (wpAny_mkText ?_);refine Ac (Ac (Ac (s.at (W.at (Bt ?_)))));refine Ac (Ar ?_);show Aw _ _ (call (.builtin "object.__setattr__") [.ref x,.str b t,v] >>=_) _ _ _;refine Ac (Ic (JC k.slot.plain k.entry (@check_slot (model a w) _ _ _ "object.__setattr__" "object" "__setattr__" (.ref x) [.str b _,v] [] _ k.kind k.split (s.andThen (X.sub (by rfl))) (k.args (.ref x) (.str b _) v) ?_)));simp only[osa_eq,refuse_eq];refine Ac (Ac (s.at (Ac (j.at ?_))));refine Ar (Ac (s.at (Ac (Z.at (Ac (i.at ?_))))));refine Ac (NP (Ac (Bt (Ac (Ac (X.de.at ((Fu SH).at (Bt ?_))))))));refine Ac (Ar (Ac (Ic (YG X O λ o N l=>?_))))
 repeat lk
 exact V o _ N l (Bq _)
end
theorem Ku.ip {a:Ai}{M:Dr}{b:As}{m:As->Option Ae}{K:Ai}(X:Ku M h K a b m):Makes M h K:=by
 obtain⟨o,H,z,N,O,V,e,W,Z,f,c⟩:=X.cls;obtain⟨g,i,j,l⟩:=o;subst N;subst O;have C:=X.mro;have w:FX M h (Bind.madeBy (.ref K)) (Ab "object.__new__"):=by
  intro A Q E s k q;unfold Bind.madeBy;refine Ac (C A _ E s k ?_);rw[EG];refine Ac (Ac (Ac (Ac (Ac (wpAny_loadPart (k _ _ z) (Ar ?_))))));rw[c];exact Ar (Ar (Ar (Ar q)))
 refine⟨⟨_,_,H,_,z,Z,W,by rw[V];rfl⟩,w,?_,X.sub (by simp),X.sub (by rfl),?_,?_⟩
 ·intro A Q E s k q;refine Ac (C A _ E s k ?_);rw[EG];exact Ac (Ac (Ac (w A _ E s k (Ar (Ar (Ar q))))))
 ·have d:FX M h (Md (.ref K)) (.type "type"):=(HI z).andThen .now;exact d.andThen (Fu (by kernel_rfl))
 ·exact((HI z).andThen .now).andThen (Fu (by kernel_rfl))
theorem Yw {c:Ai}{R:Ex->Aq->Prop}{a:List Ae}{m:As->Option Ae}{K:Ai}{b:Ai}(X:Ku W.M s.heap K c "obj" m)(k:m "__init__"=Ab (.ref b))(w:∃o,s.heap.get? b=Ab o/\o.cls=.type "function")
 (z:Es W.M (A.under (.builtin "type.__call__" ⟨.ref K::a,[]⟩)) (.call (.ref b) ⟨.ref (s.heap.objs.size+1)::a,[]⟩) (InitBack (s.heap.objs.size+1) R) {s with heap:=(s.heap.push M5).push (instObj K s.heap.objs.size)}):
 Es W.M A (.call (.ref K) ⟨a,[]⟩) R s:=by
 obtain⟨o,C,hc⟩:=w;refine make_core X.ip (X.gx "__init__" _ (by rw[if_neg (by decide+kernel),if_neg (by decide+kernel),if_neg (by decide+kernel),k])) (λ h=>?_) (.inl rfl) z;have E:FX W.M s.1 (Md (.ref b)) (.type "function"):=by rw[<-hc];exact(HI C).andThen .now
 exact E.andThen (Fu (by kernel_rfl))
theorem U8 (K:Ai)(h:List Ae):(QD "type.__call__" ⟨.ref K::h,[]⟩).weight=1:=rfl
theorem XW (K:Ai)(h:List Ae):(QD "type.__call__" ⟨.ref K::h,[]⟩).cUnits=1:=rfl
theorem CY.new (o:CY (k+1) A)(K:Ai)(h:List Ae):CY k (A.under (.builtin "type.__call__" ⟨.ref K::h,[]⟩)) where
 handled:=o.handled
 depth:=by show A.depth+(QD "type.__call__" ⟨.ref K::h,[]⟩).weight+_<_;rw[U8];exact TW o.depth (by decide)
 units:=by show A.units+(QD "type.__call__" ⟨.ref K::h,[]⟩).cUnits+_<_;rw[XW];exact TW o.units (by decide)
structure UU (r:L8):Prop where
 co:r.sc.isCoroutine=Av
 bi:r.sc.isGenerator=Av
 kind:r.sc.kind=.function
 cp:∀x∈r.sc.names,x.2≠.cell
 jj:∀x∈[r.x,r.y],D5 x=Ag/\r.sc.names.lookup x=Ab .local
 nd:[r.x,r.y].Nodup
 mz:∀(qual:As)(bk:List (As×Ai))(pm cd ct a b:Ae),Tq (Wf r.name qual (OU r.x r.y r.px r.py) r.body r.sc bk pm cd ct) ⟨[a,b],[]⟩=pure [(r.x,a),(r.y,b)]
theorem UU.k7 (T:UU r)(x:MY h f e g r)
 (z:∀x k,φ.lookup x=Ab k->r.sc.names.lookup x=Ab .free/\D5 x=Ag/\(∀d,k≠.own d))
 (s:∀x,r.sc.names.lookup x=Ab .free->∃c C,r.bk.lookup x=Ab c/\h.IsCell c C/\∀k,φ.lookup x=Ab k->∃v,C=Ab v/\BU W (r.bk.map (·.2)++X) (r.bk.map (·.2)++X) h v k)
 (A:∀x y c,r.bk.lookup x=Ab c->r.bk.lookup y=Ab c->x=y) (alive:∀a∈r.bk.map (·.2),W.h0.get? a=Ah/\∃o,h.get? a=Ab o):
 ∃w,w.body=.stmts r.body/\w.scope=r.sc/\w.closure=r.bk/\XO W h X f w [r.x,r.y] φ:=by
 obtain⟨H,N,O,hc⟩:=x;refine⟨_,rfl,rfl,rfl,⟨_,O,rfl⟩,hc.db,λ E Q=>?_,T.co,T.bi,T.kind,rfl,rfl,T.cp,T.jj,T.nd,z,s,A,alive⟩;obtain⟨a,b,rfl⟩:=Nr Q;exact T.mz e r.bk g H N a b
section
def tW (h:List As):Prop:=("__getattribute__":As)∉h/\("__getattr__":As)∉h/\("__setattr__":As)∉h
theorem lG {v l:Ae}{n p u I:CE}{K:Ai}{i:As}{f:List As}{j:List L8}(KK:iW s.heap K i "obj" l f j)(U:tW f){r:L8}(hr:r∈j)(hn:r.name="__init__")(T:UU r)(h:r.bk=[])(w:∀x,r.sc.names.lookup x≠Ab .free)
 (hb:r.body=[.Assign [.Attribute (.Name r.x n) "obj" p] (.Name r.y u) I]) (Y:r.x≠r.y) (hA:CY (k+2) A) (G:Gd W s) (H:W.h0.NoLimit)
 (hQ:∀h' tk x,BB W s.heap h'->s.toks<=tk->s.heap.get? x=Ah->ED h' x K v->Q (.ref x) {s with heap:=h',toks:=tk}):
 Aw W.M A (call (.ref K) [v]) Q E s:=by
 obtain⟨m,kc,a0,N⟩:=KK;obtain⟨md,X⟩:=kc.ask;obtain⟨fI,O,im⟩:=a0 r hr;rw[hn] at O;have a1:∃o,s.heap.get? fI=Ab o/\o.cls=.type "function":=by obtain⟨cd,ct,ho,_⟩:=im;exact⟨_,ho,rfl⟩
 refine Ic (Yw X O a1 ?_);have kp:∀b o,s.heap.get? b=Ab o->((s.heap.push M5).push (instObj K s.heap.objs.size)).get? b=Ab o:=λ b o e=>AI _ (AI _ e);have z:BB W s.heap ((s.heap.push M5).push (instObj K s.heap.objs.size)):=.af kp;have kk:Jn s.heap ((s.heap.push M5).push (instObj K s.heap.objs.size)):=λ b o e _ _ _=>kp b o e;have hx:((s.heap.push M5).push (instObj K s.heap.objs.size)).get? (s.heap.objs.size+1)=Ab (RF K s.heap.objs.size #[]):=by
  refine Eq.trans (congrArg _ (show s.heap.objs.size+1=(s.heap.push M5).objs.size from(CV _ _).symm)) ?_;exact AD _ rfl
 have V:s.heap.get? (s.heap.objs.size+1)=Ah:=by
  cases e:s.heap.get? (s.heap.objs.size+1) with
  |none=>rfl
  |some o=>exact absurd (AU e) (B7.mpr (Bq _))
 obtain⟨fd,b1,b2,b3,D⟩:=T.k7 (X:=[]) (φ:=[]) (im.al kk) (λ x sl q=>by contradiction) (λ x q=>absurd q (w x)) (λ x y c q=>by(first |exact Do h q |obtain rfl:=A4 h q |cases h.symm.trans q |(rw[h] at q;contradiction))) (λ a q=>by(first |exact Do h q |obtain rfl:=A4 h q |cases h.symm.trans q |(replace q:=(h)▸q;contradiction)));have G':Gd W {s with heap:=(s.heap.push M5).push (instObj K s.heap.objs.size)}:=⟨G.ao.trans z,z.2 G.dl,G.toks⟩;have a4:fd.closure=[]:=by rw[b3,h]
 refine UD D b1 H (hA.new K [v]) G' (λ b q=>by contradiction) (.av (.av .nil)) rfl λ Z a2 B J S=>?_;rw[hb];refine Ay (plainObj_wpAny_Assign_Attribute (FI.av S.F (v:=v) ?_ (FI.av S.F (v:=.ref (s.heap.objs.size+1)) ?_ ?_)))
 ·rw[AK Y.symm,AF]
 ·exact AF
 have L:Z.get? (s.heap.objs.size+1)=Ab (RF K s.heap.objs.size #[]):=S.le.keep hx (by simp) (by simp);obtain⟨a5,X'⟩:=((kc.al kk).al S.le.al).ask (M:=W.M);obtain⟨hh,g,d,t,os⟩:=s;refine YK X' L (by decide+kernel) (N _ (by decide+kernel) U.2.2) (by decide+kernel) λ M C a3 sb R=>?_;refine BN ⟨rfl,?_⟩;refine hQ M C _ ?_ (Aa J R) V ⟨_,a3⟩;exact(z.trans S.le).az V (λ o vs e q=>by obtain rfl:=A4 L e;contradiction) sb
end
section
theorem J9 {y:As}{a:Type}{x:As}{v:a}:C9 y [(x,v)]=if y=x then Ab v else Ah:=by
 by_cases h:y=x
 ·subst h;rw[if_pos rfl,AF]
 ·rw[if_neg h,AK h];rfl
def MB (w:BV)(z:Nat)(k:AT)(f:Ai)(c:Ae->Ae->Option Int):Prop:=
 (∃C,∀h,BB w k h->∃o,h.get? f=Ab o/\o.data=.func C)/\
 ∀A s u v n,CY z A->BB w k s.heap->Gd w s->c u v=Ab n->Dq w A (call (.ref f) [u,v]) s (λ r _=>∃t,r=.int n t)
theorem MB.ae {c:Ae->Ae->Option Int}(x:MB W k g f c)(o:BB W g d):MB W k d f c:=
 ⟨by obtain⟨w,e⟩:=x.1;exact⟨w,λ h z=>e h (o.trans z)⟩,λ A s u v n a b=>x.2 A s u v n a (o.trans b)⟩
theorem O2 {y:As}{a:Type}{x:As}{v u:a}(h:C9 y [(x,v)]=Ab u):y=x/\u=v:=by
 rw[J9] at h;by_cases q:y=x
 ·rw[if_pos q] at h;exact⟨q,(AN h).symm⟩
 ·rw[if_neg q] at h;cases h
theorem cL {f K:Ai}{kk:Nat}{v l:Ae}{Y J L M R p6 p7:CE}{m:As->Option Ae}{U:CmpOp}{g:As}{e:List As}{p:List L8}(KK:iW s.heap K g "obj" l e p)(a1:tW e){r:L8}(hr:r∈p)(T:UU r){j:Ai}(C:r.bk=[(("mycmp":As),j)])(V:r.sc.names.lookup ("mycmp":As)=Ab .free)(N:∀x,r.sc.names.lookup x=Ab .free->x="mycmp")
 {t I:CE} (hb:r.body=[.Return (Ab (.Compare (.Call (.Name "mycmp" Y) [.Attribute (.Name r.x J) "obj" L,.Attribute (.Name r.y M) "obj" R] [] p6) [U] [.Constant (.int 0) kk p7] t)) I]) (b7:r.x≠r.y)
 (b8:r.x≠"mycmp") (b9:r.y≠"mycmp") (hA:CY (k+2) A) (G:Gd W s) (a2:W.h0.NoLimit) {i:Ai} (a3:s.heap.IsCell j (Ab (.ref i))) (c0:W.h0.get? j=Ah) {c:Ae->Ae->Option Int} (hf:MB W k s.heap i c)
 {x y:Ai} {u:Ae} {n:Int} {b:Bool} (ix:ED s.heap x K u) (iy:ED s.heap y K v) (hu:IJ u=Ag) (hv:IJ v=Ag) (hn:c u v=Ab n) (c1:I9 U (.int n) (.int 0)=Ab b) (d3:m r.name=Ab (.ref f)) (c2:MY s.heap f ((g++".")++r.name) l r):
 Dq W A (call (.ref f) [.ref x,.ref y]) s (λ v _=>v=.bool b):=λ Q E hQ=>by
 have c3:∃o,s.heap.get? j=Ab o:=by obtain⟨o,ho,_⟩:=a3;exact⟨o,ho⟩
 obtain⟨fd,b1,b2,b3,D⟩:=T.k7 (W:=W) (X:=[]) (φ:=[(("mycmp":As),.av (.ref i))]) c2 (λ z sl q=>by
  obtain⟨rfl,rfl⟩:=O2 q;exact⟨V,by decide+kernel,λ d q=>nomatch q⟩) (λ z q=>by
  obtain rfl:=N z q;exact⟨j,Ab (.ref i),by rw[C];exact AF,a3,λ sl q=>(O2 q).2▸⟨_,rfl,rfl⟩⟩) (λ a b d q1 q2=>by
  rw[C] at q1 q2;exact(O2 q1).1.trans (O2 q2).1.symm) (λ a q=>by
  rw[C] at q;obtain rfl:=Cf.mp q;exact⟨c0,c3⟩)
 refine Ic (UD D b1 a2 hA G (λ b q=>by cases q) (.av (.av .nil)) rfl λ h w B a4 S=>?_);rw[hb];have ly:([r.x,r.y].zip [Dt.av (.ref x),Dt.av (.ref y)]++[(("mycmp":As),Dt.av (.ref i))]).lookup r.y=Ab (.av (.ref y)):=by
  show C9 r.y [(r.x,_),(r.y,_),_]=_;rw[AK b7.symm,AF]
 have lm:([r.x,r.y].zip [Dt.av (.ref x),Dt.av (.ref y)]++[(("mycmp":As),Dt.av (.ref i))]).lookup ("mycmp":As)=Ab (.av (.ref i)):=by
  show C9 _ [(r.x,_),(r.y,_),_]=_;rw[AK b8.symm,AK b9.symm,AF]
 have a5:CY (k+1) (A.deeper (Db fd s.heap.objs.size f)):=hA.down _;have c4:(A.deeper (Db fd s.heap.objs.size f)).units<9000:=a5.u (b:=0) (An _);have K1:iW h K g "obj" l e p:=KK.al S.le.al;obtain⟨m1,kc,_,O⟩:=K1;obtain⟨md,Xk⟩:=kc.ask (M:=W.M);have c5:=ix.al S.le.al;have c6:=iy.al S.le.al;have a6:m1 "__getattribute__"=Ah:=O _ (by decide+kernel) a1.1;have a7:m1 "__getattr__"=Ah:=O _ (by decide+kernel) a1.2.1;obtain⟨⟨c7,c8⟩,Z⟩:=hf.ae S.le;refine Ay (EP (wpAny_Compare1 (B4 (FI.av S.F lm ?_)) (by rfl)));refine Dm (es:=[.Attribute (.Name r.x J) "obj" L,.Attribute (.Name r.y M) "obj" R]) rfl ?_;obtain⟨om,c9,d0⟩:=c8 h (.refl _);refine Cj (o:=om) (fd:=c7) (Bf (AE (Attribute_name (FI.av S.F AF (RD Xk c5 (by decide+kernel) a6 a7 (by decide+kernel) (by decide+kernel) hu ?_)))));refine AE (Attribute_name (FI.av (s:={s with heap:=h,toks:=w+1}) S.F ly (RD Xk c6 (by decide+kernel) a6 a7 (by decide+kernel) (by decide+kernel) hv (A6 ⟨⟨c9,d0⟩,?_⟩))));have G1:Gd W {s with heap:=h,toks:=w+1+1}:=⟨B.ao.trans S.le,S.le.2 B.dl,Aa S.tk (BD (Bq _))⟩;refine Z _ {s with heap:=h,toks:=w+1+1} u v n (a5.ai (Bq _)) (.refl _) G1 hn _ _ λ rv a8 H a9 b0 d1=>?_;obtain⟨t',rfl⟩:=d1;refine wpAny_Constant_int ?_;have:=Dq.of (W:=W) (s:={s with heap:=a8,toks:=H+1}) (P:=λ v h'=>v=.bool b) λ Q E hQ=>HA (X:=[]) c4 (.int n t') (.inl (.int 0 H)) c1 λ tk=>hQ _ _ tk (.refl _) rfl;refine this _ _ λ v3 b4 a0 b5 b6 d2=>?_;subst d2;exact hQ _ b4 a0 (S.le.trans (a9.trans b5)) (Aa a4 (Aa (BD (Bq _)) (Aa b0 (Aa (Bq _) b6)))) rfl
end
variable {body:List Bs}{fr:List Nat} in
structure o5 (r:L8)(cc:Ai)(op:CmpOp):Prop where
 ms:UU r
 mn:r.bk=[(("mycmp":As),cc)]
 fr:r.sc.names.lookup ("mycmp":As)=Ab .free
 fr':∀x,r.sc.names.lookup x=Ab .free->x="mycmp"
 ne:r.x≠r.y/\r.x≠"mycmp"/\r.y≠"mycmp"
 body:∃p1 p2 p3 p4 p5 p6 p7 p8 p9,∃kk:Nat,r.body=[.Return (Ab (.Compare (.Call (.Name "mycmp" p1) [.Attribute (.Name r.x p2) "obj" p3,.Attribute (.Name r.y p4) "obj" p5] [] p6) [op] [.Constant (.int 0) kk p7] p8)) p9]
structure XM (cb:List Bs)(names:List As):Prop where
 abs:tW names
 lq:∀cc,∃r∈La cc cb,r.name="__init__"/\UU r/\r.bk=[]/\(∀x,r.sc.names.lookup x≠Ab .free)/\r.x≠r.y/\∃p1 p2 p3 p4,r.body=[.Assign [.Attribute (.Name r.x p1) "obj" p2] (.Name r.y p3) p4]
 lt:∀cc,∃r∈La cc cb,r.name="__lt__"/\o5 r cc .Lt
 gt:∀cc,∃r∈La cc cb,r.name="__gt__"/\o5 r cc .Gt
variable {i kk:Nat}{st:Bs} in
inductive XN (h:AT)(K cc fm:Ai):Prop
 |mk (cb:_) (qual:_) (pm:_) (names:_) (st:XM cb names) (kk:iW h K qual "obj" pm names (La cc cb)) (i:h.IsCell cc (Ab (.ref fm)))
variable {f:Ai}{i kk:Nat}{st:Bs} in
inductive ET (W:BV)(k:Nat)(h:AT)(K:Ai)(c:Ae->Ae->Option Int):Prop
 |mk (cb:_) (qual:_) (pm:_) (names:_) (cc fm:Ai) (st:XM cb names) (kk:iW h K qual "obj" pm names (La cc cb)) (i:h.IsCell cc (Ab (.ref fm))) (c0:W.h0.get? cc=Ah) (f:MB W k h fm c)
section
theorem ET.ae {K:Ai}{c:Ae->Ae->Option Int}(L:ET W k h K c)(w:BB W h H):ET W k H K c:=
 by obtain⟨z,s,A,o,C,E,a,b,d,e,f⟩:=L;exact⟨z,s,A,o,C,E,a,b.al w.al,G4 w d,e,f.ae w⟩
theorem XN.cz {K:Ai}{c:Ae->Ae->Option Int}{a b:Ai}(x:XN h K a b)(w:W.h0.get? a=Ah)(f:MB W k h b c):ET W k h K c:=by
 obtain⟨z,s,A,o,st,C,i⟩:=x;exact⟨z,s,A,o,a,b,st,C,i,w,f⟩
theorem ET.iq {K:Ai}{c:Ae->Ae->Option Int}(L:ET W k s.heap K c)(N:CY (k+2) A)(G:Gd W s)(h:W.h0.NoLimit)(v:Ae):Dq W A (call (.ref K) [v]) s (λ r o=>∃x,r=.ref x/\s.heap.get? x=Ah/\ED o x K v):=λ Q E O=>by
 obtain⟨j,C,m,w,V,n,st,Z,_⟩:=L;obtain⟨r,a,b,T,hc,d,z,p,q,t,u,e⟩:=st.lq V;exact lG Z st.abs a b T hc d e z N G h λ o f x H l g i=>O _ o f H l ⟨x,rfl,g,i⟩
theorem ET.ty {K:Ai}{c:Ae->Ae->Option Int}(L:ET W k h K c):∃m o,Ku W.M h K o "obj" m:=by
 obtain⟨C,w,E,s,H,N,st,z,_⟩:=L;obtain⟨m,A,_⟩:=z;obtain⟨o,X⟩:=A.ask;exact⟨m,o,X⟩
theorem oH {M:Dr}{a:Option Ae->Aq->Prop}(w:FX M s.heap (Md (.ref x)) c)(z:FX M s.heap (Fj c name) (Ab (.ref f)))(C:FX M s.heap (Md (.ref f)) (.type "function"))
 (H:Aw M A (call (.ref f) [.ref x,b]) (λ v=>a (Ab v)) E s):Aw M A (QF (.ref x) name [b]) a E s:=by
 have o:FX M s.heap (bindSpecial (.ref f) (.ref x)) (.ref f,[.ref x]):=by
  unfold bindSpecial;exact C.andThen (Fu (by kernel_rfl))
 simp only[QF,bindSpecialIfBound?];refine Bt (Ac (Ac (Ac (w.here (z.here ?_)))));refine Ac (wpAny_askSetting (KD ?_));have h:Aw M A (call (.ref f) ([.ref x]++[b]) >>=λ v=>pure (Ab v)) a E s:=Ac (DK H (λ v N k=>Ar k) λ _ _ k=>k);split
 ·exact Ac (o.here (Ar (by exact h)))
 ·exact wpAny_tryCatch (Ac (o.here (Ar (by exact h))))
theorem ET.bw {v:Ae}{d:CmpOp}{K:Ai}{c:Ae->Ae->Option Int}(L:ET W k s.heap K c){name:As}(z:∀V h,XM V h->∀Z,∃r∈La Z V,r.name=name/\o5 r Z d)(o:name≠"__doc__"/\name≠"obj"/\name≠"__qualname__")(M:CY (k+2) A)(G:Gd W s)(C:W.h0.NoLimit){x y:Ai}{u:Ae}{n:Int}{b:Bool}
 (B:ED s.heap x K u) (R:ED s.heap y K v) (S:IJ u=Ag) (U:IJ v=Ag) (Y:c u v=Ab n) (j:I9 d (.int n) (.int 0)=Ab b) {a:Option Ae->Aq->Prop}
 (hQ:∀g i,BB W s.heap g->s.toks<=i->a (Ab (.bool b)) {s with heap:=g,toks:=i}):Aw W.M A (QF (.ref x) name [.ref y]) a E s:=by
 obtain⟨V,D,pm,h,Z,fm,st,I,w,p,hf⟩:=L;obtain⟨r,J,q,T⟩:=z V h st Z;obtain⟨p1,p2,p3,p4,p5,p6,p7,p8,p9,kn,hb⟩:=T.body;obtain⟨m,kc,t,_⟩:=id I;obtain⟨md,X⟩:=kc.ask;obtain⟨f,N,O⟩:=t r J;have Q:=N;rw[q] at Q;have L3:FX W.M s.heap (Md (.ref f)) (.type "function"):=by obtain⟨cd,ct,ho,_⟩:=O;exact(HI ho).andThen .now
 refine oH B.ty (X.gx name _ (by rw[if_neg o.1,if_neg o.2.1,if_neg o.2.2,Q])) L3 (cL I st.abs J T.ms T.mn T.fr T.fr' hb T.ne.1 T.ne.2.1 T.ne.2.2 M G C w p hf B R S U Y j N O _ _ λ r' g i H l e=>?_);subst e;exact hQ g i H l
theorem ET.lt {v:Ae}{K:Ai}{c:Ae->Ae->Option Int}(L:ET W k s.heap K c)(w:CY (k+2) A)(G:Gd W s)(h:W.h0.NoLimit){x y:Ai}{u:Ae}{n:Int}
 (z:ED s.heap x K u) (C:ED s.heap y K v) (N:IJ u=Ag) (O:IJ v=Ag) (V:c u v=Ab n):Dq W A (keyLt' oneType' (.ref x) (.ref y)) s (λ b _=>b=decide (n<0)):=λ Q E Z=>by
 rw[keyLt'_oneType,oneLt'_eq];dsimp only[if_true];refine Ac (wpAny_cRoomFor (w.u (b:=0) (AO rfl)) ?_);refine Ac (L.bw (λ f o st a=>st.lt a) ⟨by decide+kernel,by decide+kernel,by decide+kernel⟩ w G h z C N O V (by rfl) λ d e H l=>?_);exact CB (Z _ d e H l rfl)
theorem ET.gt {v:Ae}{K:Ai}{c:Ae->Ae->Option Int}(L:ET W k s.heap K c)(w:CY (k+2) A)(G:Gd W s)(h:W.h0.NoLimit){x y:Ai}{u:Ae}{n:Int}
 (z:ED s.heap x K u) (C:ED s.heap y K v) (N:IJ u=Ag) (O:IJ v=Ag) (V:c u v=Ab n):Dq W A (EQ .Gt (.ref x) (.ref y)) s (λ r _=>r=.bool (decide (n>0))):=λ Q E Z=>by
 show Aw W.M A (richCompare .Gt (.ref x) (.ref y)) Q E s;unfold richCompare;simp only[oneThing_ref];refine Bt (Ac (wpAny_cRoomFor (w.u (b:=0) (by decide)) ?_));refine Ac (z.ty.here (Ac (C.ty.here ?_)));rw[if_neg (by simp)];refine Ac (Ar ?_);simp only[Bw,if_false];refine Ac ?_;unfold tryCompare;refine Ac (L.bw (λ e o st a=>st.gt a) ⟨by decide+kernel,by decide+kernel,by decide+kernel⟩ w G h z C N O V (by rfl) λ b d H l=>?_);exact Ar (Ar (Z _ b d H l rfl))
end
def RX (i j:Nat)(h st:List Nat):List Nat×List Nat:=
 let k:=h.getD j 0
 let o:=st.getD j 0
 (h.map λ r=>if r.testBit i then r|||k else r,Jw (λ r q=>q|||((if q.testBit i then k else 0)|||(if r.testBit i then o else 0))) h st)
def RY (i j:Nat)(h st:List Nat):List Nat×List Nat:=
 let k:=h.getD j 0
 (h.map λ r=>if r.testBit i then r|||k else r,Jw (λ r q=>q|||(if r.testBit i then k else 0)) h st)
variable {a:Ai}{r:List Bs} in
def Su (h st:List Nat):List Nat->Bool
 |[]=>Ag
 |a::r=>r.all (λ b=>(st.getD a 0).testBit b||((h.getD a 0).testBit b&&decide (a<b)))&&Su h st r
variable {i j:Nat}{p:Evs}{st:Bs} in
def uH (n:Nat):KasT (Array Nat)->List Nat->List Nat->Bool
 | .ret p,h,st=>(p.toList.length==n)&&(Ap n).all (λ x=>p.toList.contains x)&&Su h st p.toList
 | .ask i j k,h,st=>decide (i<n)&&decide (j<n)&&
   (if(st.getD i 0).testBit j then uH n (k Ag) h st else if(h.getD j 0).testBit i then uH n (k Av) h st
    else uH n (k Ag) (RY i j h st).1 (RY i j h st).2&&uH n (k Av) (RX j i h st).1 (RX j i h st).2)
def zT (n:Nat):Bool:=uH n (kas_sort n) ((Ap n).map λ i=>2^i) ((Ap n).map λ _=>0)
theorem n7:∀n,n<7->2<=n->zT n=Ag:=by decide+kernel
structure KN (n:Nat)(lt:Nat->Nat->Bool):Prop where
 jh:∀i j,i<n->j<n->lt i j=Ag->lt j i=Av
 trans:∀i j l,i<n->j<n->l<n->lt j i=Av->lt l j=Av->lt l i=Av
structure QC (n:Nat)(lt:Nat->Nat->Bool)(le st:List Nat):Prop where
 w:∀x y,x<n->(le.getD x 0).testBit y=Ag->y<n/\lt y x=Av
 s:∀x y,x<n->(st.getD x 0).testBit y=Ag->y<n/\lt x y=Ag
 ll:le.length=n
 ls:st.length=n
section
theorem KN.sw {c:Nat->Nat->Bool}(k:KN n c)(o:i<n)(s:j<n)(w:l<n)(a:c i j=Ag)(b:c l j=Av):c i l=Ag:=by
 cases h:c i l with
 |true=>rfl
 |false=>have:=k.trans j l i s w o b h;cases a.symm.trans this
theorem KN.ws {c:Nat->Nat->Bool}(k:KN n c)(o:i<n)(s:j<n)(w:l<n)(a:c j i=Av)(b:c j l=Ag):c i l=Ag:=by
 cases h:c i l with
 |true=>rfl
 |false=>have:=k.trans l i j w o s h a;cases b.symm.trans this
theorem lM {a:List Nat}{f:Nat->Nat}(x:Nat)(h:x<a.length):(a.map f).getD x 0=f (a.getD x 0):=by
 simp[Am,h]
theorem WB {a st:List Nat}{f:Nat->Nat->Nat}(x:Nat)(h:x<a.length)(k:x<st.length):(Jw f a st).getD x 0=f (a.getD x 0) (st.getD x 0):=by
 simp[Am,h,k,List.getElem?_zipWith]
theorem QC.kq {i j n:Nat}{a:Nat->Nat->Bool}{le st:List Nat}(o:KN n a)(F:QC n a le st)(w:i<n)(k:j<n)(z:a j i=Av):∀x y,x<n->((le.map λ(r:Nat)=>if r.testBit i then r|||le.getD j 0 else r).getD x 0).testBit y=Ag->y<n/\a y x=Av:=by
 intro x y h e;rw[lM x (by rw[F.ll];exact h)] at e;split at e
 ·rename_i q;simp only[EA,CW] at e;rcases e with e |e
  ·exact F.w x y h e
  ·obtain⟨s,b⟩:=F.w j y k e;exact⟨s,o.trans x j y h k s (o.trans x i j h w k (F.w x i h q).2 z) b⟩
 ·exact F.w x y h e
theorem QC.kj {i j n:Nat}{d:Nat->Nat->Bool}{c st:List Nat}(s:KN n d)(F:QC n d c st)(z:i<n)(o:j<n)(A:d j i=Av):QC n d (RX i j c st).1 (RX i j c st).2:=by
 refine⟨F.kq s z o A,λ x y k e=>?_,by simp[RX,F.ll],by simp[RX,F.ll,F.ls]⟩;have h:((Jw (λ(r q:Nat)=>q|||((if q.testBit i then c.getD j 0 else 0)|||(if r.testBit i then st.getD j 0 else 0))) c st).getD x 0).testBit y=Ag:=e;simp only[WB x (by rw[F.ll];exact k) (by rw[F.ls];exact k),EA,EA,CW,CW] at h;rcases h with h |h |h
 ·exact F.s x y k h
 ·split at h
  ·rename_i q;obtain⟨_,a⟩:=F.s x i k q;obtain⟨w,b⟩:=F.w j y o h;exact⟨w,s.sw k o w (s.sw k z o a A) b⟩
  ·simp at h
 ·split at h
  ·rename_i q;obtain⟨w,b⟩:=F.s j y o h;exact⟨w,s.ws k o w (s.trans x i j k z o (F.w x i k q).2 A) b⟩
  ·simp at h
theorem QC.kl {i j n:Nat}{c:Nat->Nat->Bool}{a st:List Nat}(s:KN n c)(F:QC n c a st)(w:i<n)(o:j<n)(z:c i j=Ag):QC n c (RY i j a st).1 (RY i j a st).2:=by
 refine⟨F.kq s w o (s.jh i j w o z),λ x y k e=>?_,by simp[RY,F.ll],by simp[RY,F.ll,F.ls]⟩;have h:((Jw (λ(r q:Nat)=>q|||(if r.testBit i then a.getD j 0 else 0)) a st).getD x 0).testBit y=Ag:=e;simp only[WB x (by rw[F.ll];exact k) (by rw[F.ls];exact k),EA,CW] at h;rcases h with h |h
 ·exact F.s x y k h
 ·split at h
  ·rename_i q;obtain⟨A,b⟩:=F.w j y o h;exact⟨A,s.sw k o A (s.ws k w o (F.w x i k q).2 z) b⟩
  ·simp at h
theorem TR:∀(a b:List Nat),a.Nodup->(∀x∈a,x∈b)->a.length=b.length->a.Perm b:=by
 intro a;induction a with
 |nil=>
  intro b _ _ h;have:=FM.mp h.symm;rw[this]
 |cons x a k=>
  intro b o h z;have s:=h x Ad;rw[BA] at o;refine List.Perm.trans (List.Perm.cons x (k (b.erase x) o.2 (λ y w=>?_) ?_)) (List.perm_cons_erase s).symm
  ·exact(List.mem_erase_of_ne (λ q=>o.1 (q▸w):y≠x)).mpr (h y (Af _ w))
  ·rw[List.length_erase_of_mem s];rw[<-z];rfl
def XK (h:Nat->Nat->Bool)(p:List Nat):Prop:=p.Pairwise λ a b=>h b a=Av/\(h a b=Ag\/a<b)
def H7 (n:Nat)(h:Nat->Nat->Bool)(p:List Nat):Prop:=p.Perm (Ap n)/\XK h p
theorem QC.ij {n:Nat}{c:Nat->Nat->Bool}{d st:List Nat}(s:KN n c)(F:QC n c d st)(l:List Nat)(o:∀x∈l,x<n)(w:Su d st l=Ag):XK c l:=by
 induction l with
 |nil=>exact G8
 |cons a r z=>
  obtain⟨A,C⟩:=AC.mp w;refine List.Pairwise.cons (λ b E=>?_) (z (λ x H=>o x (Af _ H)) C);have:=AR.mp A b E;have h:=o a Ad;simp only[CW,AG,decide_eq_true_eq] at this;rcases this with q |⟨q,N⟩
  ·obtain⟨k,e⟩:=F.s a b h q;exact⟨s.jh a b h k e,.inl e⟩
  ·exact⟨(F.w a b h q).2,.inr N⟩
theorem Zr {n:Nat}{b:Nat->Nat->Bool}(O:KN n b){a:Nat->Nat->(Bool->Aq->Prop)->Aq->Prop}{I:Aq->Prop}(hc:∀i j C h,i<n->j<n->I h->(∀w,I w->C (b i j) w)->a i j C h){c:Array Nat->Aq->Prop}(d:∀p h,I h->H7 n b p.toList->c p h)(t:KasT (Array Nat))(A st:List Nat)(h:Aq)(F:QC n b A st)(s:uH n t A st=Ag)(V:I h):t.kasWp a c h:=by
 induction t generalizing A st h with
 |ret p=>
  obtain⟨z,f⟩:=AC.mp s;obtain⟨g,l⟩:=AC.mp z;have W:=TR _ _ IF (λ x Q=>E8.mp (AR.mp l x Q)) (by rw[BQ g,CM]);exact d p h V ⟨W.symm,F.ij O _ (λ x Q=>Au.mp (W.symm.mem_iff.mp Q)) f⟩
 |ask i j k N=>
  obtain⟨z,s⟩:=AC.mp s;obtain⟨E,H⟩:=AC.mp z;have E:=of_decide_eq_true E;have H:=of_decide_eq_true H;refine hc i j _ h E H V λ w o=>?_;by_cases q:(st.getD i 0).testBit j=Ag
  ·exact(F.s i j E q).2▸N _ A st w F ((if_pos q).symm.trans s) o
  ·replace s:=(if_neg q).symm.trans s
   by_cases q:(A.getD j 0).testBit i=Ag
   ·exact(F.w j i H q).2▸N _ A st w F ((if_pos q).symm.trans s) o
   ·have Z:=AC.mp ((if_neg q).symm.trans s);cases e:b i j with
    |true=>exact N _ _ _ w (F.kl O E H e) Z.1 o
    |false=>exact N _ _ _ w (F.kj O H E e) Z.2 o
theorem Vn {n:Nat}{b:Nat->Nat->Bool}(w:n<7)(z:2<=n)(k:KN n b){a:Nat->Nat->(Bool->Aq->Prop)->Aq->Prop}{I:Aq->Prop}(hc:∀i j C s,i<n->j<n->I s->(∀o,I o->C (b i j) o)->a i j C s){c:Array Nat->Aq->Prop}(A:∀p s,I s->H7 n b p.toList->c p s)(E:I s):
 (kas_sort n).kasWp a c s:=by
 refine Zr k hc A _ _ _ s ⟨λ x y h e=>?_,λ x y h e=>?_,by simp,by simp⟩ (n7 n w z) E
 ·skip
  simp[h,Ha] at e;subst e;refine⟨h,?_⟩;cases q:b x x with
  |false=>rfl
  |true=>have:=k.jh x x h h q;cases q.symm.trans this
 ·skip
  simp[h] at e
end
theorem Xu (h:n<64):n<=HH:=Aa (AY h) (by rw[sizeLine_eq];decide)
theorem nF (h:n<7):n<=HH:=Xu (Ao h (by decide))
variable {c:List PV}{b:List Ae} in
def Jx (h:AT)(K:Ai):List Ae->List Ae->Prop
 |[],[]=>True
 |u::b,x::c=>(∃a,x=.ref a/\ED h a K u)/\Jx h K b c
 |_,_=>False
theorem Jx.bt {c:List Ae}{K:Ai}{P:List Ae->List Ae->Prop}(k:P [] [])(o:∀u c x b,(∃a,x=.ref a/\ED h a K u)->Jx h K c b->P c b->P (u::c) (x::b)){b:List Ae}(q:Jx h K c b):P c b:=
 c.rec (λ b=>b.casesOn (λ _=>k) λ _ _ q=>q.elim) (λ u c s b=>b.casesOn (λ q=>q.elim) λ x b q=>o _ _ _ _ q.1 q.2 (s b q.2)) b q
theorem Jx.al {c:List Ae}{K:Ai}(k:Jn h H){b:List Ae}(q:Jx h K c b):Jx H K c b:=
 q.bt trivial λ _ _ _ _ a _ i=>by obtain⟨x,e,m⟩:=a;exact⟨⟨x,e,m.al k⟩,i⟩
theorem Jx.len {b:List Ae}{K:Ai}{a:List Ae}(q:Jx h K b a):b.length=a.length:=q.bt (P:=λ b a=>b.length=a.length) rfl λ _ _ _ _ _ _ i=>congrArg (·+1) i
theorem Jx.ek {a:Ai}{c:List Ae}{K:Ai}{u:Ae}(i:ED h a K u){b:List Ae}(q:Jx h K c b):Jx h K (c++[u]) (b++[.ref a]):=
 q.bt (P:=λ c b=>Jx h K (c++[u]) (b++[BK a])) (⟨⟨a,rfl,i⟩,trivial⟩) λ _ _ _ _ a _ i=>⟨a,i⟩
theorem Jx.get {i:Nat}{b:List Ae}{K:Ai}{c:List Ae}(q:Jx h K b c):i<b.length->∃a,c.getD i .none=.ref a/\ED h a K (b.getD i .none):=
 q.bt (P:=λ b c=>∀i,i<b.length->∃a,c.getD i .none=.ref a/\ED h a K (b.getD i .none)) (λ _ h=>(by contradiction)) (λ _ _ _ _ a _ k i=>i.casesOn (λ _=>a) λ i h=>k i (DR h)) i
theorem Jx.lb {M:Dr}{c:List Ae}{K:Ai}{b:List Ae}(q:Jx h K c b):∀x∈b,FX M h (Md x) (.ref K):=
 q.bt (P:=λ _ b=>∀x∈b,FX M h (Md x) (.ref K)) (λ _ h=>(by contradiction)) λ _ _ _ _ a _ k x o=>(Ak.mp o).elim (λ e=>by obtain⟨y,q,m⟩:=a;exact(e.trans q)▸m.ty) (k x)
variable {tk:Nat} in
structure SI (W:BV)(s₀:Aq)(K a kS e1:Nat)(us ks:List Ae)(e:Nat)(s:Aq):Prop where
 le:BB W s₀.heap s.heap
 tk:s₀.toks<=s.toks
 same:s={s₀ with heap:=s.heap,toks:=s.toks}
 hk:s.heap.get? kS=Ab (Eh "list" (CG ks) e)
 ha:s.heap.get? a=Ab (Eh "list" #[] e1)
 kr:Jx s.heap K us ks
section
theorem SI.step {tk a c d e:Nat}{f g:List Ae}{b:Aq}{K:Ai}(x:SI W b K a c d f g e s)(h:BB W s.heap H)(l:s.toks<=tk):SI W b K a c d f g e {s with heap:=H,toks:=tk}:=
 ⟨x.le.trans h,Aa x.tk l,by rw[x.same],h.keep x.hk (by simp[Eh]) (by simp[Eh]),h.keep x.ha (by simp[Eh]) (by simp[Eh]),x.kr.al h.al⟩
theorem aW {g:List Ae}{d:Aq}{K:Ai}{c:Ae->Ae->Option Int}{a f m e:Nat}{P:Ix->Aq->Prop}(M:g.length<64)(L:ET W k d.heap K c)(R:CY (k+2) A)(G:Gd W d)(O:W.h0.NoLimit)(V:f≠a)(Z:d.heap.get? f=Ah)(T:SI W d K a f m [] [] e s)
 (U:∀h e C,SI W d K a f m g h e C->Aw W.M A (ksk_end a Av g.toArray m (.ref f) (CG h)) P E C):Aw W.M A (ksk_rest a (.ref K) Av g.toArray m (.ref f)) P E s:=by
 refine Ac (NP ?_)
 first
  |rw[List.forIn_toArray]
  |(rw[<-Array.forIn_toList];simp only[List.toList_toArray])
  |rw[<-Array.forIn_toList]
 refine Ac (ksk_fold (λ i C=>∃h e,SI W d K a f m (g.take i) h e C) g 0 s ⟨[],e,by exact T⟩ (λ j x C D Y=>?_) λ C hd=>?_)
 ·obtain⟨h,e,S⟩:=Y;rw[Ct] at S ⊢;have I:j<g.length:=by
   obtain⟨q,_⟩:=Co.mp D;exact q
  have n:h.length=j:=by rw[<-S.kr.len,Dd];exact DA (AY I)
  refine Ac (wpAny_attempt ((L.ae S.le).iq R (⟨G.ao.trans S.le,S.le.2 G.dl,Aa G.toks S.tk⟩) O x _ _ λ r N tk H l hr=>?_));obtain⟨w,rfl,fr,i⟩:=hr;have z:=S.step H l;have p:=BP N f (CJ (·.push (.ref w)))
  obtain⟨t,v⟩:∃t,(N.update f (CJ (·.push (.ref w)))).get? f=Ab (Eh "list" (CG (h++[.ref w])) t):=⟨_,by rw[<-(by simp:(CG h).push (.ref w)=CG (h++[.ref w]))];exact get?_update_seq z.hk (·.push (.ref w))⟩
  have J:=Xu (Cw (Az (AB n) I) M);refine Ac (listUpdate_at z.hk rfl ?_ J (Aa (AB (Array.size_push ..)) (Bv J)));refine Ar ⟨rfl,h++[.ref w],t,?_⟩;have kk:Jn N (N.update f (CJ (·.push (.ref w))))\/True:=.inr trivial
  have B:∀{Q h},Jx N K Q h->Jx (N.update f (CJ (·.push (.ref w)))) K Q h:=by
   intro Q h q;induction Q generalizing h with
   |nil=>cases h<;>exact q
   |cons u Q ih=>
    cases h with
    |nil=>exact q
    |cons y h=>
     obtain⟨⟨b,e,dx,i⟩,r⟩:=q;refine⟨⟨b,e,dx,?_⟩,ih r⟩;rw[p.2 b (λ q=>by cases q;replace i:=z.hk.symm.trans i;cases i)];exact i
  refine⟨?_,z.tk,by rw[z.same],v,(p.2 a V.symm).trans z.ha,?_⟩
  ·exact z.le.az Z (λ o a0 m e2=>by replace m:=z.hk.symm.trans m;cases m;contradiction) p
  ·have:g.take (j+1)=g.take j++[x]:=by rw[List.take_add_one,D];rfl
   rw[this];exact B (Jx.ek i z.kr)
 ·obtain⟨h,e,S⟩:=hd;rw[Ct,List.take_length] at S;exact Ac (listItems_at S.hk rfl (U h e C S))
end
section
theorem TF {i f:List Ae}{b:Aq}{K:Ai}{a d g e:Nat}{st:SortSt}{c:List Ae}{P:Ix->Aq->Prop}(C:d≠a)(H:b.heap.get? d=Ah)(N:b.heap.get? a=Ah)(k:(arrOf st).map (·.2)=CG c)(m:c.length<64)(O:f.length<64)(n:failedOf st=Ah)(S:SI W b K a d g i f e s)
 (p:∀Q j w,BB W b.heap Q->b.toks<=j->Q.get? a=Ab (Eh "list" (CG c) w)->P (.done (.ret .none)) {b with heap:=Q,toks:=j}):Aw W.M A (ksk_tail a Av g (.ref d) st) P E s:=by
 have l:=BP s.heap d (CJ λ _=>(#[]:Array Ae));have h:=(l.2 a C.symm).trans S.ha;have q:=BP (s.heap.update d (CJ λ _=>(#[]:Array Ae))) a (CJ λ _=>CG c);obtain⟨w,V⟩:∃w,((s.heap.update d (CJ λ _=>(#[]:Array Ae))).update a (CJ λ _=>CG c)).get? a=Ab (Eh "list" (CG c) w):=⟨_,get?_update_seq h λ _=>CG c⟩;dsimp only[ksk_tail]
 try dsimp only
 rw[k];refine Ac (listUpdate_at S.hk rfl ?_ (Xu O) (AZ _));refine Ac (wpAny_letGo ?_);refine Ac (seqEpoch_at h rfl ?_);refine Ac (listUpdate_at h rfl ?_ (AZ _) (Aa (AB (by exact(List.size_toArray))) (BD (Xu m))));rw[n];simp;refine Ar ?_;have r:=S.le.az H (λ o Z z t=>by replace z:=S.hk.symm.trans z;cases z;contradiction) l;have u:=r.az N (λ o Z z t=>by obtain rfl:=A4 h z;contradiction) q;have:=p _ s.toks w u S.tk V;rw[S.same];exact this
structure XP (c:Ae->Ae->Option Int)(vs:List Ae)(lt:Nat->Nat->Bool):Prop where
 has:∀i j,i<vs.length->j<vs.length->∃m,c (vs.getD i .none) (vs.getD j .none)=Ab m/\lt i j=decide (m<0)
 ok:KN vs.length lt
 hand:∀v∈vs,IJ v=Ag
theorem Yh (h:List Ae):(Ap h.length).map (λ i=>h.getD i .none)=h:=by
 refine List.ext_getElem (by simp) λ i o k=>?_;simp[Am,k]
theorem V1 {a:Nat->Nat->Bool}(h:n<2):H7 n a (Ap n):=by
 refine⟨.refl _,?_⟩;exact Fg (P:=λ n=>(Ap n).Pairwise _) (Fg Kv G8) (List.pairwise_singleton ..) n h
theorem jV {f q:List Ae}{d:Aq}{K:Ai}{c:Ae->Ae->Option Int}{a n u e:Nat}{r:Nat->Nat->Bool}{P:Ix->Aq->Prop}(Y:f.length<7)(L:ET W k d.heap K c)(hA:CY (k+2) A)(G:Gd W d)(Q:W.h0.NoLimit)(V:n≠a)(Z:d.heap.get? n=Ah)(v:d.heap.get? a=Ah)(J:XP c f r)(S:SI W d K a n u f q e s)
 (a0:∀z C y p,H7 f.length r p->BB W d.heap z->d.toks<=C->z.get? a=Ab (Eh "list" (CG (p.map λ i=>f.getD i .none)) y)->P (.done (.ret .none)) {d with heap:=z,toks:=C}):
 Aw W.M A (ksk_end a Av f.toArray u (.ref n) (CG q)) P E s:=by
 have I:=S.kr.len;have B:q.length<64:=Az (AB I.symm) (Ao Y (by decide));have step:∀t:DJ Ix,Aw W.M A t P E s->Aw W.M A (if Av=Ag then(do let _ <-rule "list.sort.reverse";t) else t) P E s:=by
  intro t ht;exact ht
 dsimp only[ksk_end];refine step _ ?_;by_cases N:f.toArray.size<2
 ·rw[if_pos N,if_pos N];refine Ac (Ar ?_);refine Ac (Ar ?_);have h:f.length<2:=N;refine TF V Z v ?_ (Ao h (by decide)) B rfl S λ z C y H l M=>a0 z C y (Ap f.length) (V1 h) H l ?_
  ·skip
   apply Array.toList_inj.mp;rw[Array.toList_map,ksk_zip];exact(List.map_snd_zip (AB I))
  ·rw[Yh];exact M
 ·rw[if_neg N,if_neg N];have h:2<=f.length:=by
   have:¬f.length<2:=N;exact Bz N
  refine Ac (kas_kind (by omega) S.kr.lb (by rfl) (beq_self_eq_true _) ?_);refine Ac (DK (kat_run (Q:=λ w D=>∃p:Array Nat,p.size=f.length/\arrOf w=p.map (kas_item ((CG q).zip (CG f)))/\failedOf w=Ah/\(SI W d K a n u f q e D/\H7 f.length r p.toList))
   I.symm h (by omega) (λ p' w D a1 a2 a3 a4=>⟨p',a1,a2,a3,a4⟩) ?_) ?_ λ _ _ x=>x)
  ·refine Vn Y h J.ok (λ i j C' D O R o hC=>?_) (λ p D o g=>⟨o,g⟩) S;unfold kas_ask;obtain⟨xa,ex,ix⟩:=o.kr.get O;obtain⟨ya,ey,iy⟩:=o.kr.get R;obtain⟨m,hm,T⟩:=J.has i j O R;have hh:∀i,i<f.length->IJ (f.getD i .none)=Ag:=λ i O=>J.hand _ (by rw[Am,AA O];exact Dg O);rw[ex,ey];refine(L.ae o.le).lt hA (⟨G.ao.trans o.le,o.le.2 G.dl,Aa G.toks o.tk⟩) Q ix iy (hh i O) (hh j R) hm _ _ λ b z C H l hb=>?_;rw[hb,<-T];exact hC _ (o.step H l)
  ·rintro⟨⟨⟩,w⟩ D ⟨p,hp,U,hf,o,g⟩;exact TF V Z v (kat_snds I.symm U) (by rw[Al,DP,hp];omega) B hf o λ z C y H l M=>a0 z C y p.toList g H l M
theorem aV {n a:Nat}{d:List Ae}{b:Aq}{K:Ai}{c:Ae->Ae->Option Int}{f:Nat->Nat->Bool}{P:Ix->Aq->Prop}(O:d.length<7)(L:ET W k b.heap K c)(r:CY (k+2) A)(G:Gd W b)(h:W.h0.NoLimit)(w:b.heap.get? a=Ah)(v:XP c d f)
 (Q:BB W b.heap s.heap) (V:b.toks<=s.toks) (Z:s={b with heap:=s.heap,toks:=s.toks}) (z:s.heap.get? a=Ab (Eh "list" d.toArray n))
 (x:∀g t y p,H7 d.length f p->BB W b.heap g->b.toks<=t->g.get? a=Ab (Eh "list" (CG (p.map λ i=>d.getD i .none)) y)->P (.done (.ret .none)) {b with heap:=g,toks:=t}):
 Aw W.M A (ksk_tree a (.ref K) Av) P E s:=by
 have B:a<s.heap.objs.size:=AU z;have D:=BP s.heap a (CJ λ _=>(#[]:Array Ae));obtain⟨j,C⟩:∃j,(s.heap.update a (CJ λ _=>(#[]:Array Ae))).get? a=Ab (Eh "list" #[] j):=⟨_,get?_update_seq z λ _=> #[]⟩;have l:((s.heap.update a (CJ λ _=>(#[]:Array Ae))).push (Eh "tuple" d.toArray 0)).objs.size=s.heap.objs.size+1:=by rw[size_push',Heap.size_update]
 have u:BB W b.heap (s.heap.update a (CJ λ _=>(#[]:Array Ae))):=Q.az w (λ o I J M=>by obtain rfl:=A4 z J;cases M) D;have R:=(u.trans (.push _ (Eh "tuple" d.toArray 0))).trans (.push _ (Eh "list" #[] 0));unfold ksk_tree;refine Ac (listItems_at z rfl ?_);refine Ac (listUpdate_at z rfl ?_ (nF O) (AZ _));refine Ac (seqEpoch_at C rfl ?_);refine Ac (wpAny_newTuple ?_ (nF O));refine Ac (wpAny_newList ?_ (AZ _));refine Bt ?_;have H:((s.heap.update a (CJ λ _=>(#[]:Array Ae))).push (Eh "tuple" d.toArray 0)).objs.size≠a:=by rw[l];exact Dz (Gu B)
 have N:b.heap.get? ((s.heap.update a (CJ λ _=>(#[]:Array Ae))).push (Eh "tuple" d.toArray 0)).objs.size=Ah:=by
  cases q:b.heap.get? ((s.heap.update a (CJ λ _=>(#[]:Array Ae))).push (Eh "tuple" d.toArray 0)).objs.size with
  |none=>rfl
  |some o=>
   obtain⟨U,m⟩:=BL (u.trans (.push _ (Eh "tuple" d.toArray 0))) ⟨o,q⟩;exact absurd (AU m) (EY _)
 have S:SI W b K a ((s.heap.update a (CJ λ _=>(#[]:Array Ae))).push (Eh "tuple" d.toArray 0)).objs.size j [] [] 0 {s with heap:=((s.heap.update a (CJ λ _=>(#[]:Array Ae))).push (Eh "tuple" d.toArray 0)).push (Eh "list" #[] 0)}:=
  ⟨R,V,by rw[Z],AD _ rfl,AI _ (AI _ C),trivial⟩
 exact aW (Ao O (of_decide_eq_true (id (Cy Ag)))) L r G h H N S λ Y e s' T=>jV O L r G h H N w v T x
theorem aQ {a:List Ae}{K:Ai}{c:Ae->Ae->Option Int}{l:Ai}{d:Nat->Nat->Bool}(Z:a.length<7)(L:ET W k s.heap K c)(e:CY (k+3) A)(G:Gd W s)(z:W.h0.NoLimit)(n:XP c a d)(r:s.heap.IsList l a.toArray)
 (t:∀C V D f p,H7 a.length d p->BB W s.heap C->s.toks<=V->s.heap.get? D=Ah->C.get? D=Ab (Eh "list" (CG (p.map λ i=>a.getD i .none)) f)->Q (.ref D) {s with heap:=C,toks:=V}):
 Aw W.M A (call (.builtin "sorted") [.ref l] [(Fs "key",.ref K)]) Q E s:=by
 refine call_function_entry_kw kind_sorted plain_sorted entry_sorted (ksk_s1 _ _) ?_;unfold Builtin.«sorted»;refine Ac (Ar ?_);refine Ac (collect_list r ?_ (nF Z));refine Ac (wpAny_newList ?_ (nF Z));have h:((s.heap.push (Eh "list" #[] 0)).update s.heap.objs.size (CJ (·++a.toArray))).objs.size=s.heap.objs.size+1:=by
  rw[Heap.size_update,size_push']
 have N:(((s.heap.push (Eh "list" #[] 0)).update s.heap.objs.size (CJ (·++a.toArray))).push (Eh "list" a.toArray 0)).get? (s.heap.objs.size+1)=Ab (Eh "list" a.toArray 0):=by
  rw[<-h];exact AD _ rfl
 have O:∀b o,s.heap.get? b=Ab o->(((s.heap.push (Eh "list" #[] 0)).update s.heap.objs.size (CJ (·++a.toArray))).push (Eh "list" a.toArray 0)).get? b=Ab o:=λ b o q=>by
  have w:=AU q;rw[Heap.get?_push_ne _ _ _ (by rw[h];exact Cu (Gu w)),Heap.get?_update_ne _ _ _ _ (Cu w),Heap.get?_push_ne _ _ _ (Cu w)];exact q
 have m:s.heap.get? (s.heap.objs.size+1)=Ah:=by
  cases q:s.heap.get? (s.heap.objs.size+1) with
  |none=>rfl
  |some o=>exact absurd (AU q) (B7.mpr (Bq _))
 rw[h];have j:CY (k+2) A.in1.in1:=⟨e.handled,(e.ai (Bq _)).depth,TW (b:=2) e.units (AO rfl)⟩;refine Ac (Bt (wpAny_call_entry_kw slot_list_sort ⟨_,N,rfl⟩ entry_list_sort ?body (ksk_l1 _ _)))
 case body=>
  have v:=ksk_t1 K (s.heap.objs.size+1);refine aV Z L j G z m n (.af O) (An _) rfl N λ C V f p g H l u=>⟨_,rfl,Ar ⟨_,rfl,t C V _ f p g H l m u⟩⟩
end
structure UX (W:BV)(mg mb:As->Option Ae)(C:GK)(k':Nat)(a:Ai):Prop where
 ke:∀(A:Dj)(s:Aq)(k n:Nat)(f:Ai)(c:Ae->Ae->Option Int),CY (k+1) A->Gd W s->MB W n s.heap f c->Dq W A (call (.ref a) [.ref f]) s (λ v h'=>∃K cc,v=.ref K/\s.heap.get? K=Ah/\XN h' K cc f/\s.heap.get? cc=Ah/\MB W n h' f c)
theorem UX.call (x:UX W mg mb C g a)(o:CY (k+1) A)(G:Gd W s){c:Ae->Ae->Option Int}(w:MB W n s.heap f c):
 Dq W A (call (.ref a) [.ref f]) s (λ v h=>∃K,v=.ref K/\s.heap.get? K=Ah/\ET W n h K c):=(x.ke A s k n f c o G w).ae λ v h _ x=>by obtain⟨K,z,a,b,d,e,f⟩:=x;exact⟨K,a,b,d.cz (BB.bh G.ao e) f⟩
def Pe (k:AT)(o:Array Ae)(s:List (CE×As)):Prop:=∀r∈s,∀h,Cg r.1 o.toList=Ab h->Da k h r.2
structure iV (W:BV)(c P:Ai)(ls:List (CE×As)):Prop where
 mem:P∈W.TB
 get:∀h,W.di h->∃ps,FH h c P ps/\Pe h ps ls
 fg:∀h h' ps more,W.di h->h.get? P=Ab (Me ps)->(∀b o,b≠P->h.get? b=Ab o->h'.get? b=Ab o)->FH h' c P (ps++more)->Pe h' (ps++more) ls->W.di h'
 k9:∀a∈ls,∀b∈ls,a.1.line=b.1.line->a.1.col=b.1.col->a=b
noncomputable abbrev dJ (k:As)(h:Ea)(o:Expr)(w:Bg)(s:List (As×Ai))(z A C:Ae):Eo:={cls:=.type "function",data:=.func (VR "<lambda>" k h o w s z A C)}
theorem Da.ext (x:Da h a q)(T:FH h c P d)(k:BC P h H):Da H a q:=x.at_ λ b o e hc=>k b o (λ q=>by subst q;replace e:=T.at_.symm.trans e;cases e;contradiction) e
theorem dI (Gk:E2 W C k mg mb)(LT:iV W c P m)(t:Ce≠P)(u:W.h0.BuiltinsAt mg P)(v:z.globals=Ce)(N:z.code=.ref c)(w:(i,a)∈m)
 (hq:z.qual++"<lambda>"=a) (O:defaultsOf d z=([],[])) (x:ZQ V z=pure j) (G:Gd W s)
 (a0:∀h p f S y,BB W s.heap h->s.toks<=p->s.heap.get? f=Ah->h.get? f=Ab (dJ a d g V j ((mg "__name__").getD .none) S y)->Da h S a->Q (.ref f) {s with heap:=h,toks:=p}):
 Aw W.M A (eval (.Lambda d g V i) z) Q E s:=by
 obtain⟨U,T,Y⟩:=LT.get s.heap G.dl;have B:s.heap.BuiltinsAt mg P:=by
  obtain⟨bm,o,a1,a2,a3,a4,a5,D,a7,a8⟩:=u;exact⟨bm,o,a1,a2,a3,a4,G.ao.keep a5 (by rw[D];decide) (by rw[D];decide),D,a7,a8⟩
 refine kla_eval O ?_;rw[hq];refine VH x v (Dl G.ao Gk.g) N T t B (λ I hc=>Y (i,a) w I hc) λ f I y h p J M l hf=>?_;have Z:Pe h J m:=λ r hr n hc=>by
  rcases M.only r.1 n hc with q |⟨rfl,_,e1,e2⟩
  ·exact(Y r hr n q).ext T M.ext
  ·have:=LT.k9 r hr (i,a) w e1 e2;rw[this];exact M.db
 have HL:BB W s.heap h:=by
  obtain⟨H,L⟩:=M.pre;refine⟨λ b o e=>?_,λ R=>LT.fg s.heap h U H R T.at_ (λ b o q e=>M.ext b o q e) (L▸M.ji) (L▸Z)⟩;by_cases qP:b=P
  ·subst qP
   replace e:=T.at_.symm.trans e
   cases e
   subst L;exact .inr (.inr ⟨LT.mem,U,H,rfl,M.ji.at_⟩)
  ·exact .inl (M.ext b o qP e)
 exact a0 h p f I y HL l M.new M.at_ M.db
structure ZE (params:Ea)(body:Expr)(sc:Bg)(ps:List As):Prop where
 co:sc.isCoroutine=Av
 bi:sc.isGenerator=Av
 kind:sc.kind=.function
 cp:∀x∈sc.names,x.2≠.cell
 jj:∀x∈ps,D5 x=Ag/\sc.names.lookup x=Ab .local
 nd:ps.Nodup
 mz:∀(qual:As)(bk:List (As×Ai))(pm cd ct:Ae)(vals:List Ae),vals.length=ps.length->Tq (VR "<lambda>" qual params body sc bk pm cd ct) ⟨vals,[]⟩=pure (ps.zip vals)
variable {c:Ai}{t:Expr}{g:Array CC} in
inductive MW (h:AT)(f:Ai)(body:Expr)(sc:Bg)(ps:List As)(bk:List (As×Ai)):Prop
 |mk (qual:As) (params0:Ea) (pm cd ct:Ae) (g:h.get? f=Ab (dJ qual params0 body sc bk pm cd ct)) (c:Da h cd qual) (t:ZE params0 body sc ps)
structure QB (W:BV)(h:AT)(X:List Ai)(f:Ai)(body:Expr)(sc:Bg)(ps:List As)(bk:List (As×Ai))(φ:A5):Prop where
 obj:MW h f body sc ps bk
 gu:∀x sl,φ.lookup x=Ab sl->sc.names.lookup x=Ab .free/\D5 x=Ag/\(∀d,sl≠.own d)
 free:∀x,sc.names.lookup x=Ab .free->∃c ov,bk.lookup x=Ab c/\h.IsCell c ov/\∀sl,φ.lookup x=Ab sl->∃v,ov=Ab v/\BU W (bk.map (·.2)++X) (bk.map (·.2)++X) h v sl
 inj:∀x y c,bk.lookup x=Ab c->bk.lookup y=Ab c->x=y
 alive:∀a∈bk.map (·.2),W.h0.get? a=Ah/\∃o,h.get? a=Ab o
theorem QB.ae (L:QB W h X f g V l j m)(s:BB W h H):QB W H X f g V l j m where
 obj:=by obtain⟨w,k,N,O,Q,e,r,t⟩:=L.obj;exact⟨w,k,N,O,Q,s.keep e (by simp) (by simp),r.at_ λ b o e hc=>s.keep e (by rw[hc];simp) (by rw[hc];simp),t⟩
 gu:=L.gu
 free:=λ x Z=>by obtain⟨c,n,e,i,r⟩:=L.free x Z;exact⟨c,n,e,G4 s i,λ A C=>by obtain⟨v,p,z⟩:=r A C;exact⟨v,p,by
  cases A with
  |av u=>exact z
  |cg u d=>exact⟨z.1,Rp.ae s z.2⟩
  |aa d=>exact Rp.ae s z
  |own d=>exact absurd rfl ((L.gu _ _ C).2.2 d)⟩⟩
 inj:=L.inj
 alive:=λ a E=>⟨(L.alive a E).1,BL s (L.alive a E).2⟩
theorem Uf {a:List (As×Ai)}{i:List As}(u:E2 W C k mg mb)(L:QB W s.heap X f c V i a j)(w:W.h0.NoLimit)(p:CY (k+1) A)(G:Gd W s)(x:∀b∈X,W.h0.get? b=Ah/\∃o,s.heap.get? b=Ab o){args:List Dt}
 (r:MT W (a.map (·.2)++X) s.heap g args) (y:args.length=i.length) (D:Dc C V (i.zip args++j) c d):
 Dq W A (call (.ref f) g) s (λ v I=>Rp W (a.map (·.2)++X) I v d):=λ Q E J=>by
 obtain⟨z,l,M,R,U,Y,hr,T⟩:=L.obj;refine Ic (nU (⟨⟨_,Y,rfl⟩,hr.db,T.mz z a M R U,T.co,T.bi,T.kind,rfl,rfl,T.cp,T.jj,T.nd,L.gu,L.free,L.inj,L.alive⟩) rfl w p G x r y λ t m B H S=>?_);refine D ⟨W,_,_,_,_,_,mg,mb,u,p.down _⟩ _ S.F (S.gd B) _ _ λ v N h O Z rv=>?_;refine J v N h (S.le.trans O) (Aa H Z) ?_;refine Rp.bi (λ b o e n _=>⟨e,λ q=>n ?_⟩) rv;rcases AL.mp q with q |q
 ·exact A8 _ (Af _ q)
 ·exact AV _ q
variable {a:Ai} in
def Z0:Ae->Option As
 | .str a _=>Ab a
 |_=>Ah
theorem Q9 (h:Z0 v=Ab a):∃t,v=.str a t:=by
 cases v with
 |str b t=>cases h;exact⟨t,rfl⟩
 |_=>contradiction
def Mo (h:List As)(g:As->As->Int)(u v:Ae):Option Int:=(Z0 u).bind λ a=>(Z0 v).bind λ b=>if a∈h/\b∈h then Ab (g a b) else Ah
theorem Wj {g:As->As->Int}(h:Mo c g u v=Ab i):∃a k b o,u=.str a k/\v=.str b o/\a∈c/\b∈c/\g a b=i:=by
 refine Jt λ E s=>?_;obtain⟨a,w,h⟩:=AM.mp h;obtain⟨b,z,h⟩:=AM.mp h;obtain⟨k,A⟩:=Q9 w;obtain⟨o,C⟩:=Q9 z;obtain⟨q,e⟩:=Lf h;refine s ?_;exact⟨a,k,b,o,A,C,q.1,q.2,e⟩
theorem SM {f:Ai}{e:List (As×Ai)}{d:List As}{j:A5}(Z:E2 W C k mg mb){c:Expr}(L:QB W h [] f c V d e j)(l:d.length=2)(o:W.h0.NoLimit){N:List As}{g:As->As->Int}
 (hN:∀a∈N,Ba a=Ag/\a.length<=B2) (m:∀a∈N,∀b∈N,Dc C V (d.zip [.aa (.str a),.aa (.str b)]++j) c (.int (g a b))):MB W (k+1) h f (Mo N g):=by
 refine⟨?_,λ A s u v i n H G p=>?_⟩
 ·obtain⟨O,w,D,I,J,t,Q,T⟩:=L.obj;exact⟨_,λ x H=>⟨_,H.keep t (by simp) (by simp),rfl⟩⟩
 ·obtain⟨a,y,b,B,rfl,rfl,z,E,rfl⟩:=Wj p;exact(Uf Z (L.ae H) o n G (λ b q=>(by contradiction)) (.aa (.str a y (hN a z).1 (hN a z).2) (.aa (.str b B (hN b E).1 (hN b E).2) .nil)) l.symm (m a z b E)).ae λ r x _ Q=>Q.aj
def Iu (h:AT):Option Ai->AT
 |none=>h
 |some B=>HO h B
theorem JM (k:∀B,ob=Ab B->b≠B):(Iu h ob).get? b=h.get? b:=by
 cases ob with
 |none=>rfl
 |some B=>exact GG (k B rfl)
theorem PG (k:BB W a h)(s:∀B,ob=Ab B->a.get? B=Ah)(w:∀B,ob=Ab B->∀o z,h.get? B=Ab o->o.data≠.fields z):BB W a (Iu h ob):=by
 cases ob with
 |none=>exact k
 |some B=>
  refine⟨λ b o e=>?_,λ t=>Nq (k.2 t) (w B rfl)⟩;have q:b≠B:=λ q=>by rw[q,s B rfl] at e;contradiction
  rw[GG q];exact k.1 b o e
variable {i:Nat}{v:Ae} in
structure QA (W:BV)(k:Nat)(ob:Option Ai)(X:List Ai)(f:Ae)(xs:List PV)(hb:AT)(J:Nat->Ae->AT->Prop):Prop where
 cx:∀i v h h',(∀b o,h.get? b=Ab o->EL o->h'.get? b=Ab o)->J i v h->J i v h'
 mw:∀i v h,J i v h->∀B,ob=Ab B->∀o vs,h.get? B=Ab o->o.data≠.fields vs
 fn:∃fa fd,f=.ref fa/\∀h,BB W hb h->∃o,h.get? fa=Ab o/\o.data=.func fd
 step:∀A s i v e x l,CY k A->A.frames=Ab l->Bb W s.heap l->Gd W s->BB W hb s.heap->xs[i]? =Ab x->J i v s.heap->Rp W X s.heap e x->∀(Q:Jc)(E:Jc),
  (∀v' h' tk,BB W (Iu s.heap ob) h'->s.toks<=tk->J (i+1) v' h'->Q v' {s with heap:=h',toks:=tk})->Aw W.M A (call f [v,e]) Q E s
variable {j:Nat}{st:Bs} in
structure iT (W:BV)(hb:AT)(ah:E9)(f:Ae)(J:Nat->Ae->AT->Prop)(St:Nat->AT->Prop)(i:Nat)(v:Ae)(h:AT):Prop where
 st:St i h
 ns:∃m,h.Ns ah.locals m/\m "function"=Ab f/\m "value"=Ab v
 fc:D3 ah h
 le:BB W hb h
 j:J i v h
section
theorem P8 (A:D3 z h)(w:h.get? L=Ab o)(k:EL o):L≠z.locals:=λ q=>by
 obtain⟨C,E,H,s,hc,_⟩:=A;simp only[q,s] at w;cases w;unfold EL at k;replace k:=(hc)▸k;contradiction
variable {i n tk:Nat}{v:Ae}{l:List E9} in
inductive I' (W:BV)(hb:AT)(ah:E9)(f:Ae)(J:Nat->Ae->AT->Prop)(St:Nat->AT->Prop)(m:Nat)(s:Aq):Nat->Aq->Prop
 |mk {n:Nat} {H:AT} {tk:Nat} {v:Ae} {i:Nat} (hi:i<=m) (hn:n=m-i) (x:iT W hb ah f J St i v H) (l:s.toks<=tk):I' W hb ah f J St m s n {s with heap:=H,toks:=tk}
theorem bF {R:Ex->Aq->Prop}{a:List PV}{g p t u y D G:CE}{d:List E9}{ob:Option Ai}{f:Ae}{J:Nat->Ae->AT->Prop}{St:Nat->AT->Prop}{I:Ai}(S:QA W k ob X f a N J)(V:MX W A X I a St)(hA:CY k A)(a2:z.scope.kind=.function)(k1:z.kindOf "function"=Ab .local)(k2:z.kindOf "value"=Ab .local)(k3:z.kindOf "element"=Ab .local)
 (hI:I≠z.locals) (f4:I∈X) (d9:N.get? I=Ah) (c4:N.get? z.locals=Ah) (hL:z.locals∈X) (b2:BB W W.h0 N) (c5:W.di N) (e0:1<=s.toks) (a6:∀B,ob=Ab B->B∈X/\N.get? B=Ah/\B≠I/\B≠z.locals) (e1:A.frames=Ab (z::d)) (c6:z.frame=Ab z.locals) (e3:W.h0.get? z.locals=Ah) (c7:Bb W N d)
  {v0:Ae} (hv:iT W N z f J St 0 v0 s.heap)
 (hR:∀h' tk v,iT W N z f J (λ _ _=>True) a.length v h'->s.toks<=tk->R (.ok .next) {s with heap:=h',toks:=tk}):
 Es W.M A (.forLoop (.Name "element" g) (.ref I) [.Assign [.Name "value" p] (.Call (.Name "function" t) [.Name "value" u,.Name "element" y] [] D) G] [] z) R s:=by
 have hp:(z.scope.kind== .class||(z.scope.kind== .module&&z.locals !=z.globals))=Av:=by rw[a2];rfl
 refine Kn (I' W N z f J St a.length s) (λ n s' e4=>ML λ Q' E' gQ gE=>?_) a.length (.mk (AZ _) rfl hv (An _));induction e4 with |@mk h' tk v i hi hn x l=>
 obtain⟨oI,c8,e5,e6,f5,e7⟩:=V.cj _ _ x.st;have ext:∀{j:Nat}{h:AT},BC I h' h->BB W N h/\D3 z h/\J i v h/\(∃m,h.Ns z.locals m/\m "function"=Ab f/\m "value"=Ab v):=λ{j h} C=>by
  refine⟨x.le.ext d9 (λ o vs O hd=>by obtain rfl:=A4 c8 O;exact⟨e5,e6⟩) C,x.fc.at λ o O=>C _ o (Ne.symm hI) O,S.cx i v h' h (λ b o e hd=>C b o (λ q=>?_) e) x.j,?_⟩
  ·cases q;obtain rfl:=A4 c8 e;exact e7 hd
  ·obtain⟨m,⟨o,es,ep,O,r⟩,hm⟩:=x.ns;exact⟨m,⟨o,es,ep,C _ _ (Ne.symm hI) O,r⟩,hm⟩
 by_cases a7:i<a.length
 ·have hx:=AA a7;refine Cz (An _) (V.item i {s with heap:=h',toks:=tk} _ _ a[i] x.st hx λ e h E rv U C a1=>gQ _ _ ?_);clear gQ gE Q' E';refine ML λ Q' E' gQ gE=>?_;have b3:=a1;obtain⟨b4,Y,c9,m,hm,m1,m2⟩:=ext (j:=0) C;refine V.dn (i+1) {s with heap:=h,toks:=E} _ _ _ e U (gQ _ _ ?_);clear gQ gE Q' E';refine ML λ Q' E' gQ gE=>?_;refine II (C5 k3 hm (λ Q Z H b5=>gQ _ _ ?_) hp);clear gQ gE Q' E';refine ML λ Q' E' gQ gE=>?_;have d8:=V.cj _ _ U;have a3:=V.frame _ _ _ U (λ o O=>(H.2 I hI).trans O) λ b o a4 O _=>(H.2 b λ q=>a4 (q▸hL)).trans O;have a5:=Y.bo b5;have w:=b4.az c4 (λ o vs e' q=>by obtain⟨o',es,ep,b6,e8,b7⟩:=Y;have e2:=e';obtain rfl:=A4 b6 e2;cases b7.symm.trans q) H;have a8:=S.cx i v h Q (λ b o e' hd=>(H.2 b (P8 Y e' hd)).trans e') c9;have b8:=Rp.bi (λ b o e' n hd=>⟨(H.2 b (λ q=>n (q▸hL))).trans e',n⟩) rv;refine Jt λ gg kk=>?_;obtain⟨fa,fd,rfl,e9⟩:=S.fn;obtain⟨of,f0,f1⟩:=e9 Q w;refine kk ?_;refine Ay (CA rfl rfl rfl (B4 (NQ (FB a2 k1 Z m1 ?_))));refine Dm rfl ?_;refine Cj (o:=of) (fd:=fd) (Bf (AE (NQ (FB a2 k2 Z m2 ?_))));refine AE (NQ (FB a2 k3 Z ((if_pos rfl)) (A6 ⟨⟨f0,f1⟩,?_⟩)));have d0:Gd W {s with heap:=Q,toks:=E+1}:=⟨b2.trans w,w.2 c5,BD (Aa e0 (Aa l b3))⟩;refine S.step A {s with heap:=Q,toks:=E+1} i v e a[i] _ hA e1 ⟨by rw[a2];decide,c6,e3,a5,c7.bg w⟩ d0 w hx a8 b8 _ _ λ v' M b9 T a9 d5=>?_;have f2:=a9;have b0:∀B,ob=Ab B->z.locals≠B:=λ B q=>(a6 B q).2.2.2.symm;obtain⟨oJ,d6,d1,d2,d3,d4⟩:=V.cj _ _ a3;have c0:St (i+1) M:=V.frame _ _ _ a3 (λ o O=>by obtain rfl:=A4 d6 O;exact T.keep (by rw[JM (λ B q=>(a6 B q).2.2.1.symm)];exact d6) d3 d1) λ b o a4 O hd=>by
   have nB:∀B,ob=Ab B->b≠B:=λ B q q'=>a4 (by rw[q'];exact(a6 B q).1);exact D6 T ((JM nB).trans O) hd
  have a0:D3 z M:=by
   obtain⟨o,es,ep,O,c,r⟩:=a5;exact D3.bg (h:=Iu Q ob) ⟨o,es,ep,by refine Eq.trans (JM b0) ?_;exact O,c,r⟩ T
  have c1:M.Ns z.locals (λ x=>if x="element" then Ab e else m x):=by
   obtain⟨o,es,ep,O,r⟩:=Z;exact Dl T ⟨o,es,ep,by refine Eq.trans (JM b0) ?_;exact O,r⟩
  refine II (C5 (s:={s with heap:=M,toks:=b9}) k2 c1 (λ b1 c2 L c3=>?_) hp);refine BN ?_;have d7:iT W N z (.ref fa) J St (i+1) v' b1:=by
   refine⟨?_,⟨_,c2,by exact m1,by exact(if_pos rfl)⟩,a0.bo c3,?_,?_⟩
   ·exact V.frame _ _ _ c0 (λ o O=>(L.2 I hI).trans O) λ b o a4 O _=>(L.2 b λ q=>a4 (q▸hL)).trans O
   ·exact((PG w (λ B q=>(a6 B q).2.1) (S.mw i v Q a8)).trans T).az c4 (λ o vs e' q=>by obtain⟨o',es,ep,b6,e8,b7⟩:=a0;have e2:=e';obtain rfl:=A4 b6 e2;cases b7.symm.trans q) L
   ·exact S.cx _ _ M b1 (λ b o e' hd=>(L.2 b (P8 a0 e' hd)).trans e') d5
  exact gQ _ _ ⟨n-1,yC hn a7,.mk a7 (rM hn) d7 (BD (Aa l (Aa a1 (CQ a9))))⟩
 ·have f3:=rS hi a7;subst f3;refine Cz (An _) (V.done {s with heap:=h',toks:=tk} _ _ x.st λ h E C a1=>?_);have hq:=ext (j:=0) C;exact gQ _ _ (BN (hR h E v ⟨trivial,hq.2.2.2,hq.2.1,hq.1,hq.2.2.1⟩ (Aa l a1)))
end
section
theorem QA.more {J:Nat->Ae->AT->Prop}(S:QA W k ob X f g N J)(h:∀b∈X,b∈Y):QA W k ob Y f g N J:=
 ⟨S.cx,S.mw,S.fn,λ A s i v e x l a o w b c d j r=>S.step A s i v e x l a o w b c d j (r.ai h)⟩
theorem eM {M:Dr}(h:x≠y)(o:s.heap.get? x=Ab b)(w:s.heap.get? y=Ab a)(k:a.cls≠.type "tuple")(z:Q (.bool Av) s):Aw M A (EQ .Is (.ref x) (.ref y)) Q E s:=by
 exact Ac (SeqAt.wpAny_isSame_ref_other' h o w k (Ar z))
theorem YM (k:Aw W.M A.in1 (pyIter (.ref a)) (λ v h=>∃b,v=.ref b/\c v h) (λ _ _=>False) s):Aw W.M A (call (.builtin "iter") [.ref a]) c E s:=by
 refine call_function_entry (by decide+kernel) (by decide+kernel) kdk_entry_iter (kdk_args_iter _) ?_;unfold Builtin.«iter»;refine Ac (EI (by first |rfl |kernel_rfl!) ?_);refine Ac (DK k (λ v h o=>?_) λ _ _ x=>x.elim);obtain⟨b,rfl,q⟩:=o;exact Ar ⟨_,rfl,q⟩
end
def P! (P:Nat->CE)(h:List Bs):Bs:=.If (.Compare (.Name "initial" (P 5)) [.Is] [.Name "_initial_missing" (P 6)] (P 7)) h [.Assign [.Name "value" (P 8)] (.Name "initial" (P 9)) (P 10)] (P 11)
def E? (P:Nat->CE):Bs:=.For (.Name "element" (P 16)) (.Name "it" (P 12)) [.Assign [.Name "value" (P 17)] (.Call (.Name "function" (P 18)) [.Name "value" (P 19),.Name "element" (P 20)] [] (P 21)) (P 22)] [] (P 13)
def O? (P:Nat->CE):Bs:=.Return (Ab (.Name "value" (P 14))) (P 15)
def XJ (P:Nat->CE)(h:List Bs):List Bs:=[.Assign [.Name "it" (P 0)] (.Call (.Name "iter" (P 1)) [.Name "sequence" (P 2)] [] (P 3)) (P 4),P! P h,E? P,O? P]
inductive XI (W:BV)(mg mb:As->Option Ae)(a:Ai):Prop
 |mk (fd:FF) (P0:Nat->CE) (bTry:List Bs) (fo:Gw W a fd ["function","sequence","initial"] (XJ P0 bTry))
  (n1:fd.scope.names.lookup ("it":As)=Ab .local) (n2:fd.scope.names.lookup ("value":As)=Ab .local) (n3:fd.scope.names.lookup ("element":As)=Ab .local) (n4:fd.scope.names.lookup ("function":As)=Ab .local) (g1:CX fd.scope "iter"=Ag) (g2:CX fd.scope "_initial_missing"=Ag)
  (i1:mg "iter"=Ah) (i2:mb "iter"=Ab (.builtin "iter")) (mi:Ai) (o:Eo) (m1:mg "_initial_missing"=Ab (.ref mi)) (m2:W.h0.get? mi=Ab o) (m3:o.cls≠.type "tuple") (m4:o.cls≠.type "frame") (m5:o.cls≠.none)
section
theorem IT (h:V.names.lookup x=Ab .local)(k:D5 x=Ag):A3 V x=Ag:=by unfold A3;rw[h];simp[k]
theorem Yu (t:W.di h)(k:∀B,ob=Ab B->∀o s,h.get? B=Ab o->o.data≠.fields s):W.di (Iu h ob):=by
 cases ob with
 |none=>exact t
 |some B=>exact Nq t (k B rfl)
theorem PF (e:h.get? b=Ah):(Iu h ob).get? b=Ah:=by
 cases ob with
 |none=>exact e
 |some B=>exact MJ e
theorem cN:BB W (Iu h ob) h:=by
 cases ob with
 |none=>exact .refl _
 |some B=>exact SK
theorem T4 (k:∀B,ob=Ab B->∀o,h.get? B=Ab o->o.cls≠.type "frame")(z:Bb W h l):Bb W (Iu h ob) l:=z.imp λ s A=>by
 obtain⟨o,C,E,w,hc,H⟩:=A;exact⟨o,C,E,(JM λ B q N=>k B q o (N▸w) hc).trans w,hc,H⟩
theorem rN (F:FI W V z Z X h O)(o:V.names.lookup x=Ab .local)(s:V.names.lookup y=Ab .local)(w:O.lookup x=Ab (.av u))(A:O.lookup y=Ab (.av v)):∃m,h.Ns z.locals m/\m x=Ab u/\m y=Ab v:=by
 obtain⟨m,C,k⟩:=F.ns;obtain⟨a,E,H⟩:=k x _ o w;obtain⟨b,N,Q⟩:=k y _ s A;exact⟨m,C,(H)▸E,(Q)▸N⟩
theorem SA (h:a∉AW z):¬Ec V z a:=λ q=>h (q.elim (λ q=>q▸Ad) λ⟨_,_,q⟩=>Di q)
theorem Oo {J:Nat->Ae->AT->Prop}(Gk:E2 W C l mg mb)(R:XI W mg mb a)(hA:CY (k+1) A)(G:Gd W s)(hX:∀b∈X,W.h0.get? b=Ah/\∃o,s.heap.get? b=Ab o)(hs:Rp W X s.heap j (.list g))(O:∀B,ob=Ab B->B∈X/\∀o,s.heap.get? B=Ab o->(∀vs,o.data≠.fields vs)/\o.cls≠.type "frame")(b8:A.frames=Ab c)(a0:Bb W s.heap c)
 (ht:W.h0.get? t=Ah/\∃o,s.heap.get? t=Ab o) (S:QA W k ob X f g (Iu s.heap ob) J) (hJ:J 0 (.ref t) s.heap)
 (hQ:∀r tk v,BB W (Iu s.heap ob) r->s.toks<=tk->J g.length v r->Q v {s with heap:=r,toks:=tk}):Aw W.M A (call (.ref a) [f,j,.ref t]) Q E s:=by
 obtain⟨fd,P,c8,fo,n1,n2,n3,n4,g1,g2,i1,i2,mi,om,b9,a1,c0,c1,c2⟩:=R;refine Ge fo hA G hX (.av (.aa hs (.av .nil))) rfl λ z u V he B c9 a2 w=>?_;have p:∀x,z.kindOf x=fd.scope.names.lookup x:=λ x=>by rw[he];rfl
 have a3:=hA.down z;have a4:W.di (Iu s.heap ob):=Yu G.dl λ B q o vs e=>((O B q).2 o e).1 vs;have D:Bb W (Iu s.heap ob) c:=T4 (λ B q o e=>((O B q).2 o e).2) a0;have d0:=w.F;refine Ay (CA (t:=.Name "it" (P 0)) rfl rfl rfl (B4 (CH Gk w.F (w.gd B) g1 (.inr ⟨i1,i2⟩) ?_)));refine Dm (es:=[.Name "sequence" (P 2)]) rfl ?_;refine F4 rfl (Bf (AE (w.F.name (x:="sequence") (sl:=.aa (.list g)) ((λ h=>h) (by kernel_rfl)) λ d1 a5=>A6 ?_)));obtain⟨la,_,_,e1,_⟩:=a5.aj;subst e1;refine YM (Hg (s:={s with heap:=u,toks:=V}) (.list a5) λ I y hI d2 hk c3=>⟨I,rfl,?_⟩);have L:I∉AW z++X:=λ q=>by obtain⟨o,ho⟩:=w.F.an I q;exact Do hI ho
 refine Jt λ gg kk=>?_;obtain⟨St,c4,M⟩:=MX.of (A:=A.deeper z) (c3 L) Ad a3.handled;refine kk ?_;have a6:BB W u y:=.af hk;have a7:XS W fd.scope z s.heap (AW z++X) (AW z++X) {s with heap:=y,toks:=V} _:=w.ae (tk:=V) a6 (An _);refine XS.fg B a7 (x:="it") (sl:=.av (.ref I)) (IT n1 (by decide+kernel)) rfl (λ d q=>nomatch q) λ a8 c5 N T a9=>?_;obtain⟨ot,c6⟩:=BL N.le ht.2;have b0:a8.get? mi=Ab om:=(B.ao.trans N.le).keep a1 c1 c2;have c7:t≠mi:=λ q=>by have:=ht.1;simp only[q,a1] at this;contradiction
 refine Ay (KT (DB (FI.av N.F (v:=.ref t) (by kernel_rfl) (CH Gk N.F (N.gd B) g2 (.inl b9) (eM c7 c6 b0 c0 (CB ?_)))) (by rfl)));refine Ay (CA (t:=.Name "value" (P 8)) rfl rfl rfl (FI.av N.F (v:=.ref t) (by kernel_rfl) ?_));refine XS.fg B N (x:="value") (sl:=.av (.ref t)) (IT n2 (by decide+kernel)) rfl (λ d q=>(by contradiction)) λ n Z H U b1=>BN ?_;have mv:∀{i:Nat}{h r:AT},St i h->Ls W (Ec fd.scope z) h r->St i r:=λ{i h r} st P=>M.frame i h r st (λ o e=>P.keep I o (SA (λ q=>L (A8 _ q))) e) λ b o hb e _=>P.keep b o (SA λ q=>hb (Af _ (A8 _ q))) e;have b2:=mv (mv c4 T) U;refine Ay ?_;simp only[E?];refine Ac (A0 (Ac (FI.av (s:={s with heap:=n,toks:=Z}) H.F (v:=.ref I) (by kernel_rfl) (Ac (EI (LK (e:=.Name "it" (P 12)) rfl z _) (Ac (A0 (Ac (Bt (M.self 0 {s with heap:=n,toks:=Z} _ _ b2 ?_))))))))));refine NO (h:=Ah) ?_;have b3:s.heap.get? z.locals=Ah:=B.wr _ (.inl rfl);have b4:s.heap.get? I=Ah:=by
  exact BB.bh w.le hI
 have b5:I≠z.locals:=λ q=>L (A8 _ (q▸Ad));refine bF (s:={s with heap:=n,toks:=Z}) (S.more (Y:=I::(AW z++X)) λ b hb=>Af _ (AV _ hb)) M a3 H.F.kind (by rw[p];exact n4) (by rw[p];exact n2) (by rw[p];exact n3) b5 Ad (PF b4) (PF b3) (Af _ (A8 _ Ad)) (PG G.ao (λ B q=>(hX B (O B q).1).1) λ B q o vs e=>((O B q).2 o e).1 vs) a4 H.tk (λ B' q=>⟨Af _ (AV _ (O B' q).1),?_,?_,?_⟩) (by show A.frames.map (z::·)=_;rw[b8];rfl) (by rw[he];rfl) (w.F.alive z.locals (w.F.zx _ (w.F.bb _ Ad))).1 D (⟨b2,rN H.F n4 n2 (by kernel_rfl) (by kernel_rfl),H.fc,cN.trans H.le,S.cx _ _ _ _ (λ b o e hd=>D6 H.le e hd) hJ⟩:iT W (Iu s.heap ob) z f J St 0 (.ref t) n) λ b6 Y v x b7=>?_
 ·subst q;exact IW
 ·intro q';obtain⟨o,ho⟩:=(hX B' (O B' q).1).2;rw[q',b4] at ho;contradiction
 ·intro q';obtain⟨o,ho⟩:=(hX B' (O B' q).1).2;rw[q',b3] at ho;contradiction
 refine Jt λ gg kk=>?_;obtain⟨m,hn,m1,m2⟩:=x.ns;refine kk ?_;refine Ay (EP (NQ (FB H.F.kind (by rw[p];exact n2) hn m2 ?_)));exact hQ b6 Y v x.le (Aa a2 (Aa a9 (Aa b1 b7))) x.j
end
section
theorem BX.ap (K:D9 V z Z X h H)(k:a∈Z)(hw:¬Ec V z a)(r:BX W X h a d):BX W X H a d:=
 r.map (λ o e c=>K _ _ (.inr ⟨k,hw,by rcases c with c |c |c<;>rw[c]<;>nofun,by rcases c with c |c |c<;>rw[c]<;>nofun⟩) e) λ _ _ r=>r.bi λ b o e n s=>⟨K b o (.inl ⟨n,s⟩) e,n⟩
variable {fr:List Nat} in
structure ZG (W:BV)(A:Dj)(ah:E9)(hb:AT)(outer:List E9):Prop where
 fr:A.frames=Ab (ah::outer)
 kind:ah.scope.kind≠.module
 at_:ah.frame=Ab ah.locals
 out:Bb W hb outer
 hh:A.handled=Ah
theorem ZG.stack (h:ZG W A z N a)(S:XS W V z N Z X s O):Bb W s.heap (z::a):=
 ⟨h.kind,h.at_,(S.F.alive z.locals (S.F.zx _ (S.F.bb _ Ad))).1,S.fc,h.out.bg S.le⟩
theorem Up {Cl D:Ai}{m:List Ae}{f:List Bs}{p r u v y G I l:CE}{j:List (As×PV)}{b:List E9}(Gk:E2 W C k mg mb)(B:XB W V z N)(b2:ZG W A z N b)(hu:A.units+2<Ja)(H:HS W V z N Z X D j (z::b) s O){x:As}(xo:Gm W mg x Cl m){g:As}
 (R:Rz W A (execs f z) s (z::b) Cl g) (a7:CX V x=Ag) (a8:CX V "str"=Ag) {n c:As} (hn:V.names.lookup n=Ab .local) (U:D5 n=Ag) (hw:A3 V c=Ag) (b6:n≠c) {i:FG->Aq->Prop}
 (hQ:∀h' tk e,HS W V z N Z X D j (z::b) {s with heap:=h',toks:=tk} (NE (Bu (Bu O n (.av (.ref e))) c (.aa (.str g))) n)->D9 V z Z X s.heap h'->s.toks<=tk->i .next {s with heap:=h',toks:=tk}):
 Aw W.M A (exec (.Try f [.ExceptHandler (Ab (.Name x p)) (Ab n) [.Assign [.Name c r] (.Call (.Name "str" u) [.Name n v] [] y) G] I] [] [] l) z) i E s:=by
 refine M0 (R _ _ λ b3 Q e t o o1 z1 F St=>WF (by simp) b2.fr St F λ Y a0 J=>?_);refine Kg (s:={s with heap:=Y,toks:=Q}) Gk B xo xo (b:=Ag) (by simp) H.S o a0 J a7 (by unfold A3;rw[hn,U];rfl) (λ _ b4 a9 h L a1 b0 a2=>?_) λ q=>(BI q);refine Ay (CA rfl rfl rfl (NA (A:=A.mark (Ab (.ref e))) Gk h.F (h.gd B) (by rw[Ca,if_pos rfl]) a8 xo (hu) a1 ?_));refine XS.fg B h (sl:=.aa (.str g)) hw (.str g t o1 z1) (λ d q=>(by contradiction)) λ b5 b1 a3 M a4=>BN ?_;refine XS.jb B a3 hn U λ a5 S w T a6=>?_;have kd:=(L.trans (M.ap λ a ha=>h.F.br ha)).trans T;exact hQ a5 S e ⟨w,H.dD.ap kd H.zD H.dy,b2.stack w,H.zD,H.fD,H.bD⟩ kd (Aa o (Aa a2 (Aa a4 a6)))
end
section
def OH (k:BV)(w:AT)(X:List Ai)(D:Ai)(z:List (As×PV))(A C:PV)(o:Aq)(E:Jc):Prop:=
 ∀h s t n v2 v3,BB k w h->o.toks<=s->h.get? t=Ab (M1 #[.ref D,v2,v3] n)->Rp k X h v2 A->Rp k X h v3 C->BX k X h D (.dict z)->t∉X->E (.ref t) {o with heap:=h,toks:=s}
theorem OH.aq (x:OH W N X D j m i s Q)(l:s.toks<=p):OH W N X D j m i {s with heap:=H,toks:=p} Q:=
 λ H h t n v2 v3 a b c d e f g=>x H h t n v2 v3 a (Aa l b) c d e f g
theorem P6 (F:FI W V z Z X h O)(k:h.get? t=Ah):t∉X:=λ q=>by
 obtain⟨o,s⟩:=F.an t q;exact Do k s
theorem RJ (w:HS W V z N Z X D g l s O)(C:O.lookup c=Ab (.av (.ref D)))(H:Cm e=Ag)(Q:Cm b=Ag)(q:Dq W A (eval e z) s (λ v o=>Rp W X o v i))
 (r:∀k h,BB W s.heap k->s.toks<=h->Dq W A (eval b z) {s with heap:=k,toks:=h} (λ v o=>Rp W X o v d)) {f:FG->Aq->Prop} (u:OH W N X D g i d s λ v x=>f (.ret v) x):
 Aw W.M A (exec (.Return (Ab (.Tuple [.Name c m,e,b] p j)) a) z) f E s:=
 EP (Tt w.S.F C H Q q r λ o y t n v2 v3 K B G I J L=>u o y t n v2 v3 (w.S.le.trans K) B I J L (w.dD.ae K) (P6 w.S.F G))
theorem Ql {M:Nat}{m:List PV}{y G I J L R S x:CE}{p:PV}{r:List (As×PV)}{l:As}{j:List E9}{D:Ai}(B:XB W V z N)(a9:HS W V z N Z X D r (z::j) s O){e:Ai}{n g i:As}{d:AT}{c:Nat}(k:XS W V z N Z X {s with heap:=d,toks:=c} (Bu O n (.av (.ref e))))(Q:D9 V z Z X s.heap d)(a1:s.toks<=c)
 (hn:V.names.lookup n=Ab .local) (b0:D5 n=Ag) {u:As} (b1:O.lookup g=Ab (.av (.ref D))) (b2:O.lookup i=Ab (.aa p)) (b3:O.lookup l=Ab (.aa (.list m))) (T:g≠n/\i≠n/\l≠n) (hz:m.length+1<=B2)
 {a:Expr} (b4:Cm a=Ag) (he:∀h tk,BB W d h->c<=tk->Dq W (A.mark (Ab (.ref e))) (eval a z) {s with heap:=h,toks:=tk} (λ v h'=>Rp W X h' v (.str u))) {q:FG->Aq->Prop}
 (hQ:OH W N X D r p (.list (m++[.str u])) s λ v s'=>q (.ret v) s'):
 Aw W.M (A.mark (Ab (.ref e))) (execs [.Return (Ab (.Tuple [.Name g y,.Name i G,.BinOp (.Name l I) .Add (.List [a] J) L] M R)) S] z) (λ f a2=>Aw W.M A (do bindName z n .none;JA z n x) (λ _ a3=>q f a3) E a2) (λ _ _=>False) {s with heap:=d,toks:=c}:=by
 have y1:(Bu O n (.av (.ref e))).lookup g=Ab (.av (.ref D)):=by rw[Ca,if_neg T.1];exact b1
 have y2:(Bu O n (.av (.ref e))).lookup i=Ab (.aa p):=by rw[Ca,if_neg T.2.1];exact b2
 have y3:(Bu O n (.av (.ref e))).lookup l=Ab (.aa (.list m)):=by rw[Ca,if_neg T.2.2];exact b3
 refine Ay (EP (Tt k.F y1 rfl rfl (LJ k.F y2) (λ a4 U C Y=>UK (k.F.ae C) y3 b4 (he a4 U C Y) hz) λ a5 b5 t n' v2 v3 K lt fr ht r2 r3=>?_));refine XS.jb B (k.ae K lt) hn b0 λ H a0 a6 w a7=>?_;have tX:=P6 k.F fr;have a8:∀b o,a5.get? b=Ab o->b∉X->(o.cls=.type "list"\/o.cls=.type "tuple"\/o.cls=.type "dict")->H.get? b=Ab o/\b∉X:=λ b o e nx hd=>⟨w b o (.inl ⟨nx,hd⟩) e,nx⟩;refine hQ H a0 t n' v2 v3 a6.le (Aa a1 (Aa lt a7)) (w t _ (.inl ⟨tX,.inr (.inl rfl)⟩) ht) (Rp.bi a8 r2) (Rp.bi a8 r3) (a9.dD.ap ((Q.trans (BB.ap K)).trans w) a9.zD a9.dy) tX
end
section
theorem aM {Cl:Ai}{c:List Ae}{f d:CE}(h:E2 W C k mg mb)(F:FI W V z Z X s.heap O)(G:Gd W s){n x:As}{b:CE}{e:Ai}{a:As}{t:Tok}(o:O.lookup n=Ab (.av (.ref e)))(w:CX V "str"=Ag)(H:Gm W mg x Cl c)(N:A.units+2<Ja)
 (I:JX s.heap e (.ref Cl) (.str a t)) (g:Ba a=Ag) (z1:a.length<=B2):Dq W A (eval (.Call (.Name "str" d) [.Name n b] [] f) z) s (λ v i=>Rp W X i v (.str a)):=λ Q E j=>
 NA h F G o w H N I (j _ s.heap s.toks (.refl _) (An _) (.str a t g z1))
theorem bQ (F:FI W V z Z X s.heap O)(hc:Ba c=Ag/\c.length<=B2)(m:∀l,s.toks<=l->Dq W A (eval e z) {s with toks:=l} (λ v i=>Rp W X i v (.str a)))(n:GI .Add (.str c) (.str a)=Ab (.str u)):
 Dq W A (eval (.BinOp (.Constant (.str c) b d) .Add e f) z) s (λ v i=>Rp W X i v (.str u)):=λ Q E p=>by
 refine LX (KU (m _ (Bq _) _ _ λ v w k h C q=>?_));exact MR (s:={s with heap:=w,toks:=k}) (F.ae h).an (.str c s.toks hc.1 hc.2) q n _ _ λ v3 H o N g j=>p v3 H o (h.trans N) (Aa (Aa (Bq _) C) g) j
theorem PY {Cl D:Ai}{k1:Nat}{L:List PV}{J:List Ae}{g:List Bs}{p1 p2 p3 p4 p5 p6 p7 a0 q1 q2 q3 q4 q6 q7 q8:CE}{T:PV}{S:List (As×PV)}{y:As}{d:List E9}(Gk:E2 W C k mg mb)(B:XB W V z N)(c7:ZG W A z N d)(hu:A.units+2<Ja)(b7:HS W V z N Z X D S (z::d) s O){x l m:As}{C1 G:Ai}{p r:List Ae}(xo:Gm W mg x Cl J)(b8:Gm W mg l C1 p)(b9:Gm W mg m G r)
 {b1:Bool} (c0:(BK Cl::J).contains (.ref C1)=b1) (c1:b1=Av->(BK Cl::J).contains (.ref G)=Ag) {f u:As} (R:Rz W A (execs g z) s (z::d) Cl f) (c2:CX V l=Ag) (c3:CX V m=Ag) (c4:CX V "str"=Ag)
 (hw:if b1=Ag then GI .Add (.str "no ") (.str f)=Ab (.str u) else u=f) {n i j:As} (hn:V.names.lookup n=Ab .local) (a9:D5 n=Ag) (b2:O.lookup i=Ab (.av (.ref D))) (b3:O.lookup j=Ab (.aa T)) (b4:O.lookup y=Ab (.aa (.list L))) (b5:i≠n/\j≠n/\y≠n) (hz:L.length+1<=B2)
 {U Y q5 q9 r1 r2 r3 r4 r5 r6 r7 r8:CE} {k2 k3:Nat} {M:FG->Aq->Prop} (hQ:OH W N X D S T (.list (L++[.str u])) s λ v s'=>M (.ret v) s'):
 Aw W.M A (exec (.Try g [.ExceptHandler (Ab (.Name l r1)) (Ab n) [.Return (Ab (.Tuple [.Name i p1,.Name j p2,.BinOp (.Name y p3) .Add (.List [.BinOp (.Constant (.str "no ") k3 r2) .Add (.Call (.Name "str" r3) [.Name n r4] [] r5) r6] p4) p5] k1 p6)) p7] U,
  .ExceptHandler (Ab (.Name m r7)) (Ab n) [.Return (Ab (.Tuple [.Name i q1,.Name j q2,.BinOp (.Name y q3) .Add (.List [.Call (.Name "str" q8) [.Name n q9] [] Y] q4) q5] k2 q6)) q7] r8] [] [] a0) z) M E s:=by
 have b6:A3 V n=Ag:=by unfold A3;rw[hn,a9];rfl
 refine M0 (R _ _ λ c6 a2 e t a1 o1 z1 F St=>WF (by simp) c7.fr St F λ a6 a7 a3=>?_);have a8:∀{w:AT}{H:Nat},XS W V z N Z X {s with heap:=w,toks:=H} (Bu O n (.av (.ref e)))->JX w e (.ref Cl) (.str f t)->∀h tk,1<=tk->BB W w h->∀{a b c:CE},Dq W (A.mark (Ab (.ref e))) (eval (.Call (.Name "str" a) [.Name n b] [] c) z) {s with heap:=h,toks:=tk} (λ v h'=>Rp W X h' v (.str f)):=
  λ{w H} o I h tk ht K{a b c}=>aM Gk (o.F.ae K) ⟨(o.gd B).ao.trans K,K.2 (o.gd B).dl,ht⟩ (by rw[Ca,if_pos rfl]) c4 xo (hu) (I.bg (by simp) K) o1 z1
 refine Kg (s:={s with heap:=a6,toks:=a2}) Gk B xo b8 c0 b7.S a1 a7 a3 c2 b6 (λ q w H o Q a4 b0 a5=>?_) λ q=>?_
 ·subst q;refine Ql B b7 o Q (Aa a1 a5) hn a9 b2 b3 b4 b5 hz rfl (λ h tk K lt=>bQ (o.F.ae K) ⟨by decide+kernel,by decide+kernel⟩ (λ c5 lt'=>a8 o a4 h c5 (Aa o.tk (Aa lt lt')) K) hw) hQ
 ·subst q;cases hw;refine Kg (s:={s with heap:=a6,toks:=a2}) Gk B xo b9 (c1 rfl) b7.S a1 a7 a3 c3 b6 (λ q w H o Q a4 b0 a5=>?_) λ q=>(BI q);exact Ql B b7 o Q (Aa a1 a5) hn a9 b2 b3 b4 b5 hz rfl (λ h tk K lt=>a8 o a4 h tk (Aa o.tk lt) K) hQ
end
section
theorem FI.sameBut (F:FI W V z Z X h O)(k:BM D h H)(A:D∈X)(C:D∉AW z)(s:∀y d,O.lookup y≠Ab (.own d))(w:∃o,H.get? D=Ab o):FI W V z Z X H O:=
 F.same F.bb F.zx (λ _ n=>n.sameBut k λ q=>C (q▸Ad)) (λ _ _ _ e i=>i.sameBut k λ q=>C (q▸Di e)) (λ y _ N Q r=>by
   cases N with
   |aa e=>exact Rp.az k A r
   |av u=>exact r
   |cg u d=>exact⟨r.1,Rp.az k A r.2⟩
   |own e=>exact absurd Q (s y e)) λ b E=>⟨(F.alive b E).1,GD k w (F.alive b E).2⟩
theorem Us (L:E2 W C k mg mb)(M:CY k A)(B:XB W V z N)(y:HS W V z N Z X D g l s O)(R:Dc C V O (.Call (.Name f i) args [] j) d)(S:A3 V a=Ag){e:FG->Aq->Prop}
 (T:∀I G,HS W V z N Z X D g l {s with heap:=I,toks:=G} (Bu O a (.aa d))->s.toks<=G->e .next {s with heap:=I,toks:=G}):
 Aw W.M A (exec (.Try [.Assign [.Name a m] (.Call (.Name f i) args [] j) p] (b::c) [] [] n) z) e E s:=by
 refine M0 (Ay (CA (t:=.Name a m) rfl rfl rfl (R.at L M y.S.F (y.S.gd B) _ _ λ v J w r h U=>?_)));have o:=y.ae (tk:=w) r h;refine XS.fg B o.S (x:=a) (sl:=.aa d) S U (λ d q=>nomatch q) λ t H u Q x=>BN (BN ?_);exact T t H (o.bj u Q) (Aa h x)
theorem Uq {c:List (As×PV)}(Gk:E2 W C k mg mb)(hA:CY k A)(B:XB W V z N)(H:HS W V z N Z X D c (z::a) s O)(a2:ZG W A z N a)(h1:O.lookup e=Ab (.aa d))(h2:O.lookup f=Ab (.av (.ref D)))(hi:Dc C V O i (.str b))
 (M:∀y d,O.lookup y≠Ab (.own d)) (hz:c.length+1<=B2) {g:FG->Aq->Prop} (hQ:∀h' S,HS W V z N Z X D (Fb c b d) (z::a) {s with heap:=h',toks:=S} O->s.toks<=S->g .next {s with heap:=h',toks:=S}):
 Aw W.M A (exec (.Assign [.Subscript (.Name f l) i m] (.Name e n) j) z) g E s:=by
 refine wpAny_Assign_Subscript (LJ H.S.F h1 _ _ λ v a0 T R x rv=>?_) (by rfl);have w:=H.ae R x;refine FI.av w.S.F h2 ?_;refine hi.at Gk hA w.S.F (w.S.gd B) _ _ λ kv a1 Q G I rk=>?_;have h:=w.ae G I;have L:=rv.ae G;obtain⟨t,rfl,o1,z1⟩:=rk.aj;obtain⟨U,e1,y,a3,q,rl⟩:=h.dD;have Y:=FW;refine wpAny_setItem_pairs (knd:=W.K) (k:=b) (by exact beq_self_eq_true _) e1 (λ p hm u=>?_) (Aa (AB (by simpa using congrArg BR q)) (Aa (CQ hz) Y));obtain⟨r1,r2⟩:=LC q rl L;have hX:D∈X:=H.S.F.zx _ H.zD;have r:BX W X p D (.dict (Fb c b d)):=⟨_,hm,y,Aa ((by simpa using congrArg BR r1)▸(HG c b d)) hz,r1,r2.az u hX⟩;have J:XS W V z N Z X {s with heap:=p,toks:=Q+1} O:=
  ⟨h.S.F.sameBut u hX H.fD M r.alive,h.S.le.az H.bD (Jr (d:=.dict c) ⟨U,e1,y,a3,q,rl⟩) u,BD h.S.tk,H.S.fr,h.S.fc.at λ o ho=>(u.2 _ (λ q=>H.fD (q▸Ad))).trans ho⟩
 exact hQ p (Q+1) ⟨J,r,a2.stack J,H.zD,H.fD,H.bD⟩ (Aa x (BD I))
end
def F? (k:As)(h:Expr)(P:Nat->CE)(K:Nat->Nat):Bs:=.Try [.Return (Ab (.Tuple [.Name "book" (P 6),.BinOp (.Name "heard" (P 7)) .Add (.List [h] (P 8)) (P 9),.Name k (P 10)] (K 1) (P 11))) (P 12)] [.ExceptHandler (Ab (.Name "error_reply" (P 13))) (Ab "error") [.Assign [.Name "words" (P 14)] (.Call (.Name "str" (P 15)) [.Name "error" (P 16)] [] (P 17)) (P 18)] (P 19)] [] [] (P 20)
def V' (h:As)(P:Nat->CE)(K:Nat->Nat):Bs:=.Try [.Assign [.Name "found" (P 21)] (.Call (.Name "parse229" (P 22)) [.Name "words" (P 23),.Tuple [.Constant (.str "peer") (K 2) (P 24),.Constant (.int 21) (K 3) (P 25)] (K 4) (P 26)] [] (P 27)) (P 28)] [.ExceptHandler (Ab (.Name "error_reply" (P 29))) (Ab "error") [.Return (Ab (.Tuple [.Name "book" (P 30),.Name "heard" (P 31),.BinOp (.Name h (P 32)) .Add (.List [.BinOp (.Constant (.str "no ") (K 5) (P 33)) .Add (.Call (.Name "str" (P 34)) [.Name "error" (P 35)] [] (P 36)) (P 37)] (P 38)) (P 39)] (K 6) (P 40))) (P 41)] (P 42),.ExceptHandler (Ab (.Name "error_proto" (P 43))) (Ab "error") [.Return (Ab (.Tuple [.Name "book" (P 44),.Name "heard" (P 45),.BinOp (.Name h (P 46)) .Add (.List [.Call (.Name "str" (P 47)) [.Name "error" (P 48)] [] (P 49)] (P 50)) (P 51)] (K 7) (P 52))) (P 53)] (P 54)] [] [] (P 63)
def U? (h:Expr)(P:Nat->CE):Bs:=.Assign [.Subscript (.Name "book" (P 55)) h (P 56)] (.Name "found" (P 57)) (P 58)
def U! (k:As)(h:Expr)(P:Nat->CE)(K:Nat->Nat):Bs:=.Return (Ab (.Tuple [.Name "book" (P 59),h,.Name k (P 60)] (K 8) (P 61))) (P 62)
def IQ (o:As)(h k s:Expr)(P:Nat->CE)(K:Nat->Nat):List Bs:=[.Assign [.Tuple [.Name "book" (P 0),.Name "heard" (P 1),.Name o (P 2)] (K 0) (P 3)] (.Name "state" (P 4)) (P 5),F? o h P K,V' o P K,U? s P,U! o k P K]
def NH (P:Nat->CE)(K:Nat->Nat):Expr:=.Call (.Name "parse229" (P 22)) [.Name "words" (P 23),.Tuple [.Constant (.str "peer") (K 2) (P 24),.Constant (.int 21) (K 3) (P 25)] (K 4) (P 26)] [] (P 27)
def HW (k:BV)(C:Nat)(w:Bg)(x:As)(v:As)(e:Expr)(f:As)(Cl:Ai)(E:As):Prop:=
 ∀(A:Dj)(h:E9)(z:AT)(Z X:List Ai)(s:Aq)(o:A5)(l:List E9),CY C A->A.frames=Ab l->Bb k s.heap l->XB k w h z->XS k w h z Z X s o->o.lookup x=Ab (.aa (.str v))->o.lookup f=Ah->Rz k A (eval e h) s l Cl E
def Pf (k:GK)(o:Bg)(x:As)(v:As)(e:Expr)(f:As)(d:PV):Prop:=∀h:A5,h.lookup x=Ab (.aa (.str v))->h.lookup f=Ah->Dc k o h e d
inductive UV (W:BV)(C:GK)(k:Nat)(sc:Bg)(P:Nat->CE)(K:Nat->Nat)(inner last idx:Expr)(C1 C2:Ai)(r:As)(es:List (As×PV))(hs ss:List PV):List (As×PV)->List PV->List PV->Prop
 |ca (d):Pf C sc "reply" r inner "parse257" d->hs.length+1<=B2->UV W C k sc P K inner last idx C1 C2 r es hs ss es (hs++[d]) ss
 |jq (w0 w' u):HW W k sc "reply" r inner "parse257" C1 w0->HW W k sc "words" w0 (NH P K) "parse229" C1 w'->GI .Add (.str "no ") (.str w')=Ab (.str u)->ss.length+1<=B2->UV W C k sc P K inner last idx C1 C2 r es hs ss es hs (ss++[.str u])
 |ju (w0 w'):HW W k sc "reply" r inner "parse257" C1 w0->HW W k sc "words" w0 (NH P K) "parse229" C2 w'->ss.length+1<=B2->UV W C k sc P K inner last idx C1 C2 r es hs ss es hs (ss++[.str w'])
 |jz (w0 d key hs'):HW W k sc "reply" r inner "parse257" C1 w0->Pf C sc "words" w0 (NH P K) "parse229" d->(∀ρ:A5,ρ.lookup ("heard":As)=Ab (.aa (.list hs))->Dc C sc ρ idx (.str key))->(∀ρ:A5,ρ.lookup ("heard":As)=Ab (.aa (.list hs))->Dc C sc ρ last (.list hs'))->es.length+1<=B2->
  UV W C k sc P K inner last idx C1 C2 r es hs ss (Fb es key d) hs' ss
variable {nl:List (Nat×Nat)}{st:Bs} in
structure Ly (sc:Bg)(x3:As)(inner last:Expr):Prop where
 st:(A3 sc "book"&&A3 sc "heard"&&A3 sc x3)=Ag
 mj:sc.names.lookup ("error":As)=Ab .local
 m0:A3 sc "words"=Ag
 nh:A3 sc "found"=Ag
 g1:CX sc "error_reply"=Ag
 g2:CX sc "error_proto"=Ag
 gs:CX sc "str"=Ag
 ni:Cm inner=Ag
 nl:Cm last=Ag
 x3:x3="spoiled"\/x3="refused"
section
theorem S4:∀(h:List (As×GA))(n m:Nat)(k:List (As×Ai)),m<=n->(∀p∈k,m<=p.2)->∀p∈CF n h k,m<=p.2:=by
 intro h;induction h with
 |nil=>
  intro n m k w z p o;exact z p o
 |cons C r s=>
  intro n m k w z p o;obtain⟨x,E⟩:=C;unfold cellsFrom at o;split at o
  ·exact s (n+1) m _ (BD w) (λ q A=>by
    rcases Ak.mp A with rfl |A
    ·exact w
    ·exact z q A) p o
  ·exact s n m k w z p o
theorem Oy:∀b∈AW (B5 fd h.objs.size a),h.get? b=Ah:=λ b k=>by
 rcases Ak.mp k with q |q
 ·rw[q];exact Ci h
 ·obtain⟨⟨n,c⟩,o,rfl⟩:=AH.mp q;exact Lk (CQ (S4 fd.scope.names _ (h.objs.size+1) [] (An _) (λ p s=>by cases s) (n,c) o))
structure HL (D:Ai)(hs ss:List PV)(x3:As)(ρ:A5):Prop where
 ff:ρ.lookup ("book":As)=Ab (.av (.ref D))
 ca:ρ.lookup ("heard":As)=Ab (.aa (.list hs))
 x3:ρ.lookup x3=Ab (.aa (.list ss))
 ik:ρ.lookup ("parse229":As)=Ah
 own:∀y d,ρ.lookup y≠Ab (.own d)
def Ok (h n:As):Prop:=n≠"book"/\n≠"heard"/\n≠h/\n≠"parse229"
theorem WR {a:As}(h:a="spoiled"\/a="refused"):Ok a "error"/\Ok a "words"/\Ok a "found":=by
 unfold Ok;rcases h with q |q<;>(rw[q];decide+kernel)
theorem HL.set (k:HL D b c a O)(o:Ok a n)(s:∀d,sl≠.own d):HL D b c a (Bu O n sl):=by
 have g:∀{y:As},n≠y->(Bu O n sl).lookup y=O.lookup y:=λ h=>(Ca ..).trans (if_neg h.symm);refine⟨(g o.1).trans k.ff,(g o.2.1).trans k.ca,(g o.2.2.1).trans k.x3,(g o.2.2.2).trans k.ik,λ y d q=>?_⟩;by_cases e:n=y
 ·rw[Ca,if_pos e.symm] at q;injection q with q;exact s d q
 ·exact k.own y d ((g e).symm.trans q)
theorem HL.drop (k:HL D b c a O)(o:Ok a n):HL D b c a (NE O n):=by
 have g:∀{y:As},n≠y->(NE O n).lookup y=O.lookup y:=λ h=>(ID ..).trans (if_neg h.symm);refine⟨(g o.1).trans k.ff,(g o.2.1).trans k.ca,(g o.2.2.1).trans k.x3,(g o.2.2.2).trans k.ik,λ y d q=>?_⟩;by_cases e:n=y
 ·rw[ID,if_pos e.symm] at q;cases q
 ·exact k.own y d ((g e).symm.trans q)
def pS:Dt->Bool
 | .own _=>Ag
 |_=>Av
theorem rP {l:A5}(h:l.all (λ p=>!pS p.2)=Ag):∀y d,l.lookup y≠Ab (.own d):=λ y d e=>nomatch (show Av=Ag from AR.mp h _ (mem_of_lookup e))
theorem mT {ss hs:List PV}{a:As}{D:Ai}{t:Nat}{r:As}(k:a="spoiled"\/a="refused"):∃h:A5,h=Bu (Bu (Bu ((["state","reply"]:List As).zip [Dt.av (.ref t),Dt.aa (.str r)]) "book" (.av (.ref D))) "heard" (.aa (.list hs))) a (.aa (.list ss))/\
 HL D hs ss a h/\h.lookup ("reply":As)=Ab (.aa (.str r))/\h.lookup ("parse257":As)=Ah:=by
 rcases k with rfl |rfl<;>exact⟨_,rfl,⟨by kernel_rfl,by kernel_rfl,by kernel_rfl,by kernel_rfl,rP (by kernel_rfl)⟩,by kernel_rfl,by kernel_rfl⟩
theorem Li {b:A5}(v:E2 W C k mg mb){P:Nat->CE}{K:Nat->Nat}(T:Ly V f a d)(x:CY k A)(B:XB W V z N)(q:ZG W A z N l)(y:A.units+2<Ja)
 (G:Gm W mg "error_reply" C1 g) (w:HS W V z N Z X D m (z::l) s b) (L:HL D n p f b) (I:b.lookup ("reply":As)=Ab (.aa (.str r))) (J:b.lookup ("parse257":As)=Ah)
 (M:HW W k V "reply" r a "parse257" C1 i) {j:FG->Aq->Prop} (hc:∀t Q h,HS W V z N Z X D m (z::l) {s with heap:=t,toks:=Q} h->s.toks<=Q->HL D n p f h->h.lookup ("words":As)=Ab (.aa (.str i))->Aw W.M A (execs c z) j E {s with heap:=t,toks:=Q}):
 Aw W.M A (execs (F? f a P K::c) z) j E s:=by
 obtain⟨u,R,_⟩:=WR T.x3;refine Ay (Up v B q y w G (Qf (qX (qG w.S.F L.ff rfl rfl (tK w.S.F L.ca (lW T.ni (M A z _ _ _ _ b (z::l) x q.fr w.St B w.S I J)))))) T.g1 T.gs T.mj (by decide+kernel) T.m0 (by decide+kernel) λ H o e S _ O=>hc H o _ S O (((L.set (sl:=.av (.ref e)) u λ _=>nofun).set (sl:=.aa (.str i)) R λ _=>nofun).drop u) ?_);rw[ID,if_neg (by decide+kernel),Ca,if_pos rfl]
theorem TT (d:BX W X h D (.dict a)):∃o,h.get? D=Ab o/\o.cls=.type "dict"/\∀k,o.data≠.fields k:=by
 obtain⟨s,⟨o,a,A,w,hc,z,_⟩,_⟩:=d;exact⟨o,w,hc.1,λ k q=>by cases z.symm.trans q⟩
theorem N5 (d:BX W X h D (.dict a)):∀o,h.get? D=Ab o->(∀s,o.data≠.fields s)/\o.cls≠.type "frame":=λ o w=>by
 obtain⟨A,k,hc,z⟩:=TT d;obtain rfl:=A4 k w;exact⟨z,by rw[hc];decide⟩
theorem V0 (Gk:E2 W C k mg mb){P:Nat->CE}{K:Nat->Nat}(fo:Gw W a fd ["state","reply"] (IQ x3 i j m P K))(T:Ly fd.scope x3 i j)(hA:CY (k+1) A)(b9:A.frames=Ab l)(St:Bb W s.heap l)(G:Gd W s)
 (hX:∀b∈X,W.h0.get? b=Ah/\∃o,s.heap.get? b=Ab o) (hD:D∈X) (x1:Gm W mg "error_reply" C1 U) (x2:Gm W mg "error_proto" S p) (c0:(BK S::p).contains (.ref C1)=Av)
  (hT:s.heap.get? t=Ab (M1 #[.ref D,v1,v2] nt)) (dD:BX W X s.heap D (.dict L)) (r1:Rp W X s.heap v1 (.list hs)) (r2:Rp W X s.heap v2 (.list ss)) (re:Rp W X s.heap e (.str r))
 (R:UV W C k fd.scope P K i j m C1 S r L hs ss x I J) (hQ:OH W (HO s.heap D) X D x (.list I) (.list J) s Q):Aw W.M A (call (.ref a) [.ref t,e]) Q E s:=by
 have a9:=N5 dD;refine Ge fo hA G hX (args:=[.av (.ref t),.aa (.str r)]) (.av (.aa re .nil)) rfl λ N a3 a4 he B0 b0 b1 S0=>?_;have Z:=hA.down N;obtain⟨B,S1⟩:=XS.gm B0 S0 (λ o vs e=>(a9 o e).1 vs) (hX D hD).1;have fresh:∀b∈AW N,s.heap.get? b=Ah:=by rw[he];exact Oy
 have c1:Bb W (HO s.heap D) l:=St.imp λ c6 fc=>by
  obtain⟨o,L,ep,ho,hc,hd⟩:=fc;refine⟨o,L,ep,?_,hc,hd⟩;rw[GG (λ q=>(a9 o ((congrArg s.heap.get? q).symm.trans ho)).2 hc)];exact ho
 have O:ZG W (A.deeper N) N (HO s.heap D) l:=⟨by show A.frames.map (N::·)=_;rw[b9];rfl,by rw[S0.F.kind];simp,by rw[he];rfl,c1,Z.handled⟩
 have H0:HS W fd.scope N (HO s.heap D) (AW N++X) (AW N++X) D L (N::l) {s with heap:=a3,toks:=a4} _:=
  ⟨S1,(dD.ay fresh).ae S0.le,O.stack S1,AV _ hD,b0 D hD,IW⟩
 have hu:(A.deeper N).units+2<Ja:=Z.u (by decide);have HQ:OH W (HO s.heap D) (AW N++X) D x (.list I) (.list J) s (λ v s'=>Q v s'):=λ h' tk t n v2 v3 a b c d e f g=>
  hQ h' tk t n v2 v3 a b c (d.ai λ b hb=>AV _ hb) (e.ai λ b hb=>AV _ hb) (by
   obtain⟨c2,e1,y,z,q,rl⟩:=f;exact⟨c2,e1,y,z,q,rl.ai λ b hb=>AV _ hb⟩) λ q=>g (AV _ q)
 unfold IQ;have c3:a3.get? t=Ab (M1 #[.ref D,v1,v2] nt):=S0.le.keep hT (by simp) (by simp);refine Ay (VZ (n:=nt) (s:={s with heap:=a3,toks:=a4}) Z.handled B H0 (y:="state") (T:=t) (d1:=.list hs) (d2:=.list ss) (by kernel_rfl) c3 ((Rp.ay fresh r1).ae S0.le) ((Rp.ay fresh r2).ae S0.le) T.st λ a2 a1 H2 b2=>?_);obtain⟨c4,b3,L1,k4,k5⟩:=mT (D:=D) (hs:=hs) (ss:=ss) (t:=t) (r:=r) T.x3;rw[<-b3] at H2;have a6:=Aa b1 b2;obtain⟨n1,_,n3⟩:=WR T.x3;induction R with
 |ca d g hz=>
  refine Ay (M0 (Ay (RJ (s:={s with heap:=a2,toks:=a1}) H2 L1.ff rfl rfl (UK H2.S.F L1.ca T.ni ((g c4 k4 k5).at Gk Z H2.S.F (H2.S.gd B)) hz) (λ h tk K _=>LJ (s:={s with heap:=h,toks:=tk}) (H2.S.F.ae K) L1.x3) (HQ.aq a6))))
 |jq w w' u g1 g2 b4 hz=>
  refine Li (s:={s with heap:=a2,toks:=a1}) Gk T Z B O hu x1 H2 L1 k4 k5 g1 λ a0 H a5 H3 V M m4=>?_;have V:s.toks<=H:=Aa a6 V;have R2:=g2 (A.deeper N) N _ _ _ {s with heap:=a0,toks:=H} a5 (N::l) Z O.fr H3.St B H3.S m4 M.ik;refine Ay (PY (s:={s with heap:=a0,toks:=H}) Gk B O hu H3 x1 x1 x2 (b1:=Ag) (by simp) (λ q=>nomatch q) (Qf (λ Q E hE=>CA (t:=.Name "found" (P 21)) rfl rfl rfl (R2 _ _ hE))) T.g1 T.g2 T.gs (by rw[if_pos rfl];exact b4) (n:="error") T.mj (by decide+kernel) M.ff M.ca M.x3 ⟨n1.1.symm,n1.2.1.symm,n1.2.2.1.symm⟩ hz (HQ.aq V))
 |ju w w' g1 g2 hz=>
  refine Li (s:={s with heap:=a2,toks:=a1}) Gk T Z B O hu x1 H2 L1 k4 k5 g1 λ a0 H a5 H3 V M m4=>?_;have V:s.toks<=H:=Aa a6 V;have R2:=g2 (A.deeper N) N _ _ _ {s with heap:=a0,toks:=H} a5 (N::l) Z O.fr H3.St B H3.S m4 M.ik;refine Ay (PY (s:={s with heap:=a0,toks:=H}) Gk B O hu H3 x2 x1 x2 (b1:=Av) c0 (λ _=>by simp) (Qf (λ Q E hE=>CA (t:=.Name "found" (P 21)) rfl rfl rfl (R2 _ _ hE))) T.g1 T.g2 T.gs (by rw[if_neg (by decide)]) (n:="error") T.mj (by decide+kernel) M.ff M.ca M.x3 ⟨n1.1.symm,n1.2.1.symm,n1.2.2.1.symm⟩ hz (HQ.aq V))
 |jz w d c7 c5 g1 g2 g3 g4 hz=>
  refine Li (s:={s with heap:=a2,toks:=a1}) Gk T Z B O hu x1 H2 L1 k4 k5 g1 λ a0 H a5 H3 V M m4=>?_;have V:s.toks<=H:=Aa a6 V;refine Ay (Us (s:={s with heap:=a0,toks:=H}) Gk Z B H3 (g2 a5 m4 M.ik) T.nh λ b5 a7 H4 b6=>?_);have Y:=M.set (n:="found") (sl:=.aa d) n3 λ _=>nofun
  refine Ay (Uq (s:={s with heap:=b5,toks:=a7}) Gk Z B H4 O (d:=d) (by rw[Ca,if_pos rfl]) Y.ff (g3 _ Y.ca) Y.own hz λ b7 a8 H5 b8=>?_);refine Ay (RJ (s:={s with heap:=b7,toks:=a8}) H5 Y.ff T.nl rfl ((g4 _ Y.ca).at Gk Z H5.S.F (H5.S.gd B)) (λ h tk K _=>LJ (s:={s with heap:=h,toks:=tk}) (H5.S.F.ae K) Y.x3) (HQ.aq (Aa V (Aa b6 b8))))
end
variable {n:Nat}{t:Expr}{g:Array CC} in
inductive HJ (W:BV)(X:List Ai)(D:Ai)(es:Nat->List (As×PV))(hs ss:Nat->List PV)(i:Nat)(v:Ae)(h:AT):Prop
 |mk (t n:Nat) (v1 v2:Ae) (e:v=.ref t) (g:h.get? t=Ab (M1 #[.ref D,v1,v2] n)) (r1:Rp W X h v1 (.list (hs i))) (r2:Rp W X h v2 (.list (ss i))) (d:BX W X h D (.dict (es i)))
section
theorem Ur (Gk:E2 W C k mg mb){P:Nat->CE}{K:Nat->Nat}(fo:Gw W a fd ["state","reply"] (IQ M c f g P K))(T:Ly fd.scope M c f)
 (x1:Gm W mg "error_reply" C1 p) (x2:Gm W mg "error_proto" m j) (a0:(BK m::j).contains (.ref C1)=Av) (hD:D∈X) (w:BB W W.h0 N) (hX:∀b∈X,W.h0.get? b=Ah/\(b=D\/∃o,N.get? b=Ab o))
 {u:Nat->List (As×PV)} {I L:Nat->List PV} (hR:∀i x,S[i]? =Ab x->∃r,x=.str r/\UV W C k fd.scope P K c f g C1 m r (u i) (I i) (L i) (u (i+1)) (I (i+1)) (L (i+1))):
 QA W (k+1) (Ab D) X (.ref a) S N (HJ W X D u I L) where
 cx:=λ i v h h' hk J=>by
  obtain⟨t,n,v1,v2,e,Z,U,Y,d⟩:=J;have O:∀b o,h.get? b=Ab o->b∉X->(o.cls=.type "list"\/o.cls=.type "tuple"\/o.cls=.type "dict")->h'.get? b=Ab o/\b∉X:=λ b o e nx hd=>⟨hk b o e hd,nx⟩;refine⟨t,n,v1,v2,e,hk _ _ Z (.inr (.inl rfl)),Rp.bi O U,Rp.bi O Y,?_⟩;obtain⟨a1,⟨o,a2,ep,V,hc,r⟩,y,z,q,rl⟩:=d;exact⟨a1,⟨o,a2,ep,hk _ _ V (.inr (.inr hc.1)),hc,r⟩,y,z,q,RpL.bi O rl⟩
 mw:=λ i v h J B hB o vs V q=>by
  obtain⟨t,n,v1,v2,e,Z,U,Y,d⟩:=J;cases hB;exact(N5 d o V).1 vs q
 fn:=by
  obtain⟨o,V,hd,c1,c2⟩:=fo.obj;exact⟨a,fd,rfl,λ h H=>⟨o,(w.trans H).keep V c1 c2,hd⟩⟩
 step:=λ A s i v e x l hA a3 St G H hx hJ re Q E hQ=>by
  obtain⟨t,nt,v1,v2,rfl,Z,U,Y,d⟩:=hJ;obtain⟨r,rfl,R⟩:=hR i x hx;refine V0 Gk fo T hA a3 St G (λ b N=>⟨(hX b N).1,?_⟩) hD x1 x2 a0 Z d U Y re R λ h' tk t' n' w1 w2 K l' ht q1 q2 q3 q4=>?_
  ·rcases(hX b N).2 with q |q
   ·rw[q];exact d.alive
   ·exact BL H q
  ·exact hQ (.ref t') h' tk K l' ⟨t',n',w1,w2,rfl,ht,q1,q2,q3⟩
end
variable {r:List Bs} in
def Nx (h:List (As×PV)):List (As×PV)->Option Bool
 |[]=>Ab Ag
 |(k,d)::r=>match h.find? (λ e=>e.1=k) with
  |none=>Ab Av
  |some e=>(NU d e.2).bind λ x=>(Nx h r).map (x&&·)
theorem PX (h:List (As×PV))(k:As)(d:PV)(r:List (As×PV)):Nx h ((k,d)::r)=(match h.find? (λ e=>e.1=k) with |none=>Ab Av |some e=>(NU d e.2).bind λ x=>(Nx h r).map (x&&·)):=rfl
def NF (h k:List (As×PV)):Option Bool:=(Nx k h).map λ r=>h.length==k.length&&r
theorem Wc (k:A.units+6<Ja)(o:Rp W X s.heap c a)(rb:Rp W Y s.heap d b)(e:NU a b=Ab r):SeqAt.EqAt A s c d r:=by
 unfold NU at e;split at e<;>cases e;rename_i h;simp only[AG] at h;obtain⟨⟨w,z⟩,C,E⟩:=o.reads h.1;obtain⟨⟨H,N⟩,O,Q⟩:=rb.reads h.2;exact SeqAt.eqAt_reads _ _ A s c d w H z N C O (Az (A9 (Aa (EJ ..) E) _) k)
theorem VY (N:A.units+6<Ja){b:List (As×Ae)}{a:List (As×PV)}(hk:b.map (·.1)=a.map (·.1))(O:RpL W Y s.heap (b.map (·.2)) (a.map (·.2))):∀{w:List (As×Ae)}{o:List (As×PV)}{r:Bool},w.map (·.1)=o.map (·.1)->RpL W X s.heap (w.map (·.2)) (o.map (·.2))->Nx a o=Ab r->KeqHits A s b w r:=by
 intro w;induction w with
 |nil=>
  intro o r q _ h;cases o with
  |nil=>cases h;exact .nil
  |cons _ _=>cases q
 |cons p w Q=>
  intro o r q l h;cases o with
  |nil=>cases q
  |cons V o=>
  obtain⟨k,v⟩:=p;obtain⟨C,d⟩:=V;have q:=H6 q;obtain rfl:C=k:=q.1.symm;obtain⟨Z,l⟩:=RpL.gy l;have H:=LL (W:=W) (X:=Y) (h:=s.heap) C hk O;rw(occs:=.all) [PX] at h;cases z:a.find? λ e=>decide (e.1=C) with
  |none=>
   rw[z] at h;cases h;refine .miss ?_;unfold valueAt;have c:(a.any λ e=>decide (e.1=C))=Av:=by
    rw[List.find?_eq_none] at z;rw[List.any_eq_false];exact z
   rw[Option.isNone_iff_eq_none.mp (Option.isSome_eq_false_iff.mp (H.1.trans c))];rfl
  |some e=>
   rw[z] at h;obtain⟨x,f,h⟩:=AM.mp h;obtain⟨y,g,rfl⟩:=Bp.mp h;obtain⟨u,E,i⟩:=H.2 e.2 (by rw[z];rfl);exact .hit E (Wc N Z i f) (Q q.2 l g)
theorem gN (o:A.units+15<Ja)(C:BX W X s.heap D (.dict a))(H:D∈Y)(N:Rp W Y s.heap y (.dict c))(e:NF a c=Ab Ag){d:Bool->Aq->Prop}(O:d Ag s):Aw W.M A (eqBool (.ref D) y) d E s:=by
 obtain⟨Q,V,Z,_,w,f⟩:=C;obtain⟨b,g,rfl,i,j,l,_,z,m⟩:=N.aj;obtain⟨t,h,n⟩:=Bp.mp e;have k:D≠b:=λ q=>j (q▸H);unfold eqBool;refine Bt ?_;refine wpAny_ite_split (λ q=>absurd (Value.ref.inj (BQ q)) k) (λ _=>?_);refine Ac (keq_eq Z l V i (Az (AS ..) o) (λ _=>VY (Az (show A.units+7<=A.units+15 from A9 (by decide) _) o) z m w f h) (CB ?_));have p:Q.length=a.length:=by simpa using congrArg BR w
 have r:g.length=c.length:=by simpa using congrArg BR z
 rw[p,r,n];exact O
theorem jN (N:A.units+20<Ja)(z:s.heap.get? a=Ab (M1 #[.ref D,b,c] n))(t:BX W X s.heap D (.dict d))(u:Rp W X s.heap b g)(v:Rp W X s.heap c i)(x:D∈Y)
 (rb:Rp W Y s.heap p (.ba [.dict f,j,l])) (e:NF d f=Ab Ag) (y:NU g j=Ab Ag) (B:NU i l=Ab Ag)
  (G:Q (.bool Av) s):Aw W.M A (EQ .NotEq (.ref a) p) Q E s:=by
 obtain⟨O,⟨I⟩,m,rfl,g2,U,sz,rm⟩:=rb.aj;obtain⟨V,Z,q,rfl,J,L,M⟩:=RpL.lw (vs:=I) rm;have r:s.heap.get? O=Ab (M1 #[V,Z,q] m):=g2;show Aw W.M A (richCompare .NotEq (.ref a) (.ref O)) Q E s;refine wpAny_richCompare_same_room (op:=.NotEq) (T:="tuple") ⟨_,z,rfl⟩ ⟨_,r,rfl⟩ PySem.F.slot_tuple_ne (Jd PySem.F.slot_tuple_ne ⟨_,z,rfl⟩ PySem.F.entry_tuple_ne ?_ (PySem.F.args_tuple_ne_2 _ _)) (Az (AS ..) N);have o:A.in1.units+15<Ja:=Az (show A.units+16<=A.units+20 from A9 (by decide) _) N;have w:A.in1.units+6<Ja:=Az (A9 (by decide) _) o;have R:∀{h:Bool->Aq->Prop}{k:Jc},h Ag s->Aw W.M A.in1 (eqBool (.ref D) V) h k s:=gN o t x J e;have S:∀{h:Bool->Aq->Prop}{k:Jc},h Ag s->Aw W.M A.in1 (eqBool b Z) h k s:=λ{h k} C=>Wc (A:=A.in1) w u L y W.prog W.w k h C;have T:∀{h:Bool->Aq->Prop}{k:Jc},h Ag s->Aw W.M A.in1 (eqBool c q) h k s:=λ{h k} C=>Wc (A:=A.in1) w v M B W.prog W.w k h C;have f2:=AutoSeq1.sub_tuple_tuple;have H:Value.bool Av≠Value.notImplemented/\Q (.bool Av) s:=⟨nofun,G⟩
 wp_walk using Bc z,Bc r,R,S,T
 exact⟨_,rfl,H⟩
theorem QK (h:s.heap.IsTupleIter a t i)(V:s.heap.IsTuple t b)(W:b[i]? =Ab x)
 (Z:∀k,k.IsTupleIter a t (i+1)->BM a s.heap k->Q x {s with heap:=k}):Aw (model c w) A (M9 (.ref a)) Q E s:=by
 obtain⟨o,H,hc,z⟩:=id h;obtain⟨d,N,_,e,O⟩:=V;have C:∀k,k=s.heap.update a (λ o=>o.mapFields λ f=>f.set! 1 (BS ((i:Int)+1)))->k.IsTupleIter a t (i+1):=by
  rintro k rfl;exact⟨_,B1 _ H (Eb (En z _)),(KM ..).trans hc,by
   rw[En z];simp[BS]⟩
 unfold Builtin.SmallTypes.nextOf;refine Ac (Ik (name:=Fs "__next__") h.typeIs Ff (Jd Ff h.typeIs PySem.F.entry_tuple_iterator_next ?_ (PySem.F.args_tuple_iterator_next_1 _)));refine Ac (m:=field (.ref a) 0) (CU H z (x:=.ref t) rfl ?_);show Aw _ _ (field (.ref a) 1 >>=_) _ _ s;refine Ac (CU H z (x:=.int i 0) rfl (Ac (m:=seqItems? (.ref t)) (wpAny_seqItems N O ?_)));simp only[Int.toNat_natCast,W];exact Ac (IH H z (by simp) (Ar ⟨x,rfl,Ar (Z _ (C _ rfl) (BP ..))⟩))
theorem QJ (O:A.handled=Ah)(h:s.heap.IsTupleIter b t i)(V:s.heap.IsTuple t a)(W:a[i]? =Ah)
 (Z:∀k e,BC b s.heap k->(∃o,k.get? b=Ab o)->(∃o,k.get? e=Ab o/\o.cls=.type "StopIteration")->E (.ref e) {s with heap:=k}):Aw (model c w) A (M9 (.ref b)) Q E s:=by
 obtain⟨o,z,hc,C⟩:=id h;obtain⟨d,H,_,f,N⟩:=V;unfold Builtin.SmallTypes.nextOf;refine Ac (Ik (name:=Fs "__next__") h.typeIs Ff (Jd Ff h.typeIs PySem.F.entry_tuple_iterator_next ?_ (PySem.F.args_tuple_iterator_next_1 _)));refine Ac (m:=field (.ref b) 0) (CU z C (x:=.ref t) rfl ?_);show Aw _ _ (field (.ref b) 1 >>=_) _ _ s;refine Ac (CU z C (x:=.int i 0) rfl (Ac (m:=seqItems? (.ref t)) (wpAny_seqItems H N ?_)));simp only[Int.toNat_natCast,W];refine Ac (NP (Ac (IH z C (by simp) ?_)));refine Ac (m:=newExc (.type "StopIteration") []) ?_;simp only[newExc,newTuple];refine Ac (B3 (Ac (m:=firstArgMember _ _) (EI (a:=E4) (by first |rfl |(simp only[firstArgMember];rfl)) (B3 ?_ (by size_fits)))) (by size_fits));simp only[raiseNew];refine Ac (wpAny_handled ?_)
 first |rw[show A.in1.handled=Ah from O] |rw[O]
 exact Ac (Ar (wpAny_throw (Z _ _ (((BP ..).extBut.push _).push _) ⟨_,AI _ (AI _ (B1 _ z (Eb (En C _))))⟩ ⟨_,AD _ rfl,rfl⟩)))
theorem Zi {i:Nat}{c:Ae}{f:Array Ae}{m:FD}{e a l:Ai}{x:Ae}{j:Option Ae->Aq->Prop}(he:J2 s.heap e a i c)(a5:s.heap.IsTupleIter a l i)(hl:s.heap.IsTuple l f)(hx:f[i]? =Ab x)(L:e≠a)
 (hQ:∀Y T n Z a0,IsEnumOut Y e a ((i:Int)+1) x T->Y.IsTupleIter a l (i+1)->s.heap.get? T=Ah->Y.get? T=Ab (M1 #[.int i Z,x] n)->(∀b o,b≠e->b≠a->s.heap.get? b=Ab o->Y.get? b=Ab o)->s.toks<=a0->j (Ab (.ref T)) {s with heap:=Y,toks:=a0}):
 Aw (model m w) A (pyNext (.ref e)) j E s:=by
 have hT:s.TypeIs (.ref e) "enumerate":=⟨_,he,rfl⟩;obtain⟨hp,g,d,Z,os⟩:=s;refine Ac (wpAny_attempt (Ik hT Gg (Jd Gg hT PySem.F.entry_enumerate_next ?_ (PySem.F.args_enumerate_next_1 _))));refine Ac (m:=field (.ref e) 2) (CU he rfl (x:=.ref a) rfl ?_);refine Ac (QK a5 hl hx λ D B C=>?_);have H:=(C.2 e L).trans he;refine Ac (CU H rfl (x:=BS i) rfl ?_);refine Ac (CU H rfl (x:=.none) rfl ?_);refine Ac (wpAny_mkInt ?_);refine Ac (Ia (s:=⟨D,g,d,Z+1,os⟩) H (by simp) λ G N p=>?_)
 replace N:J2 G e a ((i:Int)+1) c:=N
 refine Ac (Ia (s:=⟨G,g,d,Z+1,os⟩) N (by simp) λ k O t=>?_)
 replace O:J2 k e a ((i:Int)+1) c:=O
 refine Ac (wpAny_newTuple ?_);have z:J2 (k.push {cls:=.type "tuple",data:=.seq #[.int i Z,x]}) e a ((i:Int)+1) c:=AI _ O;have a1:k.objs.size=hp.objs.size:=by rw[t.1,p.1,C.1]
 have a6:k.objs.size≠e:=by rw[a1];exact(Dz (AU he))
 have a2:=AD k (o:={cls:=.type "tuple",data:=.seq #[.int i Z,x]}) rfl;have a3:∀{h:AT}{o:Eo}{b:Ai},b≠e->BM e (k.push {cls:=.type "tuple",data:=.seq #[.int i Z,x]}) h->(k.push {cls:=.type "tuple",data:=.seq #[.int i Z,x]}).get? b=Ab o->h.get? b=Ab o:=λ{h o b} u hs q=>(hs.2 b u).trans q;generalize M:k.push {cls:=.type "tuple",data:=.seq #[.int i Z,x]}=I at z a2 a3;refine Ac ?_;dsimp only[Builtin.SmallTypes.ownedTupleIsFree];refine Ac (CU z rfl (x:=.none) rfl (Ar ?_));refine Ac (NP (Ac (CU z rfl (x:=c) rfl ?_)));refine Ac (Ia z (An _) λ a4 Q R=>?_)
 replace Q:J2 a4 e a (i+1) x:=Q
 refine Ac ?_;refine Ac (Ia Q (by simp) λ J V S=>?_)
 replace V:IsEnumOut J e a (i+1) x k.objs.size:=V
 refine Ia (s:=⟨J,g,d,Z+1,os⟩) V (by simp) λ v W U=>?_
 replace W:IsEnumOut v e a (i+1) x k.objs.size:=W
 have y:∀{b:Ai}{o:Eo},b≠e->I.get? b=Ab o->v.get? b=Ab o:=λ{b o} u q=>(U.2 b u).trans ((S.2 b u).trans ((R.2 b u).trans q));have on:∀{b:Ai}{o:Eo},b≠e->D.get? b=Ab o->I.get? b=Ab o:=λ{b o} u q=>by rw[<-M];exact AI _ ((t.2 b u).trans ((p.2 b u).trans q))
 refine Ac (wpAny_letGo (Ar ⟨_,rfl,Ar (hQ v _ 0 Z (Z+1) W ?_ ?_ (y a6 a2) (λ b o u a7 q=>y u (on u ((C.2 b a7).trans q))) (Bq _))⟩))
 ·obtain⟨o,ho,r⟩:=B;exact⟨o,y (Ne.symm L) (on (Ne.symm L) ho),r⟩
 ·skip
  rw[a1];exact Ci hp
open AutoSeq1 (wpAny_loadPart')
theorem gH {i:Nat}{f:Ae}{a:Array Ae}{d:FD}{e b l:Ai}{c:Option Ae->Aq->Prop}(Q:A.handled=Ah)(N:J2 s.heap e b i f)(k:s.heap.IsTupleIter b l i)(V:s.heap.IsTuple l a)(W:a[i]? =Ah)
 (Z:∀h,BC b s.heap h->(∃o,h.get? b=Ab o)->c Ah {s with heap:=h}):Aw (model d w) A (pyNext (.ref e)) c E s:=by
 have O:s.TypeIs (.ref e) "enumerate":=⟨_,N,rfl⟩;unfold pyNext;refine Ac (wpAny_attempt (Ik O Gg (Jd Gg O PySem.F.entry_enumerate_next ?_ (PySem.F.args_enumerate_next_1 _))));refine Ac (m:=field (.ref e) 2) (CU N rfl (x:=.ref b) rfl ?_);refine Ac (QJ Q k V W λ h x z C H=>?_);obtain⟨o,g,hc⟩:=H;exact Ac (wpAny_isInstance ⟨o,g,hc⟩ isSubtype_stop (Ar (Z _ z C)))
theorem gG (l:Ai)(k:Array Ae)(n:Nat):Meets (Jy.«enumerate.__new__» ⟨[.type "enumerate",.ref l],[]⟩) (λ _ R s=>s.heap.get? l=Ab (M1 k n)/\
 R (.ok (.ret (.ref (s.heap.push {cls:=.type "tuple_iterator",data:=.fields #[.ref l,.int 0 0]}).objs.size)))
   {s with heap:=(s.heap.push {cls:=.type "tuple_iterator",data:=.fields #[.ref l,.int 0 0]}).push {cls:=.type "enumerate",data:=.fields #[.none,.bool Av,.ref s.heap.objs.size,BS 0,.none,.none]}}):=
 .of_wp λ z w A R s h=>by
  obtain⟨H,g,d,N,os⟩:=s;obtain⟨o,h⟩:=h;have C:=sub_enumerate;have E:Heap.IsTuple (Shared.heap ⟨H,g,d,N,os⟩) l k:=⟨_,o,rfl,n,rfl⟩
  wp_walk using Bc o
  refine wpAny_stack_any λ st=>Ar ?_;refine wpAny_ite_split (λ _=>?_) (λ _=>?_)
  ·wp_walk using Bc o,wpAny_pyIter_tuple E
   exact⟨_,rfl,h⟩
  ·wp_walk using Bc o,wpAny_pyIter_tuple E
   exact⟨_,rfl,h⟩
theorem Zj (N:s.heap.get? l=Ab (M1 a n))
 (O:∀k,J2 k (s.heap.objs.size+1) s.heap.objs.size 0 .none->k.IsTupleIter s.heap.objs.size l 0->(∃h:AT,(∀b o,s.heap.get? b=Ab o->h.get? b=Ab o)/\(∃o,h.get? s.heap.objs.size=Ab o)/\h.get? (s.heap.objs.size+1)=Ah/\∀b o,h.get? b=Ab o->k.get? b=Ab o)->Q (.ref (s.heap.objs.size+1)) {s with heap:=k}):
 Aw (model c w) A (call (.type "enumerate") [.ref l]) Q E s:=by
 refine callType_new PySem.F.called_enumerate (by decide) (PySem.F.typeCall_enumerate_1 _) (PySem.F.newCall_enumerate_1 _) (λ z=>PySem.F.args_object_init_2 z _) PySem.F.entry_enumerate_new (gG l a n) ⟨N,?_⟩;have C:(s.heap.push {cls:=.type "tuple_iterator",data:=.fields #[.ref l,.int 0 0]}).objs.size=s.heap.objs.size+1:=CV ..;rw[C];have H:=AD (s.heap.push {cls:=.type "tuple_iterator",data:=.fields #[.ref l,.int 0 0]}) (o:={cls:=.type "enumerate",data:=.fields #[.none,.bool Av,.ref s.heap.objs.size,BS 0,.none,.none]}) rfl;rw[C] at H;exact⟨⟨_,H,rfl⟩,O _ H ⟨_,AI _ (AD _ rfl),rfl,rfl⟩ ⟨_,λ b o x=>AI _ x,⟨_,AD _ rfl⟩,by rw[<-C];exact Ci _,λ b o x=>AI _ x⟩⟩
def kH (h:AT)(e:Ai)(k:Eo):AT:={h with objs:=h.objs.modify e λ _=>k}
theorem Sr (k:b≠e):(kH h e o).get? b=h.get? b:=by
 unfold kH Heap.get?;simp only[Iq,if_neg (Ne.symm k)]
theorem Yi (k:o.isFreed=Av)(s:h.get? e=Ab a):(kH h e o).get? e=Ab o:=by
 have:=AU s;unfold kH;rw[Heap.get?_some_iff];refine⟨?_,k⟩;show(h.objs.modify e λ _=>o)[e]? =Ab o;rw[Iq,if_pos rfl,(Array.getElem?_eq_getElem this)];rfl
theorem XS.fe {I:Ai}{a:Nat}(S:XS W V z N Z X s O)(Q:I∈Z)(E:I∉AW z)(w:N.get? I=Ah)(k:∃o,s.heap.get? I=Ab o/\o.cls≠.none/\o.cls≠.type "code")(h:BC I s.heap H)(A:∃o,H.get? I=Ab o)(l:s.toks<=a):
 XS W V z N Z X {s with heap:=H,toks:=a} O:=by
 obtain⟨d,C,b,c⟩:=k;exact⟨S.F.ext h Q E A,S.le.ext w (λ o e k f=>by obtain rfl:=A4 C k;exact⟨b,c⟩) h,Aa S.tk l,S.fr,S.fc.at λ o k=>h _ o (λ q=>E (q▸Ad)) k⟩
theorem XS.j4 {I J:Ai}{a:Nat}(S:XS W V z N Z X s O)(r:I∈Z)(t:J∈Z)(w:I∉AW z)(A:J∉AW z)(C:N.get? I=Ah)(E:N.get? J=Ah)(Q:I≠J)(c:∃o,s.heap.get? I=Ab o/\o.cls≠.none/\o.cls≠.type "code")(d:∃o,s.heap.get? J=Ab o/\o.cls≠.none/\o.cls≠.type "code")
 (u:∀b o,b≠I->b≠J->s.heap.get? b=Ab o->H.get? b=Ab o) (f:∃o,H.get? I=Ab o) (g:∃o,H.get? J=Ab o) (l:s.toks<=a):XS W V z N Z X {s with heap:=H,toks:=a} O:=by
 obtain⟨v,n,x,y⟩:=c;obtain⟨i,k⟩:=f;have h:=Yi (Heap.get?_some_iff.mp n).2 k;have B:=S.fe t A E d (λ b o j e=>by
  by_cases q:b=I
  ·cases q;obtain rfl:=A4 n e;exact h
  ·rw[Sr q];exact u b o q j e) (by rw[Sr Q.symm];exact g) l
 exact B.fe r w C ⟨v,h,x,y⟩ (λ b o m e=>by
  have p:=e;rw[Sr m] at p;exact p) ⟨i,k⟩ (An _)
variable {i:Nat}{r:List Bs} in
def Qg:Nat->List PV->List PV
 |_,[]=>[]
 |i,d::r=>.ba [.int i,d]::Qg (i+1) r
section
variable {fr:List Nat} in
structure ZI (ah:E9)(hb:AT)(Z X:List Ai)(e it:Ai):Prop where
 ei:e≠it
 eX:e∉X
 iX:it∉X
 eb:hb.get? e=Ah
 ib:hb.get? it=Ah
 zx:∀a∈Z,a∈X
 zf:∀a∈AW ah,a∈Z
 fr:∀a∈X,a∉Z->hb.get? a=Ah
section
theorem ZI.ef (c:ZI z N Z X e a):e∉AW z:=λ q=>c.eX (c.zx _ (c.zf _ q))
theorem ZI.iF (c:ZI z N Z X e a):a∉AW z:=λ q=>c.iX (c.zx _ (c.zf _ q))
theorem ZI.apart (c:ZI z N Z X e a)(H:J2 h e a i f)(s:h.IsTupleIter a l d)(C:h.get? b=Ab o)(hc:(b∉X/\EL o)\/(b∈Z/\¬Ec V z b/\o.cls≠.type "frame"/\o.cls≠.none)):b≠e/\b≠a:=by
 rcases hc with⟨_,O⟩ |⟨E,_⟩
 ·have k:∀{x:String},o.cls=.type x->x≠"list"/\x≠"tuple"/\x≠"dict"->False:=λ e n=>by
   rcases O with q |q |q<;>replace e:=q.symm.trans e<;>cases e
   ·exact n.1 rfl
   ·exact n.2.1 rfl
   ·exact n.2.2 rfl
  obtain⟨Q,w,A,_⟩:=s;exact⟨λ q=>k (congrArg Obj.cls (AN ((q▸C).symm.trans H))) (by decide),λ q=>k ((congrArg Obj.cls (AN ((q▸C).symm.trans w))).trans A) (by decide)⟩
 ·exact⟨λ q=>c.eX (c.zx _ (q▸E)),λ q=>c.iX (c.zx _ (q▸E))⟩
theorem ZI.ai (c:ZI z N Z X e a)(A:J2 h e a i f)(k:h.IsTupleIter a l d)(C:D9 V z (e::a::Z) (e::a::X) h H):D9 V z Z X h H:=λ b o hc s=>by
 have w:=c.apart A k s hc;exact C b o (hc.imp (λ c=>⟨λ q=>(Ak.mp q).elim w.1 λ q=>(Ak.mp q).elim w.2 c.1,c.2⟩) λ c=>⟨Af _ (Af _ c.1),c.2⟩) s
theorem ZI.drop (c:ZI z N Z X e b)(S:XS W V z N (e::b::Z) (e::b::X) s O):XS W V z N Z X s O:=
 ⟨(S.F.bp (λ _ _ _ e=>e) c.ef (λ q=>(Ak.mp q).elim c.ei c.eX) (λ a h=>(Ak.mp h).elim (λ q=>q▸Ad) λ q=>Af _ (c.zx a q))).bp (λ _ _ _ e=>e) c.iF c.iX c.zx,S.le,S.tk,c.fr,S.fc⟩
theorem ZI.gl (c:ZI z N Z X e a)(w:J2 h e a i b)(k:h.IsTupleIter a l d)(s:D9 V z (e::a::Z) (e::a::X) h H):J2 H e a i b/\H.IsTupleIter a l d:=by
 refine⟨s e _ (.inr ⟨Ad,SA c.ef,by simp,by simp⟩) w,?_⟩;obtain⟨o,A,hc,r⟩:=k;exact⟨o,s a o (.inr ⟨Af _ Ad,SA c.iF,by rw[hc];decide,by rw[hc];decide⟩) A,hc,r⟩
variable {S i n tk:Nat}{gi:Ae} in
inductive I? (W:BV)(A:Dj)(sc:Bg)(ah:E9)(hb:AT)(Z X:List Ai)(e it l:Ai)(s:Aq)(t:Expr)(b o:List Bs)(ds:List PV)(fl:Fl):Nat->Aq->Prop
 |mk {n:Nat} {H:AT} {tk:Nat} {O:A5} {i:Nat} {gi:Ae} (hi:i<=ds.length) (hn:n=ds.length-i) (he:J2 H e it (i:Nat) gi) (hit:H.IsTupleIter it l i) (S:XS W sc ah hb (e::it::Z) (e::it::X) {s with heap:=H,toks:=tk} O) (kd:D9 sc ah Z X s.heap H) (lt:s.toks<=tk) (ev:H8 W A sc ah hb t b o (Qg i (ds.drop i)) O fl):I? W A sc ah hb Z X e it l s t b o ds fl n {s with heap:=H,toks:=tk}
end
theorem SU {R:Ex->Aq->Prop}{x:List PV}{j:Array Ae}(B:XB W V z N)(hh:A.handled=Ah)
 (c:ZI z N Z X e m)
 (he:J2 s.heap e m 0 D) (d0:s.heap.IsTupleIter m l 0) (hl:s.heap.get? l=Ab (M1 j I)) (d1:l∉X) (c2:RpL W (e::m::X) s.heap j.toList x) (e0:x.length<=B2)
 (S:XS W V z N (e::m::Z) (e::m::X) s O) (ev:H8 W A V z N (.Tuple p y t) b g (Qg 0 x) O G) (hQ:KA W V z N Z X s G (λ f s'=>R (.ok f) s')):Es W.M A (.forLoop (.Tuple p y t) (.ref e) b g z) R s:=by
 have b2:j.size=x.length:=c2.length;refine Kn (I? W A V z N Z X e m l s (.Tuple p y t) b g x G) (λ n s' hI=>ML λ Q' E' Y gE=>?_) x.length (.mk (AZ _) rfl he d0 S .refl (An _) ev);induction hI with |@mk h' tk d2 i D hi hn L C S' kd l' e'=>
 have c3:h'.IsTuple l j:=⟨_,kd l _ (.inl ⟨d1,.inr (.inl rfl)⟩) hl,rfl,_,rfl⟩;have c4:∃g,h'.get? m=Ab g/\g.cls≠.none/\g.cls≠.type "code":=by obtain⟨g,a,c,_⟩:=C;exact⟨g,a,by rw[c];nofun,by rw[c];decide⟩
 by_cases a0:i<x.length
 ·have a3:=b2▸a0;have hx:=Array.getElem?_eq_getElem a3;have hd:=Fi a0;simp only[hd,Qg] at e';obtain⟨e1,f1,h1,h2,e'⟩:=e'.aj;refine Cz (An _) (Zi L C c3 hx c.ei λ a4 T nT e2 d3 b7 b1 c5 hT c6 b3 _=>Y _ _ ?_);clear Y gE Q' E';refine ML λ Q' E' Y gE=>?_;have a5:=b3;refine wpAny_letOwnedTupleGo_enum b7 λ h a6 o=>Y _ _ ?_;clear Y gE Q' E';refine ML λ Q' E' Y gE=>?_
  replace o:BM e a4 h:=o
  have a7:∀b g,b≠e->b≠m->h'.get? b=Ab g->h.get? b=Ab g:=λ b g a1 a2 q=>(o.2 b a1).trans (c6 b g a1 a2 q);have E:h.IsTupleIter m l (i+1):=by obtain⟨g,ho,r⟩:=b1;exact⟨g,(o.2 m (Ne.symm c.ei)).trans ho,r⟩
  have d4:T≠e:=λ q=>by have b8:=c5;simp only[q,L] at b8;contradiction
  have b9:D9 V z Z X h' h:=λ b g hc ho=>a7 b g (c.apart L C ho hc).1 (c.apart L C ho hc).2 ho;have b4:XS W V z N (e::m::Z) (e::m::X) {s with heap:=h,toks:=d3} d2:=
   S'.j4 Ad (Af _ Ad) c.ef c.iF c.eb c.ib c.ei ⟨_,L,by simp,by simp⟩ c4 a7 ⟨_,a6⟩ (by obtain⟨g,ho,_⟩:=E;exact⟨g,ho⟩) a5
  have d5:x[i]? =Ab x[i]:=AA a0;obtain⟨u,hu,ru⟩:=(c2.bi λ b g q n hd=>⟨a7 b g (λ b8=>n (b8▸Ad)) (λ b8=>n (b8▸Af _ Ad)) (kd b g (.inl ⟨λ b8=>n (Af _ (Af _ b8)),hd⟩) q),n⟩).get d5;have eu:u=j[i]'a3:=by
   obtain rfl:=A4 hx (by simpa using hu);rfl
  subst eu;have TX:T∉e::m::X:=λ q=>by
   obtain⟨g,ho⟩:=S'.F.an T q;exact Do c5 ho
  have rT:Rp W (e::m::X) h (.ref T) (.ba [.int i,x[i]]):=.ba ((o.2 T d4).trans hT) TX (by show 2<=B2;simp[B2]) (.cons (.int _ _) (.cons ru .nil));refine GY hh B b4 h1 rT λ b5 c0 c7 c1 c8=>Y _ _ ?_;clear Y gE Q' E';refine ML λ Q' E' Y gE=>?_;have a8:D9 V z (e::m::Z) (e::m::X) h b5:=c1.ap λ a ha=>b4.F.br ha;have M:J2 h e m ((i+1:Nat):Int) (j[i]'a3):=by have:=a6;push_cast;exact this
  obtain⟨H,k⟩:=c.gl M E a8;have c9:=(kd.trans b9).trans (c.ai M E a8);have a9:=Aa l' (Aa a5 c8);refine h2.go (e::m::Z) (e::m::X) {s with heap:=b5,toks:=c0} _ _ c7 ?_;cases f1 with
  |next d6=>exact λ U Q b0 w J=>Y _ _ ⟨n-1,yC hn a0,.mk a0 (rM hn) (c.gl H k w).1 (c.gl H k w).2 b0 (c9.trans (c.ai H k w)) (Aa a9 J) e'⟩
  |brk d6=>cases e';exact λ U Q b0 w J=>Y _ _ (hQ U Q (c.drop b0) (c9.trans (c.ai H k w)) (Aa a9 J))
  |ret d=>cases e';exact λ v U Q d7 J r=>Y _ _ (hQ v U Q d7 (Aa a9 J) (r.ai λ a ha=>Af _ (Af _ ha)))
 ·have d8:=rS hi a0;subst d8;simp only[List.drop_length,Qg] at e';refine Cz (An _) (gH hh L C c3 (LW (AB b2)) λ a4 b6 d9 b3=>?_);exact Y _ _ (e'.iz.go Z X {s with heap:=a4,toks:=tk} _ _ (c.drop (S'.fe (Af _ Ad) c.iF c.ib c4 b6 d9 (An _))) (hQ.aq (kd.trans λ b g hc ho=>b6 b g (c.apart L C ho hc).2 ho) l'))
end
theorem fO {ds:List PV}(Gk:E2 W C k mg mb)(hA:CY k A)(B:XB W V z N)(T:mg "enumerate"=Ah/\mb "enumerate"=Ab (.type "enumerate"))(hg:CX V "enumerate"=Ag)(hx:Dc C V O (.Name x i) (.ba ds))
 (U:ds.length<=B2) (ev:H8 W A V z N (.Tuple d e c) b f (Qg 0 ds) O j):
 F5 W A V z N (exec (.For (.Tuple d e c) (.Call (.Name "enumerate" g) [.Name x i] [] p) b f n) z) O j:=.mk λ Z X s Q E S hQ=>by
 refine Ac (A0 (Ac (B4 (CH Gk S.F (S.gd B) hg (.inr T) ?_))));refine Dm rfl ?_;refine M6 rfl (Bf (AE (hx.at Gk hA S.F (S.gd B) _ _ λ v h t G I rv=>A6 ?_)));have o:=S.ae G I;obtain⟨l,vs,nl,rfl,hl,Y,R,rl⟩:=rv.aj;refine Zj hl λ u w y hm=>?_;refine Jt λ gg kk=>?_;obtain⟨J,a1,a2,a3,a4⟩:=hm;refine kk ?_;have H:BB W h J:=.af a1;have r:BB W J u:=.af a4;have D:=Ci h;have en:h.get? (h.objs.size+1)=Ah:=by
  cases q:h.get? (h.objs.size+1) with
  |none=>rfl
  |some f=>exact absurd (AU q) (B7.mpr (Bq _))
 refine Ac (EI (LK rfl z _) (Ac (A0 (Ac (Bt (wpAny_pyIter_enum w ?_))))));have L:∀{a:Ai},h.get? a=Ah->N.get? a=Ah:=λ{a} q=>by
  exact BB.bh o.le q
 have nX:∀{a:Ai},h.get? a=Ah->a∉X:=λ{a} q m=>by obtain⟨f,ho⟩:=o.F.an a m;exact Do q ho
 have M:XS W V z N ((h.objs.size+1)::h.objs.size::Z) ((h.objs.size+1)::h.objs.size::X) {s with heap:=u,toks:=t} O:=
  ⟨((o.F.fresh (B.ao.trans o.le) H D a2).fresh ((B.ao.trans o.le).trans H) r a3 ⟨_,w⟩),(o.le.trans H).trans r,o.tk,λ a ha R=>S.fr a (by
    rcases Ak.mp ha with q |q
    ·exact absurd (q▸Ad) R
    ·rcases Ak.mp q with q |q
     ·exact absurd (q▸Af _ Ad) R
     ·exact q) λ q=>R (Af _ (Af _ q)),(o.fc.bg H).bg r⟩
 refine NO ?_;exact SU (s:={s with heap:=u,toks:=t}) B hA.handled ⟨Nat.succ_ne_self _,nX en,nX D,L en,L D,S.F.zx,S.F.bb,S.fr⟩ w y ((H.trans r).keep hl (by simp) (by simp)) Y (((rl.be D).be en).ae (H.trans r)) U M ev (hQ.aq ((G.trans (H.trans r)).ap) I)
variable {r:List Bs} in
def FY (h:AT):List Ai->AT
 |[]=>h
 |b::r=>HO (FY h r) b
theorem JN:∀{X:List Ai}{b:Ai},b∈X->(FY c X).get? b=Ah
 |a::r,b,h=>by
  by_cases q:b=a
  ·subst q;exact IW
  ·rw[GG q];exact JN ((Ak.mp h).resolve_left q)
theorem DI:∀{X:List Ai}{b:Ai},b∉X->(FY h X).get? b=h.get? b:=by
 intro X;induction X with
 |nil=>
  intro b _;exact rfl
 |cons a r k=>
  intro b s;have o:b≠a:=λ q=>s (by rw[q];exact Ad);rw[GG o];exact k λ q=>s (Af _ q)
def BV.bc (h:BV)(k:AT)(X:List Ai):BV:={h with h0:=FY k X}
section
theorem BB.cs (s:BB W W.h0 a)(A:∀b∈Y,W.h0.get? b=Ah)(w:BB (W.bc a Y) h H):BB W h H:=by
 refine⟨λ b o e=>?_,w.2⟩;rcases w.1 b o e with k |⟨n,k,C,E⟩ |k
 ·exact .inl k
 ·refine .inr (.inl ⟨?_,k,C,E⟩);by_cases q:b∈Y
  ·exact A b q
  ·have z:(FY a Y).get? b=Ah:=n;rw[DI q] at z;exact DE s z
 ·exact .inr (.inr k)
theorem bJ:BB (W.bc h Y) (W.bc h Y).h0 h:=.af λ b o e=>by
 by_cases q:b∈Y
 ·have k:(FY h Y).get? b=Ab o:=e;rw[JN q] at k;cases k
 ·have k:(FY h Y).get? b=Ab o:=e;rw[DI q] at k;exact k
theorem Rp.bc (r:Rp W X h v d):Rp (W.bc a Y) X h v d:=Rp.to (W:=W) (W':=W.bc a Y) (λ _ _ e n _=>⟨e,n⟩) (λ _ _ e n=>⟨e,n⟩) r
theorem RpL.bc (r:RpL W X h a b):RpL (W.bc c Y) X h a b:=r.map λ _ _=>Rp.bc
theorem Rp.cs (r:Rp (W.bc a Y) X h v d):Rp W X h v d:=Rp.to (W:=W.bc a Y) (W':=W) (λ _ _ e n _=>⟨e,n⟩) (λ _ _ e n=>⟨e,n⟩) r
end
section
theorem BX.bc (r:BX W X h a d):BX (W.bc b Y) X h a d:=BX.to (W:=W) (W':=W.bc b Y) (λ _ e _=>e) (λ _ e=>e) (λ _ _=>RpL.bc) r
theorem BU.bc (r:BU W Z X h v a):BU (W.bc b Y) Z X h v a:=r.to (λ _ _=>Rp.bc) λ _ _ m z o=>⟨m,z,o.bc⟩
theorem FI.bc (F:FI W V z Z X h O)(k:∀a∈X,a∈Y\/b.get? a=Ah):FI (W.bc b Y) V z Z X h O:=
 F.same F.bb F.zx (λ _ h=>h) (λ _ _ _ _ h=>h) (λ _ _ _ _ r=>r.bc) λ a o=>⟨by
   by_cases q:a∈Y
   ·exact JN q
   ·refine Eq.trans (DI q) ?_;exact(k a o).resolve_left q,(F.alive a o).2⟩
theorem Gd.bc (G:Gd W s):Gd (W.bc s.heap Y) s:=⟨bJ,G.dl,G.toks⟩
end
theorem gJ {b:List PV}{a:Array Ae}(h:a.size=b.length):a.isEmpty=b.isEmpty:=by
 obtain⟨k⟩:=a;cases k<;>cases b<;>first |rfl |cases h
theorem KY.row {a:List PV}(h:O.lookup x=Ab (.aa (.obj (.ref r))))(k:C.rw r=Ab a):KY C V O (.Name x p) (!a.isEmpty):=λ c=>.mk λ Q E s S=>by
 obtain⟨N,n,o,z,w⟩:=c.Gk.row r a k;refine S.cr (.of λ Q E A=>wpAny_isTrue_value (S.F.name h λ v H=>?_));obtain rfl:v=.ref r:=H.aj;refine wpAny_truthy_list ⟨_,(S.G.ao.keep o (by simp) (by simp)),rfl,_,rfl⟩ (DD (Fv.mpr z) (by decide+kernel)) (A _ _ _ (.refl _) (congrArg (!·) (gJ w)))
noncomputable abbrev aZ (rw:Ai->Option (List PV)):GK:=⟨λ _=>Ah,λ _=>Ah,rw⟩
noncomputable abbrev WV:GK:=aZ λ _=>Ah
theorem WU {m:As->Option Ae}(w:W.h0.Ns a m)(k:BB W W.h0 h)(z:∀b∈Y,W.h0.get? b=Ah):(FY h Y).Ns a m:=by
 obtain⟨o,A,C,E,r⟩:=Dl k w;obtain⟨H,_,_,s,_⟩:=w;refine⟨o,A,C,?_,r⟩;rw[DI λ q=>by rw[z _ q] at s;cases s];exact E
theorem E2.bc (G:E2 W C k mg mb)(s:BB W W.h0 h)(A:∀b∈Y,W.h0.get? b=Ah){rw:Ai->Option (List PV)}(N:∀r z,rw r=Ab z->r∉Y/\∃w n,h.get? r=Ab (I3 w n)/\w.size<=B2/\w.size=z.length):E2 (W.bc h Y) (aZ rw) k mg mb where
 g:=WU G.g s A
 b:=WU G.b s A
 blt:=G.blt
 l9:=G.l9
 l8:=by
  obtain⟨o,E⟩:=G.l8;obtain⟨O,H⟩:=BL s ⟨o,E⟩;refine⟨O,?_⟩;rw[DI λ q=>by rw[A _ q] at E;cases E];exact H
 aa:=λ x d q=>nomatch q
 fn:=λ x g q=>nomatch q
 row:=λ r z q=>by obtain⟨Q,w,n,V,Z⟩:=N r z q;exact⟨w,n,(DI Q).trans V,Z⟩
theorem u3 {rs:List Ai}(Gk:E2 W C k mg mb)(U:CY k A)(B:XB W V z N)(S:XS W V z N Z X s O){c:Ai->List PV}(hr:∀r∈rs,r∉X/\∃H n,s.heap.get? r=Ab (I3 H n)/\H.size<=B2/\H.size=(c r).length)
 {e:CE} (hx:O.lookup x=Ab (.aa (.list (rs.map λ r=>.obj (.ref r))))) (u:A3 V x=Ag) (v:Ei V d=Ag) (I:Dk [.Name x g] (.ListComp (.Name y i) [⟨.Name y j,.Name x p,[.Name y t],0⟩] d f) e.line z=pure Ag)
 (hy:A3 d y=Ag) (J:(Br d O).lookup y=Ah) (L:rs.length<=B2) {Q:FG->Aq->Prop}
 (hQ:KA W V z N Z X s (.next (Bu O x (.aa (.list ((rs.filter λ r=>!(c r).isEmpty).map λ r=>.obj (.ref r)))))) Q):
 Aw W.M A (exec (.Assign [.Name x g] (.ListComp (.Name y i) [⟨.Name y j,.Name x p,[.Name y t],0⟩] d f) e) z) Q E s:=by
 have Y:∀b∈X,W.h0.get? b=Ah:=λ b N=>(S.F.alive b N).1;have G:=S.gd B
 let rw:=λ r=>if r∈rs then Ab (c r) else Ah
 have Gr:=Gk.bc G.ao Y (rw:=rw) λ r xs q=>by
  obtain⟨hq,rfl⟩:=Lf (q);exact hr r hq
 have T:EE (aZ rw) V O (.ListComp (.Name y i) [⟨.Name y j,.Name x p,[.Name y t],0⟩] d f) (.list ((rs.filter λ r=>!(c r).isEmpty).map λ r=>.obj (.ref r))):=
  .T (g:=λ r=>.obj (.ref r)) _ _ (.list (.aa hx) rfl) v (by show((Br d O).lookup y).isNone&&Ag=Ag;rw[J];rfl) (λ r M=>⟨(y,.aa (.obj (.ref r)))::Br d O,if_pos hy,.bq (.row AF (if_pos M)),λ _=>.aa AF⟩) L
 obtain⟨a0,h1,h2,_,h⟩:=T;refine Ac (A0 (Ac (EI I (KD (PW (Ac ?_))))));rw[h2];exact Ac (DK (h ⟨W.bc s.heap X,A,z,Z,X,_,mg,mb,Gr,U⟩ s (S.F.bc λ a ha=>.inl ha) G.bc _ (λ _ o=>Q .next o) E λ D a1 h' tk m _ hV R l J r=>Ts (t:=.Name x g) B S U.handled (if_pos u) hQ hV (BB.cs G.ao Y R) l J (Rp.cs r)) (λ _ _ h=>Ar (Ar h)) λ _ _ x=>x)
--w
theorem Yp (h:O.lookup x=Ab (.aa d)):Rs C V O x=Ab d:=congrArg (Option.elim · _ Rh) h
theorem PB (h:O.lookup x=Ab (.cg v d)):Rs C V O x=Ab d:=congrArg (Option.elim · _ Rh) h
theorem HC (h:A3 V x=Ag):GH V (.Name x q) d O=Ab (Bu O x (.aa d)):=by
 show(if A3 V x=Ag then Ab (Bu O x (.aa d)) else Ah)=_;rw[if_pos h]
theorem uR:EW (.list (y::a)) (.int 0)=Ab y:=by
 have h:GC 0 (a.length+1)=Ab 0:=by
  unfold seqIndex?;simp
 show(if QW 0=Ag then(GC 0 (a.length+1)).bind _ else Ah)=_;rw[h];rfl
variable {g:Array CC}{l:List E9} in
inductive CS (W:BV)(h:AT)(r:Ai)(c:List As):Prop
 |mk (vs0:Array Ae) (n0:Nat) (g:h.get? r=Ab (I3 vs0 n0)) (z:vs0.size<=B2) (l:RpL W [] h vs0.toList (c.map .str))
section
def o4 (o:BV)(A:Bg)(h:E9)(C X:List Ai)(w:AT)(E:A5)(H N:List Ai)(O:AT)(k:A5):Prop:=∀x z,k.lookup x=Ab z->∃s,E.lookup x=Ab s/\∀v,Fz A h w x v->BU o C X w v s->BU o H N O v z
theorem FI.re (F:FI W V z Z X h O)(q:∀a∈AW z,a∈g)(t:∀a∈g,a∈j)(u:∀a∈j,W.h0.get? a=Ah/\∃o,H.get? a=Ab o)(hk:∀a∈AW z,H.get? a=h.get? a)
 (C:o4 W V z Z X h O g j H b) (B:∀x y d e,b.lookup x=Ab (.own d)->b.lookup y=Ab (.own e)->x=y):FI W V z g j H b:=
 {F with
  bb:=q
  zx:=t
  alive:=u
  ci:=B
  ns:=by
   obtain⟨m,Q,E⟩:=F.ns;refine⟨m,?_,λ x k l w=>?_⟩
   ·obtain⟨o,D,G,N,r⟩:=Q;exact⟨o,D,G,(hk _ Ad).trans N,r⟩
   ·obtain⟨s,A,f⟩:=C x k w;obtain⟨v,e,r⟩:=E x s l A;exact⟨v,e,f v (.inl ⟨l,m,Q,e⟩) r⟩
  cell:=λ x n=>by
   obtain⟨c,I,e,i,E⟩:=F.cell x n;refine⟨c,I,e,?_,λ k w=>?_⟩
   ·obtain⟨o,N,J⟩:=i;exact⟨o,(hk _ (Di e)).trans N,J⟩
   ·obtain⟨s,A,f⟩:=C x k w;obtain⟨v,p,r⟩:=E s A;exact⟨v,p,f v (.inr ⟨n,c,e,p▸i⟩) r⟩
  dt:=λ x k w=>by obtain⟨s,A,_⟩:=C x k w;exact F.dt x s A}
theorem o4.nil:o4 W V z Z X h O a b H []:=λ y k e=>by contradiction
theorem o4.cons (k:O.lookup x=Ab sl)(f:∀v,Fz V z h x v->BU W Z X h v sl->BU W c d H v b)(r:o4 W V z Z X h O c d H a):o4 W V z Z X h O c d H ((x,b)::a):=λ y o e=>by
 by_cases q:y=x
 ·subst q;rw[AF] at e;injection e with e;exact⟨sl,k,e▸f⟩
 ·rw[AK q] at e;exact r y o e
theorem o4.same (k:O.lookup x=Ab b)(r:o4 W V z Z X h O Z X h a):o4 W V z Z X h O Z X h ((x,b)::a):=.cons k (λ _ _ r=>r) r
theorem XS.fj (S:XS W V z N Z (a::Z) s O)(l:O.lookup x=Ab (.own d)):Fz V z s.heap x (.ref a)/\BX W (a::Z) s.heap a d:=by
 obtain⟨C,h,A,rfl,o,k,w⟩:=S.F.at l;obtain rfl:A=a:=(Ak.mp o).resolve_right k;exact⟨h,w⟩
theorem Nl (x:As){l:A5}(h:l.all (λ p=>!pS p.2||p.1==x)=Ag):∀y z d e,l.lookup y=Ab (.own d)->l.lookup z=Ab (.own e)->y=z:=by
 have k:∀y d,l.lookup y=Ab (.own d)->y=x:=λ y d e=>BQ (AR.mp h _ (mem_of_lookup e));exact λ y z d e a b=>(k y d a).trans (k z e b).symm
theorem pF (r:Rp W X h v (.str d)):Rp c Y H v (.str d):=by obtain⟨t,rfl,a,b⟩:=r.aj;exact .str _ _ a b
theorem RpL.j8 (r:RpL W X h e b):(∀v d,d∈b->Rp W X h v d->Rp c Y H v d)->RpL c Y H e b:=r.bt (P:=λ e b=>(∀v d,d∈b->Rp W X h v d->Rp c Y H v d)->RpL c Y H e b) (λ _=>.nil) λ v _ d _ a _ i f=>.cons (f v d Ad a) (i λ v d q=>f v d (Af _ q))
theorem K6 {c:List As}(r:RpL W X h e (c.map .str)):RpL b Y H e (c.map .str):=r.j8 λ v d q a=>by
 obtain⟨s,_,rfl⟩:=AH.mp q;exact pF a
theorem CS.ex {c:List As}(x:CS W h r c):∃k n,h.get? r=Ab (I3 k n)/\k.size<=B2/\k.toList.length=(c.map PV.str).length:=by
 obtain⟨k,n,e,z,l⟩:=x;exact⟨k,n,e,z,l.length⟩
theorem CS.keep (x:CS W h r c)(k:∀o,h.get? r=Ab o->EL o->H.get? r=Ab o):CS W H r c:=
 by obtain⟨s,n,e,z,l⟩:=x;exact⟨s,n,k _ e (.inl rfl),z,K6 l⟩
theorem CS.bg (x:CS W h r c)(k:BB W h H):CS W H r c:=x.keep λ o e d=>D6 k e d
theorem CS.own (x:CS W h r c):BX W X h r (.list (c.map .str)):=by obtain⟨k,n,e,z,l⟩:=x;exact⟨k,n,e,z,K6 l⟩
theorem CS.rp (x:CS W h r c)(k:r∉X):Rp W X h (.ref r) (.list (c.map .str)):=by obtain⟨o,n,e,z,l⟩:=x;exact .list e k z (K6 l)
theorem CS.of (x:BX W X h r (.list (c.map .str))):CS W h r c:=by obtain⟨k,n,e,z,l⟩:=x;exact⟨k,n,e,z,K6 l⟩
theorem CS.some (x:CS W h r c):∃o,h.get? r=Ab o/\EL o/\o.cls=.type "list":=by obtain⟨k,n,e,z,l⟩:=x;exact⟨_,e,.inl rfl,rfl⟩
def IV (x:As)(l:List As):List As:=if l.head? =Ab x then l.tail else l
theorem Pv:∀(l:List Ai),RpL W X h (l.map BK) (l.map λ r=>PV.obj (.ref r)):=by
 intro l;induction l with
 |nil=>
  exact .nil
 |cons r l k=>
  exact .cons (.obj _) (k)
theorem V5 {P:Ai->Prop}(F:FI W V z Z X h O)(A:D3 z h)(w:∀b o,h.get? b=Ab o->¬P b->H.get? b=Ab o)(hP:∀a∈AW z,¬P a):∀a∈AW z,H.get? a=h.get? a:=λ a k=>by
 obtain⟨_,o,s⟩:=F.alive a (F.zx _ (F.bb a k));simp only[s,w a o s (hP a k)]
theorem gO (Gk:E2 W C k mg mb)(hA:CY k A)(B:XB W V z N)(S:XS W V z N Z X s O)(h1:O.lookup ("seq":As)=Ab (.own (.list ((y::ys).map .str))))(h2:O.lookup ("candidate":As)=Ab (.aa (.str x)))
 (hv:Fz V z s.heap "seq" (.ref r)) (hX:r∈X) (hZ:r∉Z) {j:FG->Aq->Prop}
 (hQ:∀h' tk,XS W V z N Z X {s with heap:=h',toks:=tk} (Bu O "seq" (.own (.list ((IV x (y::ys)).map .str))))->CS W h' r (IV x (y::ys))->(∀b o,b≠r->s.heap.get? b=Ab o->o.cls≠.type "frame"->o.cls≠.none->h'.get? b=Ab o)->s.toks<=tk->j .next {s with heap:=h',toks:=tk}):
 Aw W.M A (exec (.If (.Compare (.Subscript (.Name "seq" p) (.Constant (.int 0) i u) g) [.Eq] [.Name "candidate" D] G) [.Delete [.Subscript (.Name "seq" I) (.Constant (.int 0) J m) c] d] [] f) z) j E s:=by
 refine KT ((.au (.sub (.own h1) .int (λ _ _=>rfl) uR) (.aa h2) rfl rfl:KY C V O (.Compare (.Subscript (.Name "seq" p) (.Constant (.int 0) i u) g) [.Eq] [.Name "candidate" D] G) (decide (y=x))).at Gk hA S.F (S.gd B) _ _ λ b' a2 a5 M R a8=>?_);subst a8;have h:=S.ae M R;have L:=hv.ae M;have w:BX W X a2 r (.list ((y::ys).map .str)):=by
  obtain⟨v,a9,r'⟩:=h.F.at h1;obtain⟨a,rfl,_,_,o⟩:=r';have:=a9.eh L;cases this;exact o
 by_cases q:y=x
 ·subst q;rw[if_pos (by simp)];have T:IV y (y::ys)=ys:=by unfold IV;simp
  rw[T] at hQ;refine Ay (wpAny_Delete (wpAny_deleteEach_cons ?_));refine wpAny_delete_Subscript (FI.bv h.F h1 L ?_);refine(Dc.int).at Gk hA h.F (h.gd B) _ _ λ iv a3 H Q a4 ri=>?_;obtain⟨t,rfl⟩:=ri.aj
  ·obtain⟨vs,n,e,b0,l⟩:=w.ae Q;have hz:vs.toList.length=ys.length+1:=by have:=l.length;simpa using this
   have b1:vs.size=ys.length+1:=by simpa using hz
   refine delItem_at (s:={s with heap:=a3,toks:=H}) (k:=0) e (by decide+kernel) (by rw[b1];unfold seqIndex?;simp) (λ U hs ho=>?_) (Aa b0 FW);have a6:CS W U r ys:=by
    refine⟨_,n+1,ho,?_,?_⟩
    ·show(vs.toList.eraseIdx 0).toArray.size<=B2;have:(vs.toList.eraseIdx 0).length<=vs.toList.length:=List.length_eraseIdx_le _ _;have b3:vs.toList.length=vs.size:=by rfl
     simp;exact Nat.le.step b0
    ·skip
     cases Y:vs.toList with
     |nil=>(first |exact Do Y hz |obtain rfl:=A4 Y hz |cases Eq.trans (Eq.symm Y) hz |(rw[Y] at hz;contradiction))
     |cons a b=>
      rw[Y] at l;exact K6 l.gy.2
   have a7:XS W V z N Z X {s with heap:=U,toks:=H} (Bu O "seq" (.own (.list (ys.map .str)))):=by
    refine XS.cu (s:={s with heap:=a3,toks:=H}) (h.ae Q a4) h1 (L.ae Q) hs hX hZ (Jr (w.ae Q)) a6.own (An _)
   refine wpAny_deleteEach_nil (BN (hQ U H a7 a6 (λ b o b2 ho a0 a1=>?_) (Aa R a4)));exact(hs.2 b b2).trans (Q.keep (M.keep ho a0 a1) a0 a1)
 ·rw[if_neg (by simpa using q)];have T:IV x (y::ys)=y::ys:=by unfold IV;simp[q]
  rw[T] at hQ;refine BN (hQ a2 a5 ?_ (CS.of w) (λ b o _ ho a0 a1=>M.keep ho a0 a1) R);refine h.aw λ b0 sl hz=>?_;rw[Ca] at hz;split at hz
  ·rename_i q';rw[q',h1];exact hz
  ·exact hz
end
section
def dE (a h:Ai)(x:As)(k:A5):A5:=("result",.av (.ref a))::("sequences",.av (.ref h))::("candidate",.aa (.str x))::k
def vJ (k:List As)(h:List PV):A5:=[("result",.own (.list (k.map .str))),("sequences",.aa (.list h))]
def Hx (l:List Ai):List PV:=l.map λ r=>PV.obj (.ref r)
def S5 (c:Ai->List As)(x:As)(done:List Ai)(r:Ai):List As:=if r∈done then IV x (c r) else c r
variable {S i n tk:Nat}{l:List E9}{st:Bs} in
inductive J' (W:BV)(sc:Bg)(ah:E9)(hb:AT)(Z X:List Ai)(ρ:A5)(St Inv:Nat->AT->Prop)(m:Nat)(s:Aq):Nat->Aq->Prop
 |mk {n:Nat} {H:AT} {tk i:Nat} (hi:i<=m) (hn:n=m-i) (st:St i H) (S:XS W sc ah hb Z X {s with heap:=H,toks:=tk} ρ) (iv:Inv i H) (l:s.toks<=tk):J' W sc ah hb Z X ρ St Inv m s n {s with heap:=H,toks:=tk}
theorem gP {a:Ai}{k1:Nat}{g:List Ai}{T U Y q4 q6 q7 q8:CE}(Gk:E2 W C k mg mb)(hA:CY k A)(B:XB W V z N){f:List Ai}{c:Ai->List As}{x:As}{out:List As}{m:Ai}{G:Nat}{d:PV}(S:XS W V z N Z (a::Z) s O)(e3:a∉Z)
 (l1:O.lookup ("result":As)=Ab (.own (.list (out.map .str)))) (l2:O.lookup ("candidate":As)=Ab (.aa (.str x))) (l3:O.lookup ("sequences":As)=Ab (.cg (.ref m) d))
 (hL:s.heap.get? m=Ab (I3 (f.map BK).toArray G)) (e5:f.length<=B2) (a8:∀r∈g,W.h0.get? r=Ah/\N.get? r=Ah/\r∉a::Z/\CS W s.heap r (c r)) (e6:∀r∈f,r∈g) (h3:f.Nodup) (e7:m∉g) (c5:m∉a::Z) (h4:∀r∈f,c r≠[])
 (h5:V.names.lookup ("seq":As)=Ab .local) {L M p t u D:CE} {R:Nat} {J:FG->Aq->Prop}
 (hQ:∀h' tk,XS W V z N Z (a::Z) {s with heap:=h',toks:=tk} (vJ out (Hx f))->(∀r∈g,CS W h' r (S5 c x f r))->s.toks<=tk->J .next {s with heap:=h',toks:=tk}):
 Aw W.M A (exec (.For (.Name "seq" T) (.Name "sequences" U) [.If (.Compare (.Subscript (.Name "seq" Y) (.Constant (.int 0) R q4) L) [.Eq] [.Name "candidate" q6] q7) [.Delete [.Subscript (.Name "seq" q8) (.Constant (.int 0) k1 M) p] t] [] u] [] D) z) J E s:=by
 have e8:∀b∈Z,b∈a::Z:=λ b N=>Af _ N;obtain⟨e9,f0⟩:=S.fj l1;have i9:∀b∈AW z,b∉g:=λ b N hr=>(a8 b hr).2.2.1 (S.F.zx _ (S.F.bb b N));have h6:=IT h5 (by decide+kernel);have f1:a∉g:=λ q=>(a8 a q).2.2.1 Ad
 let b0:A5:=dE a m x []
 have F0:FI W V z Z (g++a::Z) s.heap b0:=by
  refine S.F.re S.F.bb (λ b N=>AV _ (e8 b N)) (λ b N=>?_) (λ _ _=>rfl)
   (.cons l1 (λ v hv _=>hv.eh e9) (.cons l3 (λ v _ r=>r.1) (.cons l2 (λ v _ r=>pF r) .nil))) (Nl "" rfl)
  rcases AL.mp N with q |q
  ·obtain⟨o,ho,_⟩:=(a8 b q).2.2.2.some;exact⟨(a8 b q).1,o,ho⟩
  ·exact S.F.alive b q
 have S0:XS W V z N Z (g++a::Z) s b0:=⟨F0,S.le,S.tk,λ b N hz=>by
  rcases AL.mp N with q |q
  ·exact(a8 b q).2.1
  ·exact S.fr b q hz,S.fc⟩
 refine Ac (A0 (Ac (FI.av F0 (v:=.ref m) (by kernel_rfl) (Ac (EI (LK rfl z _) (Ac (A0 (Ac (Bt ?_)))))))));have h7:Rp W (g++a::Z) s.heap (.ref m) (.list (Hx f)):=.list hL (λ q=>(AL.mp q).elim e7 c5) (by simpa using e5) (by
  exact Pv f)
 refine Hg (.list h7) λ I b7 hI h8 c6 h9=>?_;have b5:I∉g++a::Z:=λ q=>by obtain⟨o,ho⟩:=S0.F.an I q;exact Do hI ho
 have f2:N.get? I=Ah:=BB.bh S.le hI;have b3:BB W s.heap b7:=.af c6;obtain⟨St,i0,a9⟩:=MX.of (h9 b5) Ad hA.handled;refine NO ?_;simp only[Oa];have c7:I∉AW z:=λ q=>b5 (AV _ (S.F.zx _ (S.F.bb _ q)));have f3:XS W V z N (I::Z) (I::(g++a::Z)) {s with heap:=b7,toks:=s.toks} b0:=
  ⟨S0.F.fresh (B.ao.trans S.le) b3 hI h8,S.le.trans b3,S.tk,λ b N hz=>S0.fr b ((Ak.mp N).resolve_left λ q=>hz (q▸Ad)) λ q=>hz (Af _ q),S.fc.bg b3⟩
 have i1:m≠I:=λ q=>by simp only[q,hI] at hL;contradiction
 refine Jt λ gg kk=>?_;obtain⟨oa,f4,f5,j0⟩:=(CS.of f0).some;refine kk ?_
 let Inv (i:Nat) (h:AT):Prop:=h.get? a=Ab oa/\h.get? m=Ab (I3 (f.map BK).toArray G)/\∀r∈g,CS W h r (S5 c x (f.take i) r)
 have f6:Inv 0 b7:=⟨c6 _ _ f4,c6 _ _ hL,λ r hr=>by
  have:S5 c x (f.take 0) r=c r:=by unfold S5;rw[List.take_zero,if_neg (by exact BH)]
  exact(a8 r hr).2.2.2.bg b3⟩
 have b8:∀{i:Nat}{h h':AT},Inv i h->(∀b o,b=a\/b=m\/b∈g->h.get? b=Ab o->EL o->h'.get? b=Ab o)->Inv i h':=λ{i h h'} v kk=>
  ⟨kk _ _ (.inl rfl) v.1 f5,kk _ _ (.inr (.inl rfl)) v.2.1 (.inl rfl),λ r hr=>(v.2.2 r hr).keep λ o e d=>kk _ _ (.inr (.inr hr)) e d⟩
 refine Kn (J' W V z N (I::Z) (I::(g++a::Z)) b0 St Inv (Hx f).length s) (λ n s' i2=>ML λ Q' E' gQ gE=>?_) (Hx f).length (.mk (AZ _) rfl i0 f3 f6 (An _));induction i2 with |@mk h' tk i hi hn st S' iv l=>
 obtain⟨oI,f7,f8,f9,j1,j2⟩:=a9.cj _ _ st;have c8:∀{b},Ec V z b->b∈Z:=λ{b} q=>S0.F.wr q;have c9:∀{b},b=a\/b=m\/b∈g->b≠I:=λ{b} q q'=>by
  rcases q with q |q |q
  ·exact(λ q=>b5 (q▸AV _ Ad):a≠I) (q▸q')
  ·exact i1 (q▸q')
  ·exact b5 (A8 _ (q'▸q))
 have i3:∀{b},b=a\/b=m\/b∈g->¬Ec V z b:=λ{b} q w=>by
  have:=c8 w;rcases q with q |q |q
  ·exact e3 (q▸this)
  ·exact c5 (Af _ (q▸this))
  ·exact(a8 b q).2.2.1 (Af _ this)
 by_cases c0:i<(Hx f).length
 ·have a3:i<f.length:=by simpa[Hx] using c0
  have hx:(Hx f)[i]? =Ab (.obj (.ref f[i])):=by rw[Bo,AA a3];rfl
  refine Cz (n:=tk) (An _) (a9.item i {s with heap:=h',toks:=tk} _ _ _ st hx λ v a4 a0 rv a5 Q b9=>gQ _ _ ?_);refine ML λ Q' E' gQ gE=>?_;have a1:tk<=a0:=b9;generalize hr:f[i]=r at rv;have g0:=hr▸Dg a3;have b6:=e6 r g0;have ev:=rv.aj;subst ev;have c1:∃o,a4.get? I=Ab o:=by obtain⟨o,ho,_⟩:=a9.cj _ _ a5;exact⟨o,ho⟩
  have g3:XS W V z N (I::Z) (I::(g++a::Z)) {s with heap:=a4,toks:=a0} b0:=XS.fe (s:={s with heap:=h',toks:=tk}) S' Ad c7 f2 ⟨oI,f7,f8,f9⟩ Q c1 a1;have a2:=b8 iv λ b o q e _=>Q b o (c9 q) e;refine a9.dn (i+1) {s with heap:=a4,toks:=a0} _ _ _ _ a5 (gQ _ _ ?_);clear gQ gE Q' E';refine ML λ Q' E' gQ gE=>?_;refine XS.fg B g3 (sl:=.av (.ref r)) h6 rfl (λ d q=>(by contradiction)) λ b4 d0 H b1 g4=>gQ _ _ ?_;refine ML λ Q' E' gQ gE=>?_;have a6:=b8 a2 λ b o q e _=>b1.keep b o (i3 q) e;have g5:CS W b4 r (c r):=by
   have:=a6.2.2 r b6;have e:S5 c x (f.take i) r=c r:=by
    unfold S5;rw[if_neg];intro hm;obtain⟨j,hj,ej⟩:=Cr.mp hm;rw[HZ] at ej;have g6:=Ao (Dd▸hj) (EJ ..);exact G7.mp h3 j i (Cw g6 a3) a3 g6 (ej.trans hr.symm)
   rwa[e] at this
  obtain⟨y,ys,g7⟩:∃y ys,c r=y::ys:=by
   cases q:c r with
   |nil=>exact absurd q (h4 r g0)
   |cons y ys=>exact⟨y,ys,rfl⟩
  let g8:A5:=dE a m x [("seq",.own (.list ((y::ys).map .str)))]
  have e4:Bu b0 "seq" (.av (.ref r))=dE a m x [("seq",.av (.ref r))]:=by kernel_rfl
  have i4:Fz V z b4 "seq" (.ref r):=by
   obtain⟨v,hv,rr⟩:=H.F.at (x:="seq") (sl:=.av (.ref r)) (by kernel_rfl);have:=rr;exact(this)▸hv
  have d5:r∉I::Z:=λ q=>by
   rcases Ak.mp q with q |q
   ·exact c9 (.inr (.inr b6)) q
   ·exact(a8 r b6).2.2.1 (Af _ q)
  have d6:r∈I::(g++a::Z):=Af _ (A8 _ b6);have g9:XS W V z N (I::Z) (I::(g++a::Z)) {s with heap:=b4,toks:=d0} g8:=⟨H.F.re H.F.bb H.F.zx H.F.alive (λ _ _=>rfl) (.same (by kernel_rfl) (.same (by kernel_rfl) (.same (by kernel_rfl) (.cons (sl:=.av (.ref r)) (by kernel_rfl) (λ v _ rr=>⟨r,rr,d6,d5,g7▸g5.own⟩) .nil)))) (Nl "seq" rfl),H.le,H.tk,H.fr,H.fc⟩;refine MN λ K1 n1 o1=>(gO (y:=y) (ys:=ys) (x:=x) Gk hA B g9 (by kernel_rfl) (by kernel_rfl) i4 d6 d5 λ c3 i5 c4 c2 b2 h0=>n1 _ (BN (gQ _ _ ?_)));rw[(by kernel_rfl:Bu g8 "seq" (.own (.list ((IV x (y::ys)).map .str)))=dE a m x [("seq",.own (.list ((IV x (y::ys)).map .str)))])] at c4;have h1:=(show b0=Ek ["result","sequences","candidate"] (dE a m x [("seq",.own (.list ((IV x (y::ys)).map .str)))]) by kernel_rfl)▸c4.aw EN;obtain⟨oJ,h2,d1,d2,d3,d4⟩:=a9.cj _ _ a5;have a7:=b1.keep I oJ (λ q=>by
   have:=c8 q;exact b5 (AV _ (Af _ this))) h2
  have d7:=a9.frame _ _ _ a5 (λ o ho=>by obtain rfl:=A4 h2 ho;exact a7) λ b o d8 ho hd=>b1.keep b o (λ q=>d8 (Af _ (AV _ (Af _ (c8 q))))) ho;have d9:=a9.frame _ _ _ d7 (λ o ho=>by obtain rfl:=A4 a7 ho;exact b2 I _ (λ q=>d5 (q▸Ad)) a7 d3 d1) λ b o d8 ho hd=>b2 b o (λ q=>d8 (q▸d6)) ho (by rcases hd with hd |hd |hd<;>rw[hd]<;>simp) (by rcases hd with hd |hd |hd<;>rw[hd]<;>simp);have e0:Inv (i+1) c3:=by
   have kd:∀b o,b≠r->b4.get? b=Ab o->EL o->c3.get? b=Ab o:=λ b o i6 e hd=>b2 b o i6 e (by rcases hd with hd |hd |hd<;>rw[hd]<;>simp) (by rcases hd with hd |hd |hd<;>rw[hd]<;>simp);refine⟨kd _ _ (λ q=>f1 (q▸b6)) a6.1 f5,kd _ _ (λ q=>e7 (q▸b6)) a6.2.1 (.inl rfl),λ r' i7=>?_⟩;by_cases q:r'=r
   ·subst q;have:S5 c x (f.take (i+1)) r'=IV x (y::ys):=by
     unfold S5;rw[if_pos,g7];rw[List.take_succ_eq_append_getElem a3];exact AV _ (by rw[hr];exact Cf.mpr rfl)
    rw[this];exact c2
   ·have:S5 c x (f.take (i+1)) r'=S5 c x (f.take i) r':=by
     unfold S5;rw[List.take_succ_eq_append_getElem a3,hr];by_cases e2:r'∈f.take i
     ·rw[if_pos e2,if_pos (A8 _ e2)]
     ·rw[if_neg e2,if_neg (λ z'=>(AL.mp z').elim e2 λ z'=>q (Cf.mp z'))]
    rw[this];exact(a6.2.2 r' i7).keep λ o e d=>kd _ _ q e d
  exact⟨n-1,yC hn c0,.mk c0 (rM hn) d9 h1 e0 (Aa l (Aa a1 (Aa g4 h0)))⟩
 ·have i8:=rS hi c0;subst i8;refine Cz (An _) (a9.done {s with heap:=h',toks:=tk} _ _ st λ a4 a0 Q b9=>gQ _ _ (BN ?_));have a1:=b9;have a2:=b8 iv λ b o q e _=>Q b o (c9 q) e;have e1:∀r∈g,CS W a4 r (S5 c x f r):=λ r hr=>by
   have:=a2.2.2 r hr;rwa[show f.take (Hx f).length=f by rw[Al,List.take_length]] at this
  refine hQ a4 a0 ?_ e1 (Aa l a1);obtain⟨vs,n,e,e2,l⟩:=CS.of f0;have:oa=I3 vs n:=by rw[f4] at e;injection e
  refine⟨S'.F.re S.F.bb e8 (λ b N=>⟨(S.F.alive b N).1,?_⟩) (V5 S'.F S'.fc (λ b o e q=>Q b o q e) λ b N q=>c7 (q▸N)) (.cons (sl:=.av (.ref a)) (by kernel_rfl) (λ v _ rr=>⟨a,rr,Ad,e3,vs,n,by rw[a2.1,this],e2,K6 l⟩) (.cons (sl:=.av (.ref m)) (by kernel_rfl) (λ v _ rr=>rr▸.list a2.2.1 c5 (by simpa using e5) (Pv f)) .nil)) (Nl "result" rfl),S'.le.ext f2 (λ o vs ho hd=>?_) Q,Aa S'.tk a1,S.fr,S'.fc.at λ o ho=>Q _ o (λ q=>c7 (q▸Ad)) ho⟩
  ·obtain⟨o,ho⟩:=(S'.F.alive b (Af _ (AV _ N))).2;exact⟨o,Q b o (λ q=>b5 (q▸AV _ N)) ho⟩
  ·obtain rfl:=A4 f7 ho;exact⟨f8,f9⟩
end
theorem TO (h:List PV)(lo k st:Option Int)(o:KW (Cd lo k st h.length).1 (Cd lo k st h.length).2.1 (Cd lo k st h.length).2.2=js):Mf h lo k st=js.filterMap (h[·]?):=by
 unfold Mf;rw[o]
theorem Ro {b:Type}(h:List b)(a k:Nat):((Ap k).map (a+·)).filterMap (h[·]?)=(h.drop a).take k:=by
 have:=pick_run h.toArray a k;simpa using this
theorem Vy (h:List PV)(a:Nat):Mf h (Ab (a:Int)) Ah Ah=h.drop a:=by
 have e:Cd (Ab a) Ah Ah h.length=(((min a h.length:Nat):Int),(h.length:Int),1):=by
  simp only[Cd,Option.getD_none];simp only[rU,if_false,show(1:Int)>0 by decide,if_true];congr 1;exact UH ..
 rw[TO h _ _ _ (js:=(Ap (h.length-min a h.length)).map (min a h.length+·)) (by rw[e];exact sliceRange_one _ _),Ro]
 by_cases q:a<=h.length
 ·rw[DA q,ER (by rw[G3];exact An _)]
 ·have q:=G6 q;rw[G5 q,CR (An _),CR q,List.take_nil]
theorem Om (h:List PV)(a:Nat)(k:h.length<=B2):DV (.list h) (Ab (a:Int)) Ah Ah=Ab (.list (h.drop a)):=by
 unfold DV;simp only[Vy];rw[O9 ⟨by simp,G3▸Aa (J0 ..) k⟩]
theorem Yx:∀(l:List As)(n:Nat),lvlL n (l.map .str)=Ag:=by
 intro l;induction l with
 |nil=>
  intro n;cases n<;>rfl
 |cons x l h=>
  intro n;have:=h n;cases n<;>(rw[Bl,lvlL,this];rfl)
theorem nP (a b:As):Dn (.str a) (.str b)=decide (a=b):=rfl
theorem Ve:∀l:List As,toPyL (l.map .str)=l.map PyData.str:=by
 intro l;induction l with
 |nil=>
  exact rfl
 |cons x l h=>
  rw[Bl,toPyL,h];rfl
theorem iJ (x:As):∀l:List As,((l.map PyData.str).any λ y=>Dn y (.str x))=l.contains x:=by
 intro l;induction l with
 |nil=>
  exact rfl
 |cons y l h=>
  rw[Bl,List.any_cons,h,nP,Hr];congr 1;by_cases q:y=x
  ·subst q;simp
  ·rw[decide_eq_false q]
   symm;simpa using λ e:x=y=>q e.symm
theorem eR (x:As)(l:List As):YS (.str x) (.list (l.map .str))=Ab (l.contains x):=by
 unfold YS;have:(To 6 (.str x)&&lvlL 6 (l.map .str))=Ag:=by rw[Yx];rfl
 simp only[this,if_true,Ve];rw[iJ]
def wK (P:Nat->CE)(K:Nat->Nat):Bs:=.If (.Compare (.Name "candidate" (P 9)) [.In] [.Subscript (.Name "s2" (P 10)) (.Slice (Ab (.Constant (.int 1) (K 1) (P 11))) Ah Ah (P 12)) (P 13)] (P 14)) [.Assign [.Name "candidate" (P 15)] (.Constant .none (K 2) (P 16)) (P 17),.Break (P 18)] [] (P 19)
def p0 (P:Nat->CE)(K:Nat->Nat):Bs:=.Assign [.Name "candidate" (P 2)] (.Subscript (.Name "s1" (P 3)) (.Constant (.int 0) (K 0) (P 4)) (P 5)) (P 6)
def wJ (P:Nat->CE)(K:Nat->Nat):Bs:=.For (.Name "s2" (P 7)) (.Name "sequences" (P 8)) [wK P K] [.Break (P 20)] (P 21)
def tF (P:Nat->CE)(K:Nat->Nat):Bs:=.For (.Name "s1" (P 0)) (.Name "sequences" (P 1)) [p0 P K,wJ P K] [] (P 22)
structure t8 (sc:Bg):Prop where
 s1:A3 sc "s1"=Ag
 s2:A3 sc "s2"=Ag
 l4:A3 sc "candidate"=Ag
 seq:A3 sc "sequences"=Ag
def PN (b:Bool)(R:PV)(q:Ae)(L:PV)(h k:PV):A5:=
 if b then[("result",.own R),("sequences",.cg q L),("s1",.aa k),("candidate",.aa h)] else[("result",.own R),("sequences",.cg q L),("candidate",.aa h),("s1",.aa k)]
def Je (h:List (List As)):List PV:=h.map λ c=>.list (c.map .str)
def IZ (h:List (List As))(x:As):Bool:=h.all λ t=>!(t.tail.contains x)
section
theorem Vg {t:List As}(h:t.length<=B2):DV (.list (t.map .str)) (Ab 1) Ah Ah=Ab (.list (t.tail.map .str)):=by
 rw[Om _ 1 (by rw[Al];exact h),<-List.map_drop,List.drop_one]
theorem Uv {t:List As}:IZ (t::a) x=(!(t.tail.contains x)&&IZ a x):=by unfold IZ;rw[Dv]
variable {R L:PV}{q:Ae}{P:Nat->CE}{K:Nat->Nat} in
theorem uU (s:E2 W C k mg mb)(w:CY k A)(B:XB W V z N)(T:t8 V)(b:Bool){d1:PV}{x:As}(h:List (List As))(O:∀t∈h,t.length<=B2):
 H8 W A V z N (.Name "s2" (P 7)) [wK P K] [.Break (P 20)] (Je h) (PN b R q L (.str x) d1) (if IZ h x then .brk (PN b R q L (.str x) d1) else .next (PN b R q L .none d1)):=by
 induction h with
 |nil=>exact .nil (D4 Na)
 |cons t h E=>
  obtain⟨o,N,Q,Z,a,c⟩:∃o,GH V (.Name "s2" (P 7)) (.list (t.map .str)) (PN b R q L (.str x) d1)=Ab o/\o.lookup ("candidate":As)=Ab (.aa (.str x))/\o.lookup ("s2":As)=Ab (.aa (.list (t.map .str)))/\
   Ek ((PN b R q L (.str x) d1).map (·.1)) o=PN b R q L (.str x) d1/\Ek ((PN b R q L (.str x) d1).map (·.1)) (Bu o "candidate" (.aa .none))=PN b R q L .none d1:=
   ⟨_,HC T.s2,by cases b<;>rfl,by cases b<;>rfl,by cases b<;>rfl,by cases b<;>rfl⟩
  have H:KY C V o (.Compare (.Name "candidate" (P 9)) [.In] [.Subscript (.Name "s2" (P 10)) (.Slice (Ab (.Constant (.int 1) (K 1) (P 11))) Ah Ah (P 12)) (P 13)] (P 14)) (t.tail.contains x):=
   .cq (.aa Q) (.bn (.slice (.bn (.aa Z)) (.int .int) .no .no (Vg (O t Ad)))) rfl (.inl rfl) (eR x t.tail)
  rw[Uv];cases hc:t.tail.contains x with
  |false=>exact .next N ((D4 (GB s w B (hc▸H) FT)).keep a) (E λ t d=>O t (Af _ d))
  |true=>
   rw[hc] at H;exact .brk N ((D4 (GB s w B H (Fk (By s w B (.ag rfl) T.l4 (by rfl)) (D4 Na)))).fq c)
variable {r:List Bs} in
def El (all:List (List As)):List (List As)->Option As
 |[]=>Ah
 |[]::r=>El all r
 |(x::_)::r=>if IZ all x then Ab x else El all r
def Xz:Option As->PV
 |some x=>.str x
 |none=>.none
def VQ (R:PV)(q:Ae)(L:PV):Option PV->A5
 |none=>[("result",.own R),("sequences",.cg q L)]
 |some h=>[("result",.own R),("sequences",.cg q L),("candidate",.aa h)]
def pQ:List As:=["result","sequences","candidate"]
theorem uV {R:PV}{q:Ae}{P:Nat->CE}{K:Nat->Nat}(H:E2 W C k mg mb)(O:CY k A)(B:XB W V z N)(T:t8 V){all:List (List As)}(a:∀t∈all,t.length<=B2)(o:Option PV)(h:List (List As))(s:∀t∈h,t≠[])(Z:h=[]->o=Ab .none):
 H8 W A V z N (.Name "s1" (P 0)) [p0 P K,wJ P K] [] (Je h) (VQ R q (.list (Je all)) o) (.next (VQ R q (.list (Je all)) (Ab (Xz (El all h))))):=by
 induction h generalizing o with
 |nil=>rw[Z rfl];exact .nil FT
 |cons r h c=>
  obtain⟨x,t,rfl⟩:=List.exists_cons_of_ne_nil (s r Ad);clear Z;obtain⟨b,w,N,d,f⟩:∃b w,GH V (.Name "s1" (P 0)) (.list ((x::t).map .str)) (VQ R q (.list (Je all)) o)=Ab w/\Bu w "candidate" (.aa (.str x))=PN b R q (.list (Je all)) (.str x) (.list ((x::t).map .str))/\w.lookup ("s1":As)=Ab (.aa (.list ((x::t).map .str))):=by
   cases o with
   |none=>exact⟨Ag,_,HC T.s1,rfl,rfl⟩
   |some i=>exact⟨Av,_,HC T.s1,rfl,rfl⟩
  have Q:=By (q:=P 2) (pos:=P 6) H O B (.sub (p:=P 5) (.bn (.aa (p:=P 3) f)) (.int (kk:=K 0) (p:=P 4)) (λ _ _=>rfl) uR) T.l4 (by rfl);rw[d] at Q;have E:=J6 (pos:=P 21) H O B (.list (.name (p:=P 8) (x:="sequences") (PB (v:=q) (by cases b<;>rfl))) rfl) (uU (P:=P) (K:=K) (R:=R) (d1:=.list ((x::t).map .str)) H O B T b (x:=x) all a);cases e:IZ all x with
  |true=>
   rw[e] at E;rw[show El all ((x::t)::h)=Ab x from if_pos e];exact .brk N ((Fk Q (D4 E)).fq (show Ek pQ (PN b R q (.list (Je all)) (.str x) (.list ((x::t).map .str)))=_ by cases b<;>rfl))
  |false=>
   rw[e] at E;rw[show El all ((x::t)::h)=El all h from if_neg (by rw[e];exact DC)];exact .next N ((Fk Q (D4 E)).keep (show Ek pQ (PN b R q (.list (Je all)) .none (.list ((x::t).map .str)))=_ by cases b<;>rfl)) (c (Ab .none) (λ t g=>s t (Af _ g)) λ _=>rfl)
end
theorem Um (h:∀x,a.names.lookup x≠Ab .free)(k:A5):Br a k=[]:=by
 unfold Br;rw[DO];intro q _ e;exact h q.1 (BQ e)
def HP (h:List (List As)):List (List As):=h.filter λ c=>!c.isEmpty
variable {n:Nat}{a:List (List As)} in
def Qp:Nat->List (List As)->List As->Option (Option (List As)×List (List As))
 |0,_,_=>Ah
 |n+1,a,h=>if(HP a).isEmpty then Ab (Ab h,a) else match El (HP a) (HP a) with
  |none=>Ab (Ah,a)
  |some x=>Qp n (a.map (IV x)) (h++[x])
theorem RS (n:Nat)(h:List (List As))(k:List As):Qp (n+1) h k=if(HP h).isEmpty then Ab (Ab k,h) else(match El (HP h) (HP h) with |none=>Ab (Ah,h) |some x=>Qp n (h.map (IV x)) (k++[x])):=rfl
def hM:As:="Inconsistent hierarchy"
def oF (h:Bg)(P:Nat->CE):Bs:=.Assign [.Name "sequences" (P 23)] (.ListComp (.Name "s" (P 24)) [⟨.Name "s" (P 25),.Name "sequences" (P 26),[.Name "s" (P 27)],0⟩] h (P 28)) (P 29)
def wI (P:Nat->CE):Bs:=.If (.UnaryOp .Not (.Name "sequences" (P 30)) (P 31)) [.Return (Ab (.Name "result" (P 32))) (P 33)] [] (P 34)
def oE (P:Nat->CE)(K:Nat->Nat):Bs:=.If (.Compare (.Name "candidate" (P 35)) [.Is] [.Constant .none (K 3) (P 36)] (P 37)) [.Raise (Ab (.Call (.Name "RuntimeError" (P 38)) [.Constant (.str "Inconsistent hierarchy") (K 4) (P 39)] [] (P 40))) Ah (P 41)] [] (P 42)
def wM (P:Nat->CE):Bs:=.Expr (.Call (.Attribute (.Name "result" (P 43)) "append" (P 44)) [.Name "candidate" (P 45)] [] (P 46)) (P 47)
def wL (P:Nat->CE)(K:Nat->Nat):Bs:=.For (.Name "seq" (P 48)) (.Name "sequences" (P 49)) [.If (.Compare (.Subscript (.Name "seq" (P 50)) (.Constant (.int 0) (K 5) (P 51)) (P 52)) [.Eq] [.Name "candidate" (P 53)] (P 54)) [.Delete [.Subscript (.Name "seq" (P 55)) (.Constant (.int 0) (K 6) (P 56)) (P 57)] (P 58)] [] (P 59)] [] (P 60)
def hO (h:Bg)(P:Nat->CE)(K:Nat->Nat):Bs:=.While (.Constant (.bool Ag) (K 7) (P 61)) [oF h P,wI P,tF P K,oE P K,wM P,wL P K] [] (P 62)
def Qq (h:Bg)(P:Nat->CE)(K:Nat->Nat):List Bs:=[.Assign [.Name "result" (P 63)] (.List [] (P 64)) (P 65),hO h P K]
variable {S:Nat} in
structure XQ (sc sp:Bg)(P:Nat->CE):Prop where
 S:t8 sc
 seq:sc.names.lookup ("seq":As)=Ab .local
 nc:A3 sc "result"=Ag
 na:CX sc "RuntimeError"=Ag
 m9:Ei sc sp=Ag
 m7:∀x,sp.names.lookup x≠Ab .free
 m6:A3 sp "s"=Ag
 nk:((P 44).endLine==(P 46).line)=Ag
section
def LZ (c:Ai->List As)(r:Ai):Bool:=!(c r).isEmpty
def Tk (o:BV)(s:AT)(k:List Ai)(h:List (List As)):Prop:=∃c:Ai->List As,k.map c=h/\∀r∈k,CS o s r (c r)
noncomputable abbrev YE (h:List As)(k:List Ai):A5:=vJ h (Hx k)
theorem WP {l:List Ai}(r:RpL W X h b (Hx l)):b=l.map BK:=by
 induction l generalizing b with
 |nil=>exact r.aj
 |cons a l k=>
  obtain⟨v,b,rfl,x,y⟩:=r.aj;exact(congr (congrArg List.cons x.aj) (k y):v::b=.ref a::l.map BK)
theorem bY {l:List Ai}(r:Rp W X h v (.list (Hx l))):∃a n,v=.ref a/\h.get? a=Ab (I3 (l.map BK).toArray n)/\a∉X/\(l.map BK).toArray.size<=B2:=by
 obtain⟨a,k,n,e,o,s,w,z⟩:=r.aj;have q:k=(l.map BK).toArray:=by rw[<-WP z]
 exact⟨a,n,e,q▸o,s,q▸w⟩
theorem kC {l:List Ai}(k:l≠[])(e:h.get? a=Ab (I3 (l.map BK).toArray n))(x:CS W h a c):False:=by
 obtain⟨r,l,rfl⟩:=List.exists_cons_of_ne_nil k;obtain⟨z,A,o,_,l⟩:=x;cases A4 e o;cases c with
 |nil=>cases l.aj
 |cons y C=>
  obtain⟨v,r,q,s,_⟩:=l.aj;obtain⟨t,w,_⟩:=s.aj;rw[w] at q;exact nomatch (H6 q).1
theorem qV (c:Ai->List As):∀(l:List Ai),(∀r∈l,r∉X/\CS W h r (c r))->RpL W X h (l.map BK) (Je (l.map c)):=by
 intro l;induction l with
 |nil=>
  intro _;exact .nil
 |cons r l k=>
  intro H;exact .cons ((H r Ad).2.rp (H r Ad).1) (k λ x o=>H x (Af _ o))
theorem hG {a:List (List As)}(e:Qp n a c=Ab (d,b))(k:HP a=l):
 (l=[]/\d=Ab c/\b=a)\/l≠[]/\((El l l=Ah/\d=Ah/\b=a)\/∃m x,n=m+1/\El l l=Ab x/\Qp m (a.map (IV x)) (c++[x])=Ab (d,b)):=by
 subst k;cases n with
 |zero=>contradiction
 |succ n=>
  by_cases h:(HP a).isEmpty
  ·have e:=(if_pos h).symm.trans e;have e:=AN e;exact .inl ⟨De.mp h,(congrArg Prod.fst e).symm,(congrArg Prod.snd e).symm⟩
  ·refine .inr ⟨λ q=>h (De.mpr q),?_⟩;have e:=(if_neg h).symm.trans e;cases q:El (HP a) (HP a) with
   |none=>
    replace e:=(q)▸e
    have e:=AN e;exact .inl ⟨rfl,(congrArg Prod.fst e).symm,(congrArg Prod.snd e).symm⟩
   |some x=>
    rw[q] at e;exact .inr ⟨n,x,rfl,rfl,e⟩
theorem Vc (l:List Ai):Pg (.list (Hx l))=Ab (!l.isEmpty):=by cases l<;>rfl
theorem cW (c:Ai->List As):∀h:List Ai,HP (h.map c)=(h.filter (LZ c)).map c:=by
 intro h;induction h with
 |nil=>
  exact rfl
 |cons r h k=>
  have:=k;unfold HP at this ⊢;rw[Bl,FN,FN,this];unfold LZ;cases (c r).isEmpty<;>rfl
theorem n8 {d:List Ai}{c:Ai->List As}{x:As}:∀l:List Ai,(∀r∈l,r∈d)->l.map (S5 c x (d.filter (LZ c)))=(l.map c).map (IV x):=by
 intro l;induction l with
 |nil=>
  intro _;exact rfl
 |cons r l k=>
  intro h;simp only[Bl,Bl,Bl,k λ y o=>h y (Af _ o)];congr 1;unfold S5;by_cases q:r∈d.filter (LZ c)
  ·exact(if_pos q)
  ·rw[if_neg q];have:LZ c r=Av:=by
    cases e:LZ c r with
    |false=>rfl
    |true=>exact absurd (Ax.mpr ⟨h r Ad,e⟩) q
   unfold LZ at this;have:c r=[]:=by
    cases e:c r with
    |nil=>rfl
    |cons a b=>(first |exact Do e this |obtain rfl:=A4 e this |cases e.symm.trans this |(rw[e] at this;exact BI this))
   rw[this];rfl
theorem Yz {a:List Ai}{c:Ai->List As}{x:As}:(a.filter (LZ c)).filter (LZ (S5 c x (a.filter (LZ c))))=a.filter (LZ (S5 c x (a.filter (LZ c)))):=by
 refine List.filter_filter.trans ?_;apply Cs;intro r h;by_cases q:LZ c r=Ag
 ·rw[q,EU]
 ·have:LZ c r=Av:=eq_false_of_ne_true (q);rw[this,H9];have e:LZ (S5 c x (a.filter (LZ c))) r=LZ c r:=by
   show(!(S5 c x (a.filter (LZ c)) r).isEmpty)=_;rw[show S5 c x (a.filter (LZ c)) r=c r from if_neg (λ z=>q (Ax.mp z).2)];rfl
  rw[e,this]
end
variable {n:Nat}{t:Expr}{g:Array CC}{fl:Fl} in
inductive UW (W:BV)(hs h:AT)(e:Ai)(C v:Ae)(f:Ai):Prop
 |mk (le:BB W hs h) (no:hs.get? e=Ah) (t:Ai) (n:Nat) (T:Ai) (g:h.get? t=Ab (M1 #[v] n)) (fl:ZH h e C (.ref t) (Ab T) (BS f)) (k:hs.get? T=Ah)
section
variable {C:Ae}
theorem cU {M:Dr}(D:C≠.none/\C≠.type "code")(u:A.frames=Ab (z::a))(St:Bb W s.heap (z::a))(F:KQ W c s.heap e C v)
 (R:∀x,UW W c x e C v z.locals->Bb W x (z::a)->E (.ref e) {s with heap:=x}):notedBy M A z (λ e S=>cameBackBy M A z E e S) (.ref e) s:=by
 simp only[notedBy];refine F.gk D u St λ k t n T Z G h U d=>?_;obtain⟨y,I,p,g,H,J,r,N,Y,ts,O,i,Q,L⟩:=d;have hf:=h.2.1;dsimp only[cameBackBy];refine Ac (CU p H r ?_);rw[hf];refine Ac (CU p H r ?_);have j:=(C8.mp L).1;have l:=En Q (·.setIfInBounds 3 ((Ab z.locals:Option Ai).elim E4 λ f=>BS f))
 have w:ZH k e C (.ref t) (Ab T) (BS z.locals):=⟨y,I,p,g,H,J,r,N,Y,ts,O,i,Q,L⟩;have m:∀b o,k.get? b=Ab o->b≠T->(k.update T (Et (·.setIfInBounds 3 ((Ab z.locals:Option Ai).elim E4 λ f=>BS f)))).get? b=Ab o:=λ b o B V=>by refine Eq.trans (Dh _ _ (Ne.symm V)) ?_;exact B
 have K:UY (GM (z::a)) e (Ab T) k (k.update T (Et (·.setIfInBounds 3 ((Ab z.locals:Option Ai).elim E4 λ f=>BS f)))):=λ b o B _ V=>.inl (m b o B λ q=>V (congrArg _ (q)))
 refine IH O Q j (R _ ⟨Z.gq h K w D F.il λ T' q=>by cases q;exact G,F.il,t,n,T,K.seq h w U rfl,⟨y,I,m e y p N.symm,g,H,J,r,N,_,_,B1 _ O (Eb l),(KM _ _).trans i,l,by simp[j]⟩,G⟩ (K.stack h w))
theorem UW.bp {M:Dr}(f:C≠.none/\C≠.type "code")(St:Bb W s.heap (z::a))(F:UW W c s.heap e C v z.locals){b:Unit->Aq->Prop}(g:∀N,KQ W c N e C v->Bb W N (z::a)->b () {s with heap:=N}):Aw M A (leaving z (.ref e)) b E s:=by
 obtain⟨H,i,t,n,T,j,l,m⟩:=F;refine Ac ?_;obtain⟨p,q,k,O,h,r,Z,Q,u,x,o,V,w,d⟩:=l;have y:=St.2.1;unfold noteFrame;rw[y];refine Ac (CU k h Z ?_);refine Ac (CU o w d ?_);rw[if_pos (by exact beq_self_eq_true _)];exact Ar (KQ.land f St H i m j (⟨p,q,k,O,h,r,Z,Q,u,x,o,V,w,d⟩) g)
end
section
theorem CS.ap (x:CS W h r c)(k:D9 V z Z X h H)(s:r∉X):CS W H r c:=x.keep λ o e d=>k r o (.inl ⟨s,d⟩) e
theorem SO {c:Ai->List As}:(λ r=>!((λ r=>(c r).map PV.str) r).isEmpty)=LZ c:=by
 funext r
 show(!((c r).map PV.str).isEmpty)= !(c r).isEmpty;cases c r<;>rfl
variable {S n tk:Nat}{l:List E9} in
inductive J! (W:BV)(sc:Bg)(ah:E9)(hb:AT)(Z:List Ai)(a:Ai)(s:Aq)(rs:List Ai)(o:Option (List As))(rows':List (List As)):Nat->Aq->Prop
 |mk {H:AT} {tk:Nat} {c':Ai->List As} {out':List As} {act':List Ai} {n:Nat} (S:XS W sc ah hb Z (a::Z) {s with heap:=H,toks:=tk} (YE out' act')) (l:s.toks<=tk) (hrow:∀r0∈rs,CS W H r0 (c' r0)) (hsub:∀r0∈act',r0∈rs) (hact:act'.filter (LZ c')=rs.filter (LZ c')) (hsz:out'.length+n<=B2) (hza:act'.length<=B2) (e:Qp n (rs.map c') out'=Ab (o,rows')):J! W sc ah hb Z a s rs o rows' n {s with heap:=H,toks:=tk}
theorem n9 {a:Ai}{b:List Ai}{i:List E9}{u:Bg}{P:Nat->CE}{K:Nat->Nat}(Gk:E2 W C k mg mb)(hA:CY k A)(B:XB W V z N)(T:XQ V u P)(g7:a∉Z)(g8:b.Nodup)(c1:∀r∈b,W.h0.get? r=Ah/\N.get? r=Ah/\r∉a::Z)(e1:b.length<=B2)
 (i0:ZG W A z N i) (g9:mg "RuntimeError"=Ah/\mb "RuntimeError"=Ab (.type "RuntimeError")) (h0:Dk [.Name "sequences" (P 23)] (.ListComp (.Name "s" (P 24)) [⟨.Name "s" (P 25),.Name "sequences" (P 26),[.Name "s" (P 27)],0⟩] u (P 28)) (P 29).line z=pure Ag)
 {f:Nat} {c:Ai->List As} {j:List As} {g:List Ai} {p:Option (List As)} {d:List (List As)} (S:XS W V z N Z (a::Z) s (YE j g)) (e3:∀r∈b,CS W s.heap r (c r)) (e4:∀r∈g,r∈b) (e5:g.filter (LZ c)=b.filter (LZ c)) (h1:j.length+f<=B2) (h2:g.length<=B2)
 (e:Qp f (b.map c) j=Ab (p,d)) {y:FG->Aq->Prop}
 (hQ:∀e6,p=Ab e6->∀h' tk,BB W N h'->s.toks<=tk->CS W h' a e6->Tk W h' b d->y (.ret (.ref a)) {s with heap:=h',toks:=tk})
 (hE:p=Ah->∀J h' tk e t,s.toks<=tk->BB W N J->Tk W J b d->UW W J h' e (.type "RuntimeError") (.str hM t) z.locals->Bb W h' (z::i)->E (.ref e) {s with heap:=h',toks:=tk}):
 Aw W.M A (exec (hO u P K) z) y E s:=by
 refine wpAny_While (codeAny_whileLoop (J! W V z N Z a s b p d) (λ n s' hI=>vT λ Q' gQ=>?_) f
  ⟨S,An _,e3,e4,e5,h1,h2,e⟩)
 induction hI with |@mk i1 h3 Q O a7 n a8 e9 a9 L M g6 d2 R=>
 ·refine wpAny_isTrue_value ((Dc.ag rfl).at Gk hA a8.F (a8.gd B) _ _ λ v J h4 c4 c5 rv=>?_);obtain rfl:v=.bool Ag:=rv.aj;refine CB (gQ _ _ (PW ?_));refine vT λ Q' gQ=>?_;have U:∀r∈b,CS W J r (Q r):=λ r o=>(a9 r o).bg c4;have b0:∀r∈b,r∉a::Z:=λ r o=>(c1 r o).2.2;have i2:(Hx (a7.filter (LZ Q))).length<=B2:=by
   rw[M];have:=AX (LZ Q) b;unfold Hx;rw[Al];exact Aa (AX (LZ Q) b) e1
  refine MN λ K1 n1 o1=>(u3 (Q:=_) Gk hA B (a8.ae c4 c5) (rs:=a7) (c:=λ r=>(Q r).map .str) (λ r o=>?_) (x:="sequences") (y:="s") rfl T.S.seq T.m9 h0 T.m6 (by rw[Um T.m7];rfl) d2 λ f0 b1 I d3 f1=>n1 _ ?_)
  ·exact⟨b0 r (L r o),(U r (L r o)).ex⟩
  simp only[SO,M] at I;have e2:Bu (YE O a7) "sequences" (.aa (.list ((b.filter (LZ Q)).map λ r=>.obj (.ref r))))=YE O (b.filter (LZ Q)):=rfl;simp only[e2] at I;have d4:s.toks<=b1:=Aa e9 (Aa c5 f1);generalize Y:b.filter (LZ Q)=h at I e2;have G:∀r∈h,r∈b:=λ r o=>by rw[<-Y] at o;exact(Ax.mp o).1
  have c6:∀r∈h,Q r≠[]:=λ r o q=>by
   rw[<-Y] at o;have:=(Ax.mp o).2;unfold LZ at this;(first |exact Do q this |obtain rfl:=A4 q this |cases Eq.trans (Eq.symm q) this |(replace this:=(q)▸this;exact BI this))
  have f2:h.Nodup:=by rw[<-Y];exact g8.filter _
  have f3:HP (b.map Q)=h.map Q:=by rw[cW,Y]
  have t2:KY C V (YE O h) (.UnaryOp .Not (.Name "sequences" (P 30)) (P 31)) h.isEmpty:=by
   rw[<-Mc h.isEmpty];exact .not (.name (Yp (d:=.list (Hx h)) rfl) (Vc h))
  refine MN λ K1 n1 o1=>(KT (t2.at (s:={s with heap:=f0,toks:=b1}) Gk hA I.F (I.gd B) _ _ λ b' a4 a1 c7 c8 d5=>?_));subst d5;have w:=I.ae c7 c8;have H:∀r∈b,CS W a4 r (Q r):=λ r o=>((λ r o=>(U r o).ap d3 (b0 r o)) r o).bg c7;have b2:=Aa d4 c8;have hq:=w.fj (x:="result") rfl;rcases hG R f3 with⟨a2,ho,d6⟩ |⟨a2,R⟩
  ·rw[De.mpr (List.map_eq_nil_iff.mp a2)];exact PW (Ay (EP (FI.bv w.F rfl hq.1 (o1 _ _ (λ q=>nomatch q) (gQ _ _ (hQ O ho a4 a1 w.le b2 (CS.of hq.2) ⟨Q,d6.symm,H⟩))))))
  ·have a2:h≠[]:=λ q=>a2 (by rw[q];rfl);rw[List.isEmpty_eq_false_iff.mpr a2];refine VU (BN (n1 _ ?_));refine Jt λ gg kk=>?_;obtain⟨vq,f4,rq⟩:=w.F.at (x:="sequences") rfl;obtain⟨Lq,nq,rfl,d7,c2,h5⟩:=bY rq;refine kk ?_;have h6:Lq∉b:=λ q=>kC a2 d7 (H Lq q);have f5:XS W V z N Z (a::Z) {s with heap:=a4,toks:=a1} (VQ (.list (O.map .str)) (.ref Lq) (.list (Je (h.map Q))) Ah):=by
    refine⟨w.F.re w.F.bb w.F.zx w.F.alive (λ _ _=>rfl) (.same rfl (.cons rfl (λ v hv r=>?_) .nil)) (Nl "result" rfl),w.le,w.tk,w.fr,w.fc⟩;have h7:=hv.eh f4;subst h7;exact⟨rfl,.list d7 c2 h5 (qV Q h λ r o=>⟨b0 r (G r o),H r (G r o)⟩)⟩
   have h8:∀t∈h.map Q,t.length<=B2:=λ t ht=>by
    obtain⟨r,o,rfl⟩:=AH.mp ht;obtain⟨vs,n',_,i4,l⟩:=H r (G r o);have:=l.length;simp only[Al] at this;have i3:vs.toList.length=vs.size:=by rfl
    omega
   have f6:∀t∈h.map Q,t≠[]:=λ t ht=>by
    obtain⟨r,o,rfl⟩:=AH.mp ht;exact c6 r o
   refine MN λ K1 n1 o1=>((J6 Gk hA B (.list (.name (PB rfl)) rfl) (uV Gk hA B T.S h8 Ah (h.map Q) f6 (λ q=>absurd (List.map_eq_nil_iff.mp q) a2))).go Z (a::Z) {s with heap:=a4,toks:=a1} _ _ f5 λ f7 d8 b3 b4 f8=>n1 _ ?_);have c3:=b4 Lq _ (.inl ⟨c2,.inl rfl⟩) d7;have t5:∀oc:Option As,KY C V (VQ (.list (O.map .str)) (.ref Lq) (.list (Je (h.map Q))) (Ab (Xz oc))) (.Compare (.Name "candidate" (P 35)) [.Is] [.Constant .none (K 3) (P 36)] (P 37)) oc.isNone:=λ oc=>
    .au (.aa (d:=Xz oc) rfl) (.ag rfl) rfl (by cases oc<;>rfl)
   refine MN λ K1 n1 o1=>(KT ((t5 _).at (s:={s with heap:=f7,toks:=d8}) Gk hA b3.F (b3.gd B) _ _ λ b' b5 a3 b6 c9 d5=>?_));subst d5;have D:=b3.ae b6 c9;have a0:∀r∈b,CS W b5 r (Q r):=λ r o=>((λ r o=>(H r o).ap b4 (b0 r o)) r o).bg b6;have b7:s.toks<=a3:=Aa (Aa b2 f8) c9;rcases R with⟨d9,ho,d6⟩ |⟨m,x,hn,d9,R⟩
   ·rw[d9];refine PW ?_;refine Ay (wpAny_Raise_call F.excCall_RuntimeError F.excRaise_RuntimeError hA.handled (by rfl) (CH Gk D.F (D.gd B) T.na (.inr g9) ⟨rfl,?_⟩));rw[Bk (P 40) z _ rfl];refine Bf (AE ((Dc.ag (d:=.str hM) (by kernel_rfl)).at (s:={s with heap:=b5,toks:=a3}) Gk hA D.F (D.gd B) _ _ λ v d0 b8 a5 a6 rv=>A6 ⟨rfl,by simp[HH],λ f9 e8 m8=>?_⟩));obtain⟨t,rfl,o1,z1⟩:=rv.aj;have kk:=a5.trans (.af m8.keeps);refine cU (by decide) i0.fr ((i0.stack (D.ae a5 a6)).bg (.af m8.keeps)) (KQ.jk m8.of) λ g0 g3 e0=>?_;exact hE ho d0 g0 b8 e8 t (Aa b7 a6) (D.le.trans a5) ⟨Q,d6.symm,λ r o=>(a0 r o).bg a5⟩ g3 e0
   ·simp only[d9] at D ⊢;refine VU (BN (n1 _ ?_));refine MN λ K1 n1 o1=>((N0 (d:=.str x) Gk hA B (by refine T.nk.trans ?_;rfl) rfl (.aa rfl) (by rw[Al];omega)).go _ _ {s with heap:=b5,toks:=a3} _ _ D λ d0 b8 d1 b9 a6=>n1 _ ?_);have e7:Bu (VQ (.list (O.map .str)) (.ref Lq) (.list (Je (h.map Q))) (Ab (Xz (Ab x)))) "result" (.own (.list (O.map .str++[.str x])))=VQ (.list ((O++[x]).map .str)) (.ref Lq) (.list (Je (h.map Q))) (Ab (.str x)):=by rw[Dy];rfl
    simp only[e7] at d1;refine MN λ K1 n1 o1=>(gP (x:=x) (out:=O++[x]) (d:=.list (Je (h.map Q))) Gk hA B d1 g7 rfl rfl rfl (b9 Lq _ (.inl ⟨c2,.inl rfl⟩) (b6.keep c3 (by simp) (by simp))) (by
     have:=AX (LZ Q) b;rw[Y] at this;omega) (λ r o=>⟨(c1 r o).1,(c1 r o).2.1,(c1 r o).2.2,(λ r o=>(a0 r o).ap b9 (b0 r o)) r o⟩) G f2 h6 c2 c6 T.seq λ f9 h9 g4 c0 g5=>n1 _ (BN (gQ _ _ ?_)))
    refine⟨m,hn▸CK _,g4,Aa b7 (Aa a6 g5),c0,G,?_,by rw[AQ,MU];omega,by have:=AX (LZ Q) b;rw[Y] at this;omega,?_⟩
    ·rw[<-Y];exact Yz
    ·rw[<-Y,n8 b λ r o=>o];exact R
end
section
theorem PH (k:h.get? b=Ah)(Y:List Ai):(FY h Y).get? b=Ah:=by
 by_cases q:b∈Y
 ·exact JN q
 ·rw[DI q];exact k
theorem Rw (e:(FY h Y).get? b=Ab o):h.get? b=Ab o:=by
 by_cases q:b∈Y
 ·rw[JN q] at e;cases e
 ·rw[DI q] at e;exact e
theorem cO:∀Y:List Ai,BB W (FY h Y) h:=by
 intro Y;induction Y with
 |nil=>
  exact .refl _
 |cons b r k=>
  exact BB.trans (SK) (k)
theorem VL (R:BB W W.h0 h):∀Y:List Ai,(∀b∈Y,W.h0.get? b=Ah/\∀o k,h.get? b=Ab o->o.data≠.fields k)->BB W W.h0 (FY h Y):=by
 intro Y;induction Y with
 |nil=>
  intro _;exact R
 |cons b r s=>
  intro H;exact Rt (s λ x w=>H x (Af _ w)) (H b Ad).1 λ o k e=>(H b Ad).2 o k (Rw e)
theorem Rv (T:W.di h):∀Y:List Ai,(∀b∈Y,∀o k,h.get? b=Ab o->o.data≠.fields k)->W.di (FY h Y):=by
 intro Y;induction Y with
 |nil=>
  intro _;exact T
 |cons b r s=>
  intro H;exact Nq (s λ x w=>H x (Af _ w)) λ o k e=>H b Ad o k (Rw e)
theorem oA {f:List Ai}{l:List E9}{u:Bg}{P:Nat->CE}{K:Nat->Nat}(Gk:E2 W C k mg mb){p:Ai}(fo:Gw W p fd ["sequences"] (Qq u P K))(T:XQ fd.scope u P)(c3:∀n,Dk [.Name "sequences" (P 23)] (.ListComp (.Name "s" (P 24)) [⟨.Name "s" (P 25),.Name "sequences" (P 26),[.Name "s" (P 27)],0⟩] u (P 28)) (P 29).line (B5 fd n p)=pure Ag)
 (c4:mg "RuntimeError"=Ah/\mb "RuntimeError"=Ab (.type "RuntimeError")) (hA:CY (k+1) A) (c5:A.frames=Ab l) (St:Bb W s.heap l) (G:Gd W s) {c:Ai->List As} {j x:Nat} (hL:s.heap.get? j=Ab (I3 (f.map BK).toArray x)) (d7:j∉f)
 (c6:f.Nodup) (I:f.length<=B2) (H:∀r∈f,W.h0.get? r=Ah/\CS W s.heap r (c r)) {m:Nat} (hf:m<=B2) {i:Option (List As)} {g:List (List As)} (e:Qp m (f.map c) []=Ab (i,g))
 (hQ:∀M,i=Ab M->∀a R tk,s.heap.get? a=Ah->BB W (FY s.heap f) R->s.toks<=tk->CS W R a M->Tk W R f g->Q (.ref a) {s with heap:=R,toks:=tk})
 (hE:i=Ah->∀N R tk e t,s.toks<=tk->BB W (FY s.heap f) N->Tk W N f g->KQ W N R e (.type "RuntimeError") (.str hM t)->Bb W R l->E (.ref e) {s with heap:=R,toks:=tk}):
 Aw W.M A (call (.ref p) [.ref j]) Q E s:=by
 refine Ge fo hA G (X:=[]) (λ b S=>nomatch S) (.av .nil) rfl λ o N c7 he B d3 U w=>?_;have a4:=hA.down o;rw[EH] at w;have b2:∀b∈f,∀i vs,s.heap.get? b=Ab i->i.data≠.fields vs:=λ b S i vs e=>by
  obtain⟨us,n,e1,_⟩:=(H b S).2;obtain rfl:=A4 e1 e;simp
 have Y:∀a∈AW o,s.heap.get? a=Ah:=λ a ha=>by rw[he] at ha;exact Oy a ha
 have Bm:XB W fd.scope o (FY s.heap f):=⟨VL G.ao f λ b S=>⟨(H b S).1,b2 b S⟩,Rv G.dl f b2,λ a ha=>PH (B.wr a ha) f⟩;have c8:∀r∈f,r∉AW o:=λ r D q=>by
  obtain⟨i,Z,_⟩:=(H r D).2.some;rw[Y r q] at Z;cases Z
 have b3:∀r∈f,CS W N r (c r):=λ r D=>(H r D).2.bg w.le;unfold Qq;refine Ay (CA rfl rfl rfl (iU.list .nil (AZ _) ⟨W,_,o,_,_,_,mg,mb,Gk,a4⟩ _ w.F (w.gd B) _ _ λ a d4 c9 ha b4 b5 ro=>?_));refine Rq B w T.nc (λ y d hy=>?_) ha b4 b5 ro λ a1 a5 h a2=>?_
 ·have hy:C9 y [(("sequences":As),Dt.av (.ref j))]=Ab (.own d):=hy;by_cases z:y="sequences"
  ·subst z;cases AF.symm.trans hy
  ·rw[AK z] at hy;cases hy
 have d0:a∉AW o:=λ q=>by obtain⟨i,Z⟩:=w.F.an a q;exact Do ha Z
 have a6:s.heap.get? a=Ah:=BB.bh w.le ha;have d1:a∉f:=λ q=>by obtain⟨i,Z,_⟩:=(H a q).2.some;exact Do a6 Z
 have J:∀r∈f,CS W a1 r (c r):=λ r D=>(H r D).2.bg h.le;have d2:j∉a::AW o:=λ q=>by
  rcases Ak.mp q with q |q
  ·rw[q,a6] at hL;cases hL
  ·rw[Y _ q] at hL;cases hL
 have e3:Bu ((["sequences"]:List As).zip [Dt.av (.ref j)]) "result" (.own (.list []))=([("sequences",.av (.ref j)),("result",.own (.list []))]:A5):=rfl;rw[e3] at h;have a3:XS W fd.scope o (FY s.heap f) (AW o) (a::AW o) {s with heap:=a1,toks:=a5} (YE [] f):=by
  exact⟨h.F.re h.F.bb h.F.zx h.F.alive (λ _ _=>rfl) (.same rfl (.cons (sl:=.av (.ref j)) rfl (λ v _(r:v=.ref j)=>r▸.list (h.le.keep hL (by simp) (by simp)) d2 (by simpa using I) (Pv f)) .nil)) (Nl "result" rfl),(cO f).trans h.le,h.tk,λ b S hz=>PH (h.fr b S hz) f,h.fc⟩
 have b6:Bb W (FY s.heap f) l:=St.imp λ d5 fc=>by
  obtain⟨i,es,ep,Z,hc,hd⟩:=fc;refine⟨i,es,ep,?_,hc,hd⟩;rw[DI];· exact Z
  intro q;obtain⟨vs,n,e1,_⟩:=(H _ q).2;rw[Z] at e1;injection e1 with e1;rw[e1] at hc;simp at hc
 have O:ZG W (A.deeper o) o (FY s.heap f) l:=⟨by show A.frames.map (o::·)=_;rw[c5];rfl,by rw[a3.F.kind];simp,by rw[he];rfl,b6,a4.handled⟩
 refine Ay (n9 Gk a4 Bm T d0 c6 (λ r D=>⟨(H r D).1,JN D,λ q=>?_⟩) I O c4 (by rw[he];exact c3 _) a3 J (λ r D=>D) rfl (by rw[List.length_nil];omega) I e (λ M Z L a7 a8 b7 b8 V=>?_) λ Z L d6 a9 e6 t b9 a8 V c0 b0=>?_)
 ·rcases Ak.mp q with q |q
  ·exact d1 (q▸D)
  ·exact c8 r D q
 ·exact hQ M Z a L a7 a6 a8 (Aa U (Aa a2 b7)) b8 V
 ·refine UW.bp (by simp) b0 c0 λ c1 c2 b1=>?_;exact hE Z L c1 a9 e6 t (Aa U (Aa a2 b9)) a8 V c2 b1.2.2.2.2
end
def HF (A:GK)(o:Bg)(w:A5)(h:Expr)(C:List As):Prop:=
 ∀(c:Pt A o w)(s:Aq),FI c.W o c.ah c.Z c.X s.heap w->Gd c.W s->∀(Q:Jc)(E:Jc),
  (∀a k z,s.heap.get? a=Ah->BB c.W s.heap k->s.toks<=z->CS c.W k a C->Q (.ref a) {s with heap:=k,toks:=z})->Aw c.W.M c.A (eval h c.ah) Q E s
theorem HF.own {d:List As}(h:iU C V O b (.list (d.map .str))):HF C V O b d:=λ c s F G Q E o=>h c s F G Q E λ a w z A k l r=>o a w z A k l (CS.of r)
variable {a c:Ai}{vs:List Ae}{r:List Bs}{t:Expr}{l:List E9} in
class inductive FJ (W:BV) (X:List Ai) (h:AT):List Ai->List (List As)->Prop
 |nil:FJ W X h [] []
 |cons {r:Ai} {vs:List Ai} {c:List As} {l:List (List As)} (a:W.h0.get? r=Ah) (b:r∉X) (x:CS W h r c) (t:FJ W X h vs l):FJ W X h (r::vs) (c::l)
def t9 (o:BV)(D:Ai)(X:List Ai)(k:AT)(l:List (List As)):Prop:=∃h n,k.get? D=Ab (I3 (h.map BK).toArray n)/\h.Nodup/\FJ o X k h l
theorem FJ.bi (hk:∀b o,h.get? b=Ab o->b∉X->EL o->H.get? b=Ab o/\b∉Y)(x:FJ W X h c l):FJ W Y H c l:=by
 induction x with
 |nil=>exact .nil
 |@cons r _ _ _ a b x _ k=>
  obtain⟨o,s,w,_⟩:=x.some;exact .cons a (hk r o s b w).2 (x.keep λ o e d=>(hk r o e b d).1) k
theorem FJ.len {a:List Ai}{l:List (List As)}(x:FJ W X h a l):a.length=l.length:=by
 induction x with
 |nil=>rfl
 |cons _ _ _ _ k=>exact congrArg BZ k
theorem FJ.append (x:FJ W X h c l)(y:FJ W X h d m):FJ W X h (c++d) (l++m):=by
 induction x with
 |nil=>exact y
 |cons a b x _ k=>exact .cons a b x k
theorem FJ.mem (x:FJ W X h d l):∀r∈d,W.h0.get? r=Ah/\r∉X/\∃c,CS W h r c:=by
 induction x with
 |nil=>exact λ _ q=>absurd q BH
 |cons a b x _ k=>exact List.forall_mem_cons.mpr ⟨⟨a,b,_,x⟩,k⟩
theorem FJ.bc (x:FJ (W.bc a Y) X h b l)(r:Ai)(q:r∈b):(FY a Y).get? r=Ah/\r∉X:=
 have z:=x.mem r q
 ⟨z.1,z.2.1⟩
theorem FJ.fn {d:List Ai}(k:d.Nodup)(x:FJ f X h d l):∃c:Ai->List As,d.map c=l/\∀r∈d,CS f h r (c r):=by
 induction x with
 |nil=>exact⟨λ _=>[],rfl,λ _ q=>absurd q BH⟩
 |@cons r d x l a b t _ s=>
  have k:=BA.mp k;obtain⟨c,hc,w⟩:=s k.2;have e:∀y∈d,(if y=r then x else c y)=c y:=λ y o=>if_neg λ q:y=r=>k.1 (q▸o);refine⟨λ y=>if y=r then x else c y,congr (congrArg List.cons (if_pos rfl)) ((EM e).trans hc),List.forall_mem_cons.mpr ⟨?_,λ y o=>?_⟩⟩
  ·show CS f h r (if r=r then x else c r);exact(if_pos rfl).symm▸t
  ·show CS f h y (if y=r then x else c y);exact(e y o).symm▸w y o
theorem FJ.un {d c:AT}(x:FJ (W.bc d X) (D::X) h e l)(k:∀x∈e,d.get? x=Ah)(G:BB W W.h0 d)(o:∀b,b≠D->c.get? b=h.get? b):FJ W X c e l:=by
 induction x with
 |nil=>exact .nil
 |@cons y _ _ _ a b x _ s=>
  refine .cons (DE G (k y Ad)) (λ q=>b (Af _ q)) ?_ (s λ z w=>k z (Af _ w));obtain⟨A,C,E,z,H⟩:=x;exact⟨A,C,(o y λ q=>b (q▸Ad)).trans E,z,K6 H⟩
theorem zX (D:Ai):ZK D (t9 W D) where
 bi:=λ x hk k=>by obtain⟨h,n,e,s,r⟩:=x;exact⟨h,n,k _ e,s,r.bi λ b o e n d=>hk b o e n (EL.cls d)⟩
 obj:=λ x=>by obtain⟨h,n,e,_⟩:=x;exact⟨_,e,.inl rfl⟩
theorem iY.row (G:HF C V O f d):iY t9 C V (ND f) O d:=λ L g Y i ds s c hz Q E k=>
 Ac (G (L.pt O) s c.F c.gd _ _ λ a t j l A N I=>by
  have u:=c.dq A N;have W:=u.ck;simp only[g] at W;obtain⟨v,n,h,J,B⟩:=W;refine Ac (Kq h (by have:=B.len;simp;omega) λ D Z w z=>Ar (k _ (u.own z ⟨_,w⟩ (An _) ?_)));rw[g];refine⟨v++[a],Z,by rw[w];simp,HX.mpr ⟨J,by simp,λ x M y R q=>?_⟩,?_⟩
  ·have H:=c.ck;rw[g] at H;obtain⟨m,n',p,_,r⟩:=H;have S:m=v:=by
    have:=(A.keep p (by simp) (by simp)).symm.trans h;injection this with this;injection this with _ _ this;injection this with this;exact(List.map_inj_right λ _ _ q=>Value.ref.inj q).mp (by simpa using this)
   rw[Cf.mp R] at q;obtain⟨_,_,cc,T⟩:=r.mem x (S▸M);obtain⟨o,U,_⟩:=T.some;exact DM l ⟨o,U⟩ q
  ·exact(B.append (.cons (DE c.gd.ao l) (λ q=>DM l (c.F.an a q) rfl) I .nil)).bi λ b o e n hd=>⟨(z.2 b λ q=>n (q▸Af _ (L.ZX _ L.DZ))).trans e,n⟩)
def uI (s:GK)(C:Bg)(w:A5)(h:Bg)(z t E:Expr)(A:List Expr)(H:List (List As)):Prop:=∃(o:Type)(l:List o)(g:o->PV)(q:o->Bool)(f:o->List As),H=(l.filter q).map f/\Ei C h=Ag/\OG s C w E (l.map g)/\(FS t).all (λ x=>((Br h w).lookup x).isNone)=Ag/\
 (∀a∈l,∃k,Hl h t (g a) (Br h w)=Ab k/\NL s h k A (q a)/\(q a=Ag->HF s h k z (f a)))/\l.length<=B2
theorem QV (Gk:E2 W C k mg mb)(hA:CY k A){u:List (List As)}(hc:uI WV V O d i t B v u)(F:FI W V z Z X s.heap O)(G:Gd W s){j:Option (Ae->DJ Unit)}
 (hQ:∀D H o I m w n,s.heap.get? D=Ah->s.heap.get? H=Ah->D≠H->BB W s.heap o->s.toks<=I->o.Ns H m->o.get? D=Ab (I3 (w.map BK).toArray n)->w.Nodup->(∀r∈w,s.heap.get? r=Ah)->FJ (W.bc s.heap X) (H::X) o w u->u.length<=B2->JB W.M A E j Q (.ref D) H (.ok .next) {s with heap:=o,toks:=I}):
 Aw W.M A (Ml (.ListComp i [⟨t,B,v,0⟩] d y) d z p (newList []) Av (eval B z) j) Q E s:=by
 obtain⟨α,l,g,q,f,rfl,J,S,hf,h,hz⟩:=hc;have hX:∀b∈X,W.h0.get? b=Ah:=λ b hb=>(F.alive b hb).1;have Gr:=Gk.bc G.ao hX (rw:=λ _=>Ah) λ _ _ q=>nomatch q
 have N:((l.filter q).map f).length<=B2:=Al (as:=l.filter q) f▸Aa (AX q l) hz;refine Lo ⟨W.bc s.heap X,A,z,Z,X,_,mg,mb,Gr,hA⟩ (GV i _ d y) rfl (Acc:=t9) (λ W D=>zX D) (oN:=I3 #[] 0) rfl (λ M A s Q E hq=>B3 hq) (λ W D X h e=>⟨[],0,e,.nil,.nil⟩) J S
  (λ L hL T _ s R c hR=>L.ew hL (GV ..) rfl rfl (T▸.of hf λ a U=>by obtain⟨Y,a,b,e⟩:=h a U;exact⟨Y,a,b,λ q=>.row (e q)⟩) c (Aa (AB (Ct _)) N) hR) (F.bc λ a U=>.inl U) G.bc λ D C' o I mm hD hC a0 a2 a1 l hn x=>?_
 obtain⟨w,n,e,nd,r⟩:=x;refine hQ D C' o I mm w n hD hC a0 (BB.cs G.ao hX a1) l hn e nd (λ x T=>?_) r N;obtain⟨r1,r2⟩:=r.bc x T;exact(DI λ q=>r2 (Af _ q)).symm.trans r1
theorem P7 (x:E2 W C k mg mb)(y:CY k A)(hc:uI WV V O a b t f c d)(F:FI W V z Z X s.heap O)(G:Gd W s)
 (B:∀D H i w n,s.heap.get? D=Ah->BB W s.heap H->s.toks<=i->H.get? D=Ab (I3 (w.map BK).toArray n)->w.Nodup->(∀r∈w,s.heap.get? r=Ah)->FJ W X H w d->Q (.ref D) {s with heap:=H,toks:=i}):
 Aw W.M A (eval (.ListComp b [⟨t,f,c,0⟩] a g) z) Q E s:=by
 refine QV x y hc F G λ D T H i I w n J L j N l v e M h r _=>?_;refine⟨I,v,λ m p=>?_⟩;refine B D m i w n J (N.az L (λ o w R S=>?_) p) l ((p.2 D j).trans e) M h ?_
 ·obtain⟨U,Y,ep,q,u,_⟩:=v;obtain rfl:=A4 R q;cases S.symm.trans u
 ·exact r.un h G.ao p.2
theorem FI.ee (F:FI W V z Z X h O)(R:BB W W.h0 h)(s:BB W h H)(w:∀a∈Y,h.get? a=Ah/\∃o,H.get? a=Ab o):FI W V z (Y++Z) (Y++X) H O:=
 F.same (λ b k=>AV _ (F.bb b k)) (λ b k=>(AL.mp k).elim (λ q=>A8 _ q) λ q=>AV _ (F.zx b q)) (λ _=>Dl s) (λ _ _ _ _=>G4 s) (λ _ _ _ _ r=>(r.ay λ a A=>(w a A).1).ae s)
   λ b k=>(AL.mp k).elim (λ q=>⟨DE R (w b q).1,(w b q).2⟩) λ q=>⟨(F.alive b q).1,BL s (F.alive b q).2⟩
theorem HF.slice {g:List PV}{i:CE}{v:Expr}{lo b st:Option Expr}{d:CE}{l u t:Option Int}{f:List As}(U:jA C V O v (.list g))(Y:ZC C V O lo l)(hu:ZC C V O b u)(ht:ZC C V O st t)
 (e:DV (.list g) l u t=Ab (.list (f.map .str))):HF C V O (.Subscript v (.Slice lo b st d) i) f:=λ c s F G Q E hQ=>by
 refine Subscript_ (U c s F G _ _ λ ov x m h z rv=>wpAny_Slice ?_);have A:=F.ae h;have H:=G.step h z;refine Y c {s with heap:=x,toks:=m} A H _ _ λ vl y p k N p1=>?_;have W:=A.ae k;have Z:=H.step k N;refine hu c {s with heap:=y,toks:=p} W Z _ _ λ vu B r o j p2=>?_;refine ht c {s with heap:=B,toks:=r} (W.ae o) (Z.step o j) _ _ λ vt w L D I p3=>?_;have k5:BB c.W w (w.push {cls:=.type "slice",data:=.fields #[vl,vu,vt]}):=.push _ _;have M:=((k.trans o).trans D).trans k5;obtain⟨a0,J⟩:=N1 lo b st d ov w.objs.size;obtain⟨a,rfl,ws,n,S,z1,r1⟩:=(rv.at M).list;have q:=Fp e;have T:=PV.list.inj q.2;have R:=Ps r1 l u t;rw[T] at R;refine DL ⟨_,S,rfl⟩ slot_list_getitem.lookup ?_ J;exact wpAny_getItem_list_slice ⟨_,S,rfl,_,rfl⟩ ⟨_,AD _ rfl,rfl,rfl⟩ p1 p2 p3 q.1.1 (hQ _ _ _ (Hu (h.trans M) (Ci _)) ((h.trans M).trans (.push _ _)) (Aa z (Aa N (Aa j I))) ⟨_,_,AD _ rfl,by have:=R.length;have:=q.1.2;rw[T] at this;simp at*;omega,K6 R⟩) (Aa z1 FW)
theorem TV (a b:List Ai):Hx (a++b)=Hx a++Hx b:=Dy
theorem FI.over (F:FI W V z Z X h O)(k:∀r∈rs,r∈X/\r∉AW z)(A:BB W (FY h rs) H)(E:∀r∈rs,∃o,H.get? r=Ab o)(s:∀y d,O.lookup y≠Ab (.own d)):FI W V z Z X H O:=
 have g:∀{v d},Rp W X h v d->Rp W X H v d:=λ r=>Rp.ae A (r.bi λ b o e n _=>⟨(DI λ q=>n (k b q).1).trans e,n⟩)
 F.same F.bb F.zx (λ m n=>Dl A (by
  obtain⟨o,N,Q,w,r⟩:=n;exact⟨o,N,Q,(DI λ q=>(k _ q).2 Ad).trans w,r⟩)) (λ _ _ _ e i=>G4 A (by
  obtain⟨o,w,a⟩:=i;exact⟨o,(DI λ q=>(k _ q).2 (Di e)).trans w,a⟩)) (λ y _ c f r=>by
   cases c with
   |aa e=>exact g r
   |av u=>exact r
   |cg u d=>exact⟨r.1,g r.2⟩
   |own e=>exact absurd f (s y e)) λ b C=>⟨(F.alive b C).1,by
    by_cases q:b∈rs
    ·exact E b q
    ·obtain⟨o,w⟩:=(F.alive b C).2;exact BL A ⟨o,(DI q).trans w⟩⟩
theorem T5 (k:BB W N h)(s:∀r∈a,N.get? r=Ah)(w:∀r∈a,∀o z,h.get? r=Ab o->o.data≠.fields z):BB W N (FY h a):=by
 refine⟨λ b o e=>?_,λ t=>Rv (k.2 t) a w⟩;have q:b∉a:=λ q=>by replace e:=Eq.trans (Eq.symm (s b q)) e;contradiction
 rw[DI q];exact k.1 b o e
theorem D3.jx (f:D3 z h)(k:∀r∈a,r∉AW z):D3 z (FY h a):=f.at λ o s=>(DI λ q=>k _ q Ad).trans s
theorem XS.over (S:XS W V z N Z X s O)(h:∀r∈rs,r∈X/\r∉AW z/\N.get? r=Ah/\∀o C,s.heap.get? r=Ab o->o.data≠.fields C)(A:BB W (FY s.heap rs) H)(E:∀r∈rs,∃o,H.get? r=Ab o)(w:∀y d,O.lookup y≠Ab (.own d))(l:s.toks<=a):XS W V z N Z X {s with heap:=H,toks:=a} O:=
 ⟨S.F.over (λ r k=>⟨(h r k).1,(h r k).2.1⟩) A E w,(T5 S.le (λ r k=>(h r k).2.2.1) λ r k=>(h r k).2.2.2).trans A,Aa S.tk l,S.fr,(S.fc.jx λ r k=>(h r k).2.1).bg A⟩
section
theorem iO (f:Dq W A (eval x z) s (λ v Z=>v=.bool b))(g:b=Ag->∀k h,BB W s.heap k->s.toks<=h->Dq W A (boolOp c .And (evalEach (y::a) z)) {s with heap:=k,toks:=h} (λ v Z=>v=.bool d)):
 Dq W A (boolOp c .And (evalEach (x::y::a) z)) s (λ v Z=>v=.bool (b&&d)):=λ Q E e=>by
 refine Ac (f _ _ λ v k h o w i=>?_);subst i;refine Ac (A0 (Ac (Bt (CB ?_))));cases b with
 |false=>exact Ar (e _ k h o w rfl)
 |true=>exact g rfl k h o w _ _ λ v2 H C N O V=>e v2 H C (o.trans N) (Aa w O) V
end
section
theorem Yc (S:XS W V z N Z X s O)(w:s.heap.get? a=Ab o)(A:o.data=.seq b n):¬Ec V z a:=λ q=>by
 rcases q with q |⟨x,C,q⟩
 ·obtain⟨E,H,Q,h,_,k⟩:=S.fc;rw[<-q,w] at h;cases h;cases Eq.trans (Eq.symm A) k
 ·obtain⟨c,d,e,⟨E,h,k⟩,_⟩:=S.F.cell x (.inl C);obtain rfl:=A4 q e;obtain rfl:=A4 w h;cases Eq.trans (Eq.symm A) k
theorem Wa (L:E2 W C k mg mb)(M:CY k A)(F:FI W V z Z X s.heap O)(G:Gd W s)
 (hQ:∀v S D t n v1 v2,BB W s.heap v->s.toks<=S->s.heap.get? D=Ah->s.heap.get? t=Ah->t≠D->v.get? t=Ab (M1 #[.ref D,v1,v2] n)->BX W (D::X) v D (.dict [])->Rp W (D::X) v v1 (.list [])->Rp W (D::X) v v2 (.list [])->Q (.ref t) {s with heap:=v,toks:=S}):
 Aw W.M A (eval (.Tuple [.Dict [] [] b,.List [] c,.List [] d] e a) z) Q E s:=by
 rw[KX,Bk a z _ rfl];refine Ac (A0 (Ac ?_));refine AE (iU.dict ⟨W,A,z,Z,X,_,mg,mb,L,M⟩ s F G _ _ λ D i r T H j g=>?_);have U:=F.ae H;have l:=G.step H j;have Y:FI W V z (D::Z) (D::X) i O:=F.fresh G.ao H T g.alive;refine AE (Dc.list .nil (AZ _) ⟨W,A,z,D::Z,D::X,_,mg,mb,L,M⟩ {s with heap:=i,toks:=r} Y l _ _ λ v1 m w h p x=>?_);have y:Gd W {s with heap:=m,toks:=w}:=l.step (tk:=w) h p;refine AE (Dc.list .nil (AZ _) ⟨W,A,z,D::Z,D::X,_,mg,mb,L,M⟩ {s with heap:=m,toks:=w} (Y.ae h) y _ _ λ v2 N u f B I=>?_);refine A6 ?_;have J:BB W s.heap N:=H.trans (h.trans f);have fr:s.heap.get? N.objs.size=Ah:=Hu J (Ci _);have R:N.objs.size≠D:=λ q=>by
  obtain⟨o,ho⟩:=BL (h.trans f) g.alive;rw[<-q,Ci] at ho;cases ho
 refine B3 (hQ _ u D N.objs.size 0 v1 v2 (J.trans (.push _ _)) (Aa j (Aa p B)) T fr R (AD _ rfl) (((g.ae h).ae f).ae (.push _ _)) (((x.ae f)).ae (.push _ _)) (I.ae (.push _ _))) (by show 3<=HH;simp[HH])
theorem X0 {kk:Nat}{P:Nat->CE}{K:Nat->Nat}(Gk:E2 W C k mg mb)(B:XB W V z N)(e6:ZG W A z N I)(S:XS W V z N Z X s O)(b6:∀y d,O.lookup y≠Ab (.own d))(c9:∀b∈X,Ec V z b)(R:XI W mg mb U)(d0:mg "reduce"=Ab (.ref U)){j:FF}(fo:Gw W Y j ["state","reply"] (IQ x3 c g l P K))(T:Ly j.scope x3 c g)(d1:mg "_law_heard"=Ab (.ref Y))
 (x1:Gm W mg "error_reply" C1 M) (x2:Gm W mg "error_proto" L m) (d2:(BK L::m).contains (.ref C1)=Av) (hA:CY (k+2) A) (ht:Dc C V O f (.list n)) (d3:Cm f=Ag)
 {p:Nat->List (As×PV)} {u G:Nat->List PV} (e0:p 0=[]) (h0:u 0=[]) (s0:G 0=[]) (hR:∀i x,n[i]? =Ab x->∃r,x=.str r/\UV W C k j.scope P K c g l C1 L r (p i) (u i) (G i) (p (i+1)) (u (i+1)) (G (i+1)))
  (hx:A3 V x=Ag) (g1:CX V "reduce"=Ag) (g2:CX V "_law_heard"=Ag) {a0:FG->Aq->Prop}
 (hQ:∀h' tk D t nt v1 v2,XS W V z N (D::Z) (D::X) {s with heap:=h',toks:=tk} (Bu O x (.av (.ref t)))->s.heap.get? D=Ah->t∉D::X->h'.get? t=Ab (M1 #[.ref D,v1,v2] nt)->Rp W (D::X) h' v1 (.list (u n.length))->Rp W (D::X) h' v2 (.list (G n.length))->BX W (D::X) h' D (.dict (p n.length))->s.toks<=tk->a0 .next {s with heap:=h',toks:=tk}):
 Aw W.M A (exec (.Assign [.Name x q1] (.Call (.Name "reduce" q2) [.Name "_law_heard" q3,f,.Tuple [.Dict [] [] q4,.List [] q5,.List [] q6] kk q7] [] q8) a1) z) a0 E s:=by
 have b7:=hA.ai (AS k 2);have R0:=R;obtain⟨d4,_,_,b8⟩:=R0;obtain⟨d5,b9,d6,c0,c1⟩:=b8.obj;obtain⟨oh,f1,f2,e7,e8⟩:=fo.obj;refine CA rfl rfl rfl (B4 (CH Gk S.F (S.gd B) g1 (.inl d0) ?_));refine Dm (by show(Ag&&(Cm f&&(Ag&&Ag)))=Ag;rw[d3];rfl) ?_;refine Cj (o:=d5) (fd:=d4) (Bf (AE (CH Gk S.F (S.gd B) g2 (.inl d1) ?_)));refine AE (ht ⟨W,A,z,Z,X,_,mg,mb,Gk,b7⟩ s S.F (S.gd B) _ _ λ tv e9 d7 a6 a7 rt=>?_);have h:=S.ae a6 a7;refine AE (Wa Gk b7 h.F (h.gd B) λ H a3 D t nt v1 v2 Q a8 hD c2 d8 eT oD r1 r2=>?_);refine A6 ⟨⟨((B.ao.trans h.le).trans Q).keep b9 c0 c1,d6⟩,?_⟩;have a2:XS W V z N ([D]++Z) ([D]++X) {s with heap:=H,toks:=a3} O:=
  ⟨h.F.ee (h.gd B).ao Q (λ a ha=>by rw[Cf.mp ha];exact⟨hD,oD.alive⟩),h.le.trans Q,Aa h.tk a8,λ a ha hz=>by
    rcases AL.mp ha with q |q
    ·exact absurd (A8 _ q) hz
    ·exact h.fr a q λ q'=>hz (AV _ q'),h.fc.bg Q⟩
 have c3:=Hu a6 hD;have b2:=N5 oD;have a9:=a2.gd B;have a4:∀b∈D::X,W.h0.get? b=Ah/\∃o,H.get? b=Ab o:=λ b N=>a2.F.alive b N;have b3:BB W W.h0 (Iu H (Ab D)):=PG a9.ao (λ B q=>by cases q;exact((a4 D Ad).1)) λ B q o vs e=>by cases q;exact(b2 o e).1 vs
 have t0:=DE (h.gd B).ao c2;have f3:t∉D::X:=λ q=>by
  rcases Ak.mp q with q |q
  ·exact d8 q
  ·obtain⟨o,ho⟩:=h.F.an t q;have d9:=c2;exact Do d9 ho
 have St:=Ur Gk fo T x1 x2 d2 (D:=D) (X:=D::X) Ad (N:=Iu H (Ab D)) b3 (λ b N=>⟨(a4 b N).1,by
  by_cases q:b=D
  ·exact .inl q
  ·right;obtain⟨o,ho⟩:=(a4 b N).2;exact⟨o,(JM λ B' q'=>by cases q';exact q).trans ho⟩⟩) hR
 have e1:CY (k+1+1) A:=hA;refine Oo (s:={s with heap:=H,toks:=a3}) (ob:=Ab D) (X:=D::X) Gk R e1 a9 a4 ((rt.be hD).ae Q) (λ B' q=>by cases q;exact⟨Ad,b2⟩) e6.fr (e6.stack a2) ⟨t0,_,eT⟩ St ⟨t,nt,v1,v2,rfl,eT,by rw[h0];exact r1,by rw[s0];exact r2,by rw[e0];exact oD⟩ λ f0 e2 v c4 b0 J=>?_;obtain⟨t',e3,w1,w2,rfl,b4,p1,p2,p3⟩:=J;have b1:=XS.over a2 (rs:=[D]) (λ r hr=>by
  rw[Cf.mp hr];refine⟨A8 _ Ad,λ q=>?_,?_,λ o vs e=>(b2 o e).1 vs⟩
  ·obtain⟨o,ho⟩:=h.F.an D (h.F.zx _ (h.F.bb _ q));have d9:=hD;exact Do d9 ho
  ·exact Hu S.le c3) c4 (λ r hr=>by rw[Cf.mp hr];exact p3.alive) b6 b0
 have tX:t'∉D::X:=λ q=>by
  rcases Ak.mp q with q |q
  ·obtain⟨o',e4,c5,_⟩:=TT p3;rw[<-congrArg Obj.cls (A4 (q▸b4) e4)] at c5;exact absurd (Value.type.inj c5) (by decide)
  ·exact Yc b1 b4 rfl (c9 _ q)
 refine XS.fg B b1 (sl:=.av (.ref t')) hx rfl (λ d q=>nomatch q) λ c6 b5 c7 w c8=>?_;have nW:∀b,Ec V z b->b∈X:=λ b q=>S.F.br q;have e5:¬Ec V z D:=λ q=>by obtain⟨o,ho⟩:=h.F.an D (nW D q);exact Do hD ho
 have a5:∀a,Ec V z a->a∈D::X:=λ a q=>Af _ (nW a q);exact hQ c6 b5 D t' e3 w1 w2 c7 c3 tX (w.keep t' _ (λ q=>tX (a5 _ q)) b4) (Rp.bj a5 w p1) (Rp.bj a5 w p2) (BX.bj w a5 e5 p3) (Aa a7 (Aa a8 (Aa b0 c8)))
end
section
theorem BX.rp (x:BX W X h a d)(k:a∉Y)(o:∀b∈Y,b∈X):Rp W Y h (.ref a) d:=by
 cases d with
 |list w=>obtain⟨A,n,e,z,l⟩:=x;exact .list e k z (l.ai o)
 |dict C=>obtain⟨s,e,y,z,q,l⟩:=x;exact .dict e k y z q (l.ai o)
 |_=>exact x.elim
theorem mQ (Gk:E2 W C k mg mb)(hA:CY k A)(B:XB W V z N)(S:XS W V z N (D::Z) (D::X) s O)(hx:O.lookup x=Ab (.av (.ref t)))(L:∀y d,O.lookup y≠Ab (.own d))(a0:∀a∈AW z,a∈Z)(a1:∀a∈Z,a∈X)(R:D∉X)
 (ht:t∉D::X) (hT:s.heap.get? t=Ab (M1 #[.ref D,v1,v2] g)) (p1:Rp W (D::X) s.heap v1 c) (p2:Rp W (D::X) s.heap v2 m) (pD:BX W (D::X) s.heap D (.dict n))
  (hr:Dc C V O f (.ba [.dict i,j,l])) (a2:K8 f=Ag) (q1:NF n i=Ab Ag) (q2:NU c j=Ab Ag) (q3:NU m l=Ab Ag) {p:FG->Aq->Prop}
 (hQ:∀h' tk,XS W V z N Z X {s with heap:=h',toks:=tk} (Bu O x (.aa (.ba [.dict n,c,m])))->s.toks<=tk->p .next {s with heap:=h',toks:=tk}):
 Aw W.M A (exec (.If (.Compare (.Name x G) [.NotEq] [f] I) b [] J) z) p E s:=by
 refine KT (DB (S.F.av hx (hr ⟨W,A,z,D::Z,D::X,_,mg,mb,Gk,hA⟩ s S.F (S.gd B) _ _ λ vb w H h M rb=>?_)) (IB a2));have Q:w.get? t=Ab (M1 #[.ref D,v1,v2] g):=h.keep hT (by simp) (by simp);have o:=S.ae h M;refine jN (s:={s with heap:=w,toks:=H}) (X:=D::X) (Y:=D::X) (hA.u (by decide+kernel)) Q (pD.ae h) (p1.ae h) (p2.ae h) Ad rb q1 q2 q3 (CB ?_);simp only[Bw,if_false];refine BN (hQ w H ?_ M);have less:∀b∈X,b∈D::X:=λ b N=>Af _ N;refine⟨o.F.re a0 a1 (λ a U=>o.F.alive a (less a U)) (λ _ _=>rfl) (λ y s' T=>?_) (λ y a3 d e Y h2=>?_),o.le,o.tk,λ a U hz=>o.fr a (less a U) λ q=>?_,o.fc⟩
 ·rw[Ca] at T;split at T
  ·rename_i q;subst q;cases T;refine⟨_,hx,λ v hv r=>?_⟩;subst r;exact .ba Q (λ q=>ht (less t q)) (by simp[B2]) (.cons ((pD.ae h).rp R less) (.cons ((p1.ae h).ai less) (.cons ((p2.ae h).ai less) .nil)))
  ·refine⟨s',T,λ v hv r=>?_⟩;cases s' with
   |aa d=>exact Rp.ai less r
   |av u=>exact r
   |cg u d=>exact⟨r.1,Rp.ai less r.2⟩
   |own d=>exact absurd T (L y d)
 ·rw[Ca] at Y;split at Y
  ·cases Y
  ·exact absurd Y (L y d)
 ·rcases Ak.mp q with q |q
  ·exact R (q▸U)
  ·exact hz q
end
section
structure Mx (W:BV)(mg:As->Option Ae)(sc:Bg)(ah:E9)(ρ:A5)(params:Ea)(body:Expr)(lsc:Bg)(pos:CE)(ps:List As)(φ:A5):Prop where
 ji:∃c P ls qual,iV W c P ls/\Ce≠P/\W.h0.BuiltinsAt mg P/\ah.code=.ref c/\(pos,qual)∈ls/\ah.qual++"<lambda>"=qual
 dfl:defaultsOf params ah=([],[])
 ms:ZE params body lsc ps
 nd:(lsc.names.map (·.1)).Nodup
 free:∀p∈lsc.names,p.2=.free->sc.names.lookup p.1=Ab .cell
 gu:∀x sl,φ.lookup x=Ab sl->lsc.names.lookup x=Ab .free/\D5 x=Ag/\ρ.lookup x=Ab sl/\∃d,sl=.aa d
theorem Mx.ok {b:Bg}(L:Mx W mg V z O j g b m l n)(F:FI W V z Z X h O)(B:MW h f g b l (GX z b.names [])):
 (∀a∈(GX z b.names []).map (·.2),a∈X)/\∀Y:List Ai,(∀a∈Y,a∈X)->QB W h Y f g b l (GX z b.names []) n:=by
 have k:∀p∈b.names,p.2=.free->iZ W z Z X h O p.1:=λ p s E=>F.cell p.1 (.inl (L.free p s E));have w:∀p∈b.names,p.2=.free->(z.cells.lookup p.1).isSome=Ag:=λ p s E=>by obtain⟨c,t,e,_⟩:=k p s E;rw[e];rfl
 have o:∀x,(GX z b.names []).lookup x=if b.names.lookup x=Ab .free then z.cells.lookup x else Ah:=λ x=>Lp x b.names [] L.nd w
 have H:∀a∈(GX z b.names []).map (·.2),a∈X:=λ a A=>by
  obtain⟨p,s,rfl⟩:=AH.mp A;exact F.zx _ (F.bb _ (Di (UI b.names [] w (λ p s=>nomatch s) p s)))
 refine⟨H,λ Y D=>⟨B,λ x N e=>?_,λ x u=>?_,λ x y c C Q=>?_,λ a A=>?_⟩⟩
 ·obtain⟨G,I,_,d,rfl⟩:=L.gu x N e;exact⟨G,I,λ d q=>(by contradiction)⟩
 ·obtain⟨c,t,e,i,J⟩:=k (x,.free) (mem_of_lookup u) rfl;refine⟨c,t,by rw[o,if_pos u];exact e,i,λ N M=>?_⟩;obtain⟨_,_,R,d,rfl⟩:=L.gu x N M;obtain⟨v,C,r⟩:=J _ R;refine⟨v,C,?_⟩;refine Rp.ai (λ a A=>?_) r;rcases AL.mp A with q |q
  ·exact H a q
  ·exact D a q
 ·rw[o] at C Q;split at C
  ·split at Q
   ·exact F.inj x y c C Q
   ·contradiction
  ·contradiction
 ·exact F.alive a (H a A)
theorem W8 {d:Bg}(u:E2 W C k mg mb)(L:Mx W mg V z O a b d g i j)(F:FI W V z Z X s.heap O)(G:Gd W s)
 (v:∀o m f,BB W s.heap o->s.toks<=m->s.heap.get? f=Ah->MW o f b d i (GX z d.names [])->Q (.ref f) {s with heap:=o,toks:=m}):Aw W.M A (eval (.Lambda a b d g) z) Q E s:=by
 refine Jt λ M x=>?_;obtain⟨c,P,R,w,LT,n,q,h,H,y⟩:=L.ji;refine x ?_;have r:∀p∈d.names,p.2=.free->(z.cells.lookup p.1).isSome=Ag:=λ p B t=>by obtain⟨c,S,e,_⟩:=F.cell p.1 (.inl (L.free p B t));rw[e];rfl
 exact dI u LT n q F.bx h H y L.dfl (Mp r) G λ o m f D I N l t J hc=>v o m f N l t ⟨w,a,_,D,I,J,hc,L.ms⟩
theorem Ue (l:E2 W C k mg mb)(L:Mx W mg V z O c b d e g i)(F:FI W V z Z X s.heap O)(G:Gd W s)
 (m:∀H j f w,BB W s.heap H->s.toks<=j->(∀a∈w.map (·.2),a∈X)->(∀Y:List Ai,(∀a∈Y,a∈X)->QB W H Y f b d g w i)->Q (.ref f) {s with heap:=H,toks:=j}):Aw W.M A (eval (.Lambda c b d e) z) Q E s:=
 W8 l L F G λ H j f h N _ o=>m H j f _ h N (L.ok (F.ae h) o).1 (L.ok (F.ae h) o).2
theorem Re {i:Nat}{b:List Ae}{a:List As}(r:RpL W X h b (a.map .str))(k:i<a.length):Rp W X h (b.getD i .none) (.str (a.getD i Cb)):=by
 obtain⟨v,e,o⟩:=r.get (k:=i) (d:=.str (a.getD i Cb)) (by rw[Bo,AA k,Am,AA k];rfl);rw[Am,e];exact o
theorem qN {b:List As}(r:RpL W X h c (b.map .str)){a:As}(k:a∈b):Ba a=Ag/\a.length<=B2:=
 r.bt (P:=λ _ o=>PV.str a∈o->Ba a=Ag/\a.length<=B2) (λ q=>absurd q BH) (λ v _ d _ s _ i q=>(Ak.mp q).elim (λ e=>by
   subst e;obtain⟨_,_,x,y⟩:=s.aj;exact⟨x,y⟩) i) (DT k)
theorem Nb {n:Nat}(T:CY (n+3) A)(U:∀a∈X,∃o,s.heap.get? a=Ab o)(G:Gd W s){b:List As}{g:As->As->Int}{K:Ai}(Y:ET W n s.heap K (Mo b g))(O:W.h0.NoLimit){l:Ai}{c:Array Ae}{m:Nat}(el:s.heap.get? l=Ab (I3 c m))(x:RpL W X s.heap c.toList (b.map .str))(M:b.length<7)
 {d:Nat->Nat->Bool} (ok:KN b.length d) (y:∀i j,i<b.length->j<b.length->d i j=decide (g (b.getD i Cb) (b.getD j Cb)<0))
 (hQ:∀v B R,BB W s.heap B->s.toks<=R->(∃p,H7 b.length d p/\Rp W X B v (.list ((p.map λ i=>b.getD i Cb).map .str)))->Q v {s with heap:=B,toks:=R}):
 Aw W.M A (call (.builtin "sorted") [.ref l] [(Fs "key",.ref K)]) Q E s:=by
 have k:c.toList.length=b.length:=by have:=x.length;simpa using this
 have h:∀i,i<b.length->∃t,c.toList.getD i .none=.str (b.getD i Cb) t/\Ba (b.getD i Cb)=Ag/\(b.getD i Cb).length<=B2:=λ i w=>by
  have r:=Re x w;generalize c.toList.getD i .none=v at r;exact r.aj
 have CO:XP (Mo b g) c.toList d:=by
  have V:∀i,i<b.length->b.getD i Cb∈b:=λ i w=>by rw[Am,AA w];exact Dg w
  refine⟨λ i j w N=>?_,by rw[k];exact ok,λ v hv=>?_⟩
  ·simp only[k] at w N;obtain⟨t1,u,o1,z1⟩:=h i w;obtain⟨t2,e2,o2,z2⟩:=h j N;exact⟨_,by rw[u,e2];exact if_pos ⟨V i w,V j N⟩,y i j w N⟩
  ·obtain⟨i,w,e⟩:=Cr.mp hv;obtain⟨t1,u,_⟩:=h i (by rw[<-k];exact w);rw[Am,AA w] at u;rw[<-e];have I:c.toList[i]=_:=u;rw[I];rfl
 refine aQ (k:=n) (by rw[k];exact M) Y T G O CO ⟨_,el,rfl,m,by rfl⟩ λ z H D c2 p Z C f hD eD=>?_
 replace Z:=(k)▸Z
 have J:D∉X:=λ q=>by obtain⟨o,ho⟩:=U D q;exact Do hD ho
 have L:∀i∈p,i<b.length:=λ i w=>Au.mp ((Z.1.mem_iff).mp w);have rp:∀q:List Nat,(∀i∈q,i<b.length)->RpL W X z (q.map λ i=>c.toList.getD i .none) ((q.map λ i=>b.getD i Cb).map .str):=by
  intro q;induction q with
  |nil=>intro _;exact .nil
  |cons i q ih=>intro S;exact .cons (Re (x.ae C) (S i Ad)) (ih λ j N=>S j (Af _ N))
 refine hQ _ z H C f ⟨p,Z,.list (vs:=(p.map λ i=>c.toList.getD i .none).toArray) eD J ?_ (rp p L)⟩;show(p.map _).length<=B2;rw[Al,Z.1.length_eq,CM];exact Aa (A7 M) (by decide+kernel:(6:Nat)<=B2)
theorem YB {U:Nat}{T J Y M q4 q6 q7 R:CE}{u:List As}{y:As}{m:Bg}{d:Ea}{I:A5}(Gk:E2 W C k mg mb)(hA:CY (k+4) A)(B:XB W V z N)(S:XS W V z N Z X s O){q:Nat}{G:GK}(CT:UX W mg mb G U q)(b7:mg "cmp_to_key"=Ab (.ref q))(b8:∃o fd,W.h0.get? q=Ab o/\o.data=.func fd/\o.cls≠.type "frame"/\o.cls≠.none)(a1:W.h0.NoLimit)
 {c:Expr} {e:CE} (L:Mx W mg V z O d c m e u I) (b9:u.length=2) {ns:List As} {x:As} (hy:O.lookup y=Ab (.aa (.list (ns.map .str)))) (hn:ns.length<7) {t:Nat->Nat->Bool} (ok:KN ns.length t) {g:As->As->Int}
 (c0:∀a∈ns,∀b∈ns,Dc C m (u.zip [.aa (.str a),.aa (.str b)]++I) c (.int (g a b))) (c1:∀i j,i<ns.length->j<ns.length->t i j=decide (g (ns.getD i Cb) (ns.getD j Cb)<0)) (hx:A3 V x=Ag) (g1:CX V "sorted"=Ag) (g2:CX V "cmp_to_key"=Ag)
  {D:FG->Aq->Prop} (hQ:∀p,H7 ns.length t p->KA W V z N Z X s (.next (Bu O x (.aa (.list ((p.map λ i=>ns.getD i Cb).map .str))))) D):
 Aw W.M A (exec (.Assign [.Name x J] (.Call (.Name "sorted" Y) [.Name y M] [⟨Ab "key",.Call (.Name "cmp_to_key" q4) [.Lambda d c m e] [] q6,q7⟩] R) T) z) D E s:=by
 refine Jt λ gg kk=>?_;obtain⟨o,fd,ho,hd,c2,c3⟩:=b8;refine kk ?_;refine CA (t:=.Name x J) rfl rfl rfl (wpAny_Call_Name_kw (CH Gk S.F (S.gd B) g1 (.inr (Gk.blt .sorted)) ?_));refine callWith_kw ?_;rw[Bk R z [.Name y M] rfl];refine AE (S.F.name hy λ v rv=>A6 ?_);obtain⟨l,us,n,rfl,el,lX,lz,rl⟩:=(rv).aj;refine kws_cons (B4 (CH Gk S.F (S.gd B) g2 (.inl b7) ?_));refine Dm (es:=[.Lambda d c m e]) rfl ?_;refine Cj (o:=o) (fd:=fd) (Bf (AE (Ue Gk L S.F (S.gd B) λ b1 a8 f c4 w a2 _ LO=>A6 ⟨⟨((S.gd B).ao.trans w).keep ho c2 c3,hd⟩,?_⟩)));have a3:=S.ae w a2;have cf:=SM Gk (LO [] λ a ha=>absurd ha (by exact BH)) b9 a1 (N:=ns) (λ a ha=>qN rl ha) c0;refine CT.call (s:={s with heap:=b1,toks:=a8}) (k:=k) (hA.ai (CP (AS k 3))) (a3.gd B) cf _ _ λ vK a4 h H a5 hK=>?_;obtain⟨K,rfl,_,KL⟩:=hK;refine kws_nil ?_;have Q:XS W V z N Z X {s with heap:=a4,toks:=h} O:=a3.ae (tk:=h) H a5;have kk:=w.trans H;refine Nb (s:={s with heap:=a4,toks:=h}) hA Q.F.an (Q.gd B) KL a1 (kk.keep el (by simp) (by simp)) (rl.ae kk) hn ok c1 λ v b2 a0 a6 a7 r=>?_;obtain⟨p,gp,rD⟩:=r;have b3:XS W V z N Z X {s with heap:=b2,toks:=a0} O:=Q.ae (tk:=a0) a6 a7;refine GY (hA.ai (j:=0) (by exact AZ _)).handled B b3 (HC hx) rD λ b4 a9 b5 b0 b6=>?_;exact hQ p gp b4 a9 b5 ((w.trans (H.trans a6)).ap.trans (b0.ap λ a ha=>S.F.br ha)) (Aa a2 (Aa a5 (Aa a7 b6)))
end
section
theorem Zf (p:E2 W C k mg mb)(q:CY k A)(F:FI W V z Z X s.heap O)(G:Gd W s)(u:Cm a=Ag)(v:Cm b=Ag)(x:Dc C V O a d)(y:Dc C V O b e)
 (B:∀n r t,BB W s.heap n->s.toks<=r->s.heap.get? t=Ah->Rp W X n (.ref t) (.ba [d,e])->Q (.ref t) {s with heap:=n,toks:=r}):Aw W.M A (eval (.Tuple [a,b] f c) z) Q E s:=by
 rw[KX,Bk c z _ (by show(Cm a&&(Cm b&&Ag))=Ag;rw[u,v];rfl)];refine Ac (A0 (Ac ?_));refine AE (x ⟨W,A,z,Z,X,_,mg,mb,p,q⟩ s F G _ _ λ v1 j N h o D=>?_);refine AE (y ⟨W,A,z,Z,X,_,mg,mb,p,q⟩ {s with heap:=j,toks:=N} (F.ae h) (G.step h o) _ _ λ v2 w g H l I=>A6 ?_);have i:BB W s.heap w:=h.trans H;have m:=F.ae i;refine B3 (B _ g w.objs.size (i.trans (.push _ _)) (Aa o l) (Hu i (Ci _)) (.ba (AD _ rfl) (IK m.an) (by simp[B2]) (.cons ((D.ae H).ae (.push _ _)) (.cons (I.ae (.push _ _)) .nil)))) (by show 2<=HH;simp[HH])
end
theorem kN {M:Dr}{m:As->Option Ae}(f:As×Ae->PUnit->DJ (ForInStep PUnit))(Q:∀n v u,f (n,v) u=(do M3 z n v;pure (.yield ⟨⟩)))(hk:z.scope.kind=.function){cm:As->Option Ae}{a:PUnit->Aq->Prop}
 (x:Mb s₀ z.locals m z.cells cm s) (V:D3 z s.heap) (C:z.kindOf n=Ab .local)
 (W:∀w,Mb s₀ z.locals (Oi z.kindOf [(n,v)] m) z.cells (Q3 z.kindOf [(n,v)] cm) w->D3 z w.heap->1<=w.toks->a ⟨⟩ w):Aw M A (forIn [(n,v)] ⟨⟩ f) a E s:=by
 obtain⟨O,d,rfl⟩:=id x.toInCall.same;rw[EG,Q];refine Ac (Ac (C5 C x.toInCall.ns (λ Z H h N=>Ar ?_) (by rw[hk];rfl)));simp only[List.forIn_nil];refine Ar (W _ ⟨⟨⟨Z,_,rfl⟩,?_,λ b o e=>?_,x.toInCall.fresh⟩,λ k c hc=>?_,x.apart,x.above⟩ (V.bo N) (Aj _ _))
 ·have e:Oi z.kindOf [(n,v)] m=λ y=>if y=n then Ab v else m y:=by
   unfold bindL;simp only[C,if_true];rfl
  rw[e];exact H
 ·exact h.extBut b o (Cu (Ao (AU e) x.toInCall.fresh)) (x.toInCall.keep b o e)
 ·have e:Q3 z.kindOf [(n,v)] cm=cm:=by
   unfold bindC;simp only[C,if_true];rfl
  rw[e];exact(x.cell k c hc).sameBut h (Dz (x.above k c (mem_of_lookup hc)))
theorem lA {M:Dr}{v:Ae}{a:Bg}{globals:Ai}{n:As}{f:As}{g:Option Ai}{code:Ae}{d:Ai}{i:E9->Aq->Prop}(hk:a.kind=.function)(O:a.names.lookup n=Ab .local)
 (Q:∀h,h=newEnv a s.heap.objs.size globals (CF (s.heap.objs.size+1) a.names []) f g code Ah d->
  ∀k,Mb s h.locals (Oi h.kindOf [(n,v)] λ _=>Ah) h.cells (Q3 h.kindOf [(n,v)] λ _=>Ah) k->D3 h k.heap->1<=k.toks->i h k):
 Aw M A (F8 a globals [] [(n,v)] f g code Ah d) i E s:=by
 simp only[F8,Option.isSome_none,Bw,if_false];refine Ac (OT ?_);refine Ac (wpAny_layCells _ (λ name w C=>by cases H:w==Cp<;>simp[H]) _ _ _ _ ?_);have z:=cellsFrom_ok a.names (s.heap.push {cls:=.type "frame",data:=.dict #[]}) (s.heap.objs.size+1) [] ⟨λ _ _ N=>(nomatch N),G8⟩ (by rw[CV];exact An _);rw[CV] at z;rw[show({s with heap:=s.heap.push {cls:=.type "frame",data:=.dict #[]}}:Aq).heap.objs.size=s.heap.objs.size+1 from CV ..];refine Ac (kN (s₀:=s) (z:=newEnv a s.heap.objs.size globals (CF (s.heap.objs.size+1) a.names []) f g code Ah d) _ (λ _ _ _=>rfl) hk (m:=λ _=>Ah) (cm:=λ _=>Ah)
  ⟨⟨⟨_,_,rfl⟩,(Heap.Ns.new s.heap (.type "frame")).keeps (Ed _ _),λ b o e=>Ed _ _ b o (AI _ e),An _⟩,
    λ n c hc=>(z.empty n c (mem_of_lookup hc)).1,z.apart,λ n c N=>(z.empty n c N).2⟩
  ⟨_,_,_,Ed _ _ _ _ (AD _ rfl),rfl,rfl⟩ O λ k x V l=>Ar (Q _ rfl k x V l))
theorem YF (H:Gw W a fd [n] g)(M:fd.scope.names.lookup n=Ab .local)(R:CY (k+1) A)(z:BB W W.h0 s.heap)(j:W.di s.heap)(r:Rp W [] s.heap v d)
 (S:∀(w:E9)(C:AT)(h:Nat),w=B5 fd s.heap.objs.size a->XB W fd.scope w s.heap->XS W fd.scope w s.heap (AW w) (AW w) {s with heap:=C,toks:=h} [(n,.aa d)]->
  Aw W.M (A.deeper w) (execs g w) (λ f N=>Q (match f with | .ret v=>v |_=>.none) N) (λ e N=>Aw W.M (A.deeper w) (leaving w e) (λ _ O=>E e O) (λ T O=>E T O) N) {s with heap:=C,toks:=h}):
 Aw W.M A (call (.ref a) [v]) Q E s:=by
 obtain⟨o,U,V,B,D⟩:=H.obj;obtain⟨c,Y,vs,t,Z,G,I,l,m,p⟩:=H.code;have J:=z.keep U B D;have u:s.heap.NoLimit:=by obtain⟨mc,h1,h2⟩:=H.ng;exact⟨mc,Dl z h1,h2⟩
 refine Ic (OE (Cw (Az (AS ..) R.depth) (by decide+kernel)) J V H.co H.bi H.body (⟨c,Y,vs,t,Z,z.keep G m p,I,l⟩) ?_);refine H.bind [v] s z rfl _ _ _ _ ?_;rw[H.mn];refine lA H.kind M λ w he N x fc L=>?_;subst he;refine⟨u.keeps x.toInCall.keep,codeAny_func ?_⟩;have G0:Gd W {s with toks:=max s.toks 1}:=⟨z,j,Nat.le_max_right _ _⟩;have x0:Mb {s with toks:=max s.toks 1} (B5 fd s.heap.objs.size a).locals (Oi (B5 fd s.heap.objs.size a).kindOf (([n]:List As).zip [v]) λ _=>Ah) (B5 fd s.heap.objs.size a).cells (Q3 (B5 fd s.heap.objs.size a).kindOf (([n]:List As).zip [v]) λ _=>Ah) N:=by
  refine Jt λ gg kk=>?_;obtain⟨⟨⟨C,h,e⟩,i2,i3,i4⟩,i5,i6,i7⟩:=x;refine kk ?_;exact⟨⟨⟨C,h,e⟩,i2,i3,i4⟩,i5,i6,i7⟩
 have F:=Uw H G0 (λ b i=>(by contradiction)) (MT.gw (.cons r .nil)) x0;obtain⟨C,h,e⟩:=x.toInCall.same;subst e;have fresh:∀b∈AW (B5 fd s.heap.objs.size a),s.heap.get? b=Ah:=λ b i=>by
  rcases Ak.mp i with q |q
  ·rw[q];exact Ci s.heap
  ·obtain⟨⟨n,c⟩,hm,rfl⟩:=AH.mp q;exact Lk (AY (x.above n c hm))
 rw[EH] at F;refine DK (S (B5 fd s.heap.objs.size a) C h rfl ⟨z,j,λ b i=>fresh b ?_⟩ ⟨F,.af x.toInCall.keep,L,λ b i hz=>absurd i hz,fc⟩) (λ f N l=>?_) λ e N l=>l
 ·rcases i with rfl |⟨y,_,hy⟩
  ·exact Ad
  ·exact Di hy
 ·exact l
theorem Qc {a:Type}(h:List a):h.filter (λ _=>Ag)=h:=Jm.mpr λ _ _=>rfl
def g1 (f:PV->Option PV)(args:List PV):Option PV:=args.casesOn Ah λ a r=>r.casesOn (f a) λ _ _=>Ah
def g2 (f:PV->PV->Option PV)(args:List PV):Option PV:=args.casesOn Ah λ a r=>g1 (f a) r
def uE (f:Int->Option PV)(a:PV):Option PV:=PV.casesOn a Ah (λ _=>Ah) f (λ _=>Ah) (λ _=>Ah) (λ _=>Ah) (λ _=>Ah) (λ _=>Ah)
def yA (f:As->Option PV)(a:PV):Option PV:=PV.casesOn a Ah (λ _=>Ah) (λ _=>Ah) f (λ _=>Ah) (λ _=>Ah) (λ _=>Ah) (λ _=>Ah)
theorem Of {f:PV->Option PV}(h:g1 f args=Ab d):∃a,args=[a]/\f a=Ab d:=by
 cases args with
 |nil=>contradiction
 |cons a r=>cases r with
  |nil=>exact⟨a,rfl,h⟩
  |cons=>contradiction
theorem sM {f:PV->PV->Option PV}(h:g2 f args=Ab d):∃a b,args=[a,b]/\f a b=Ab d:=by
 cases args with
 |nil=>contradiction
 |cons a r=>obtain⟨b,rfl,h⟩:=Of h;exact⟨a,b,rfl,h⟩
theorem Nn {f:Int->Option PV}(h:uE f a=Ab d):∃i,a=.int i/\f i=Ab d:=by
 cases a with
 |int i=>exact⟨i,rfl,h⟩
 |_=>contradiction
theorem WT {f:As->Option PV}(h:yA f a=Ab d):∃i,a=.str i/\f i=Ab d:=by
 cases a with
 |str i=>exact⟨i,rfl,h⟩
 |_=>contradiction
theorem Yv {a b:Type}{f:a->Option b}{g:a->b}:∀{k:List a},(∀x∈k,f x=Ab (g x))->k.mapM f=Ab (k.map g):=by
 intro k;induction k with
 |nil=>
  intro _;exact rfl
 |cons x k o=>
  intro h;rw[HY,h x Ad,o λ y s=>h y (Af _ s)];rfl
section
theorem jA.aa (h:O.lookup x=Ab (.aa d)):jA C V O (.Name x p) d:=.bn (.aa h)
theorem Dc.neg (h:Dc C V O e (.int i)):Dc C V O (.UnaryOp .USub e p) (.int (-i)):=λ c=>.mk λ Q E s S=>
 wpAny_UnaryOp ((h c).bl S λ v s S _ r=>by obtain⟨t,q⟩:=r.aj;exact q▸neg_int (S.gh (.int _ _)))
theorem EE.M2 {m n:Type}{l:List m}{g:m->PV}{g2:n->PV}(k:m->List n)(f:m->n->PV)(s:OG C V O i (l.map g))(z:Ei V d=Ag)(A:(FS t1).all (λ x=>((Br d O).lookup x).isNone)=Ag)
 (w:∀a∈l,∃h,Hl d t1 (g a) (Br d O)=Ab h/\OG C d h j ((k a).map g2)/\(FS q).all (λ x=>(h.lookup x).isNone)=Ag/\∀b∈k a,∃o,Hl d q (g2 b) h=Ab o/\Dc C d o t (f a b))
 (E:(l.flatMap λ a=>(k a).map (f a)).length<=B2):EE C V O (.ListComp t [⟨t1,i,[],0⟩,⟨q,j,[],0⟩] d p) (.list (l.flatMap λ a=>(k a).map (f a))):=by
 have e:(λ a=>((k a).filter λ _=>Ag).map (f a))=λ a=>(k a).map (f a):=funext λ a=>by rw[Qc]
 have:=EE.T2 (p:=p) k (λ _ _=>Ag) f s z A (λ a H=>by obtain⟨r,a,b,c,w⟩:=w a H;exact⟨r,a,b,c,λ y N=>by obtain⟨r,a,b⟩:=w y N;exact⟨r,a,.nil,λ _=>b⟩⟩) (by rw[e];exact E);exact(e)▸this
theorem OG.bf (h:CX V "range"=Ag)(k:Dc C V O e (.int (n:Nat)))(o:Cm e=Ag)(s:n<100):OG C V O (.Call (.Name "range" q) [e] [] p) ((Ap n).map λ(i:Nat)=>PV.int (i:Nat)):=by
 refine .range h (.cons k .nil o) ?_;refine Eq.trans (if_pos ⟨BW (n+0),by omega⟩) ?_;congr 1;apply EM;intro i _;congr 1;omega
theorem UL {Cl a:Ai}{d:List PV}{g e:CE}{b:List E9}{c:As}(p:E2 W C k mg mb)(r:CY k A)(F:FI W V z Z X s.heap O)(G:Gd W s){f:As}{args:List Expr}(t:CX V f=Ag)(q:U0 C V O args d)(u:mg f=Ab (.ref a))(v:W.h0.get? a=Ab o)(x:o.data=.func fd)(l:o.cls≠.type "frame")(m:o.cls≠.none)
 (i:∀w h j,BB W s.heap w->s.toks<=h->RpL W X w j d->Rz W A (call (.ref a) j) {s with heap:=w,toks:=h} b Cl c):Rz W A (eval (.Call (.Name f e) args [] g) z) s b Cl c:=λ Q E y=>by
 refine B4 (CH p F G t (.inl u) ?_);refine Dm q.1 ?_;exact Cj (NB args (q.2 ⟨W,A,z,Z,X,_,mg,mb,p,r⟩ s F G _ _ λ j w h H N n=>⟨⟨(G.ao.trans H).keep v l m,x⟩,(i w h j H N n).aq H N y⟩))
theorem bV (h:List PV)(n:Nat):Mf h Ah (Ab (n:Int)) Ah=h.take n:=by
 have e:Cd Ah (Ab n) Ah h.length=(0,((min n h.length:Nat):Int),1):=by
  simp only[Cd,Option.getD_none];have k:=IP.mpr (BE n);exact congrArg (λ x=>((0:Int),x,(1:Int))) (UH n h.length)
 rw[TO h _ _ _ (js:=(Ap (min n h.length)).map (0+·)) (by
  rw[e];have:=sliceRange_one 0 (min n h.length);exact this),Ro]
 simp
theorem N2 (h:List PV)(n:Nat)(k:h.length<=B2):DV (.list h) Ah (Ab (n:Int)) Ah=Ab (.list (h.take n)):=by
 unfold DV;simp only[bV];rw[O9 ⟨by simp,Dd▸Aa (FP ..) k⟩]
end
set_option genInjectivity false
set_option genSizeOfSpec false
variable {c:Ai} in
inductive Kt where
 |lg (hd:Option Ae) (k:Ex->DJ Fin)
 |ret (c:OJ) (hd:Option Ae) (k:Ex->DJ Fin) (κ:Kt)
noncomputable abbrev Pl:=Option (OJ×Kt)
variable {i:Nat}{t:Expr}{m:As->Option Ae} in
structure Ot where
 pl:Pl
 t:DJ Fin
 T:List Eo
 m:Nat
 i:Nat
 O:List Eo
 ab:List (Ai×Ai)
variable {n:Nat}{ps:List As}{prog:FD} in
structure Gv where
 tag:Nat
 prog:FD
 ps:Params
 n:Nat
 t0:Nat
 oa:List Ai
def DF:OJ->DJ Fin:=PySem.W.Fast.tw11892475500146522536 PySem.W.Fast.tw14364793385576792824
theorem w8 (c:OJ):denote table c=DF c:=by rw[table_eq_tree,PySem.W.Fast.te11892475500146522536,PySem.W.Fast.te14364793385576792824];rfl
def kW (h:Option Ae):Bool:=match h with
 |none=>Ag
 |some _=>Av
noncomputable abbrev Go:=List Nat->Pl->DJ Fin->List Eo->Nat->Nat->List Eo->Ot
def Ot.cy (h:Ot)(a b:Ai):Ot:=⟨h.pl,h.t,h.T,h.m,h.i,h.O,(a,b)::h.ab⟩
def stop:Go:=λ _ p t T m i O=>⟨p,t,T,m,i,O,[]⟩
variable {c:Ai}{q:CE} in
def qY (h:Go)(st:Ot)(r:Ex)(o:List Nat)(p:Pl)(T:List Eo)(m i:Nat)(s:List Eo):Ot:=match p with
 |none=>st
 |some q=>match q.2 with
  | .lg _ k=>h o Ah (k r) T m i s
  | .ret c _ k w=>h o (Ab (c,w)) (k r) T m i s
variable {a:Ai} in
def Oe (G:Gv)(h:Nat)(T k:List Eo):Option (Ai×Eo):=match Eu h 100 with
 |true=>match T[h]? with
  |some o=>Ab (G.n+h,o)
  |none=>Ah
 |false=>match G.oa[h-100]? with
  |some a=>match k[h-100]? with
   |some o=>Ab (a,o)
   |none=>Ah
  |none=>Ah
variable {q:CE} in
def xP (p:Pl)(h:Option Ae)(k:Ex->DJ Fin):Kt:=match p with
 |none=>.lg h k
 |some q=>.ret q.1 h k q.2
variable {q:CE} in
def Wv (k:Go)(st:Ot)(h:OJ)(o:List Nat)(p:Pl)(T:List Eo)(m i:Nat)(s:List Eo):Ot:=match p with
 |some q=>match h.quiet with
  |true=>k o (Ab (h,q.2)) (DF h) T m i s
  |false=>st
 |none=>st
variable {q:CE} in
def cV (G:Gv)(o:Go)(st:Ot)(a:Ai)(s:Eo->DJ Fin)(w:List Nat)(p:Pl)(T:List Eo)(m i:Nat)(k:List Eo):Ot:=match w with
 |x::h=>match Oe G x T k with
  |some q=>(o h p (s q.2) T m i k).cy a q.1
  |none=>st
 |[]=>st
def Wu (G:Gv)(k:Go)(st:Ot)(h:Eo)(o:Ai->DJ Fin)(s:List Nat)(p:Pl)(T:List Eo)(m i:Nat)(w:List Eo):Ot:=match h.isFreed with
 |true=>st
 |false=>k s p (o (G.n+m)) (T++[h]) (m+1) i w
def kI (h:Go)(st:Ot)(a b:Ai)(k:Eo)(o:Unit->DJ Fin)(x:Nat)(s:List Nat)(p:Pl)(T:List Eo)(m i:Nat)(w:List Eo):Ot:=match Eu x 100 with
 |true=>(h s p (o ()) (T.set x k) m i w).cy a b
 |false=>match QI x 100 with
  |true=>(h s p (o ()) T m i (w.set 0 k)).cy a b
  |false=>st
variable {q:CE} in
def qF (G:Gv)(o:Go)(st:Ot)(a:Ai)(f:Eo->Eo)(s:Unit->DJ Fin)(w:List Nat)(p:Pl)(T:List Eo)(m i:Nat)(k:List Eo):Ot:=match w with
 |x::h=>match Oe G x T k with
  |some q=>match(f q.2).isFreed with
   |true=>st
   |false=>kI o st a q.1 (f q.2) s x h p T m i k
  |none=>st
 |[]=>st
def hF (o:Go)(st:Ot)(h:OJ)(k:Option Ae)(s:Ex->DJ Fin)(w:List Nat)(p:Pl)(T:List Eo)(m i:Nat)(z:List Eo):Ot:=match kW k with
 |true=>o w (Ab (h,xP p k s)) (DF h) T m i z
 |false=>st
variable {a f:Ai} in
def fG (G:Gv)(s:Go):Go:=λ h p t T m i O=>match t with
 | .pure w=>match w with
   | .done f=>qY s (stop h p t T m i O) (.ok f) h p T m i O
   | .again z=>Wv s (stop h p t T m i O) z h p T m i O
 | .raise e=>qY s (stop h p t T m i O) (.error e) h p T m i O
 | .rule _ k=>s h p (k ()) T m i O
 | .at _ k=>s h p (k ()) T m i O
 | .point _ k=>s h p (k ()) T m i O
 | .ask k=>s h p (k ⟨G.prog,G.ps⟩) T m i O
 | .load a _ k=>cV G s (stop h p t T m i O) a k h p T m i O
 | .alloc o k=>Wu G s (stop h p t T m i O) o k h p T m i O
 | .update a _ f k=>qF G s (stop h p t T m i O) a f k h p T m i O
 | .fresh k=>s h p (k (G.t0+i)) T m (i+1) O
 | .call z A _ _ k=>hF s (stop h p t T m i O) z A k h p T m i O
 |_=>stop h p t T m i O
def vS (G:Gv):Nat->Go:=Nat.rec stop (λ _ h=>fG G h)
section
theorem Tf {i m:Nat}{P:Ot->Prop}{b:Go}{st:Ot}{c:List Nat}{p:Pl}{T d:List Eo}{a:OJ}(x:P (Wv b st a c p T m i d)):P st\/∃q,p=Ab q/\a.quiet=Ag/\P (b c (Ab (a,q.2)) (DF a) T m i d):=by
 unfold Wv at x;cases p with
 |none=>exact .inl x
 |some q=>
  cases e:a.quiet with
  |true=>rw[e] at x;exact .inr ⟨q,rfl,rfl,x⟩
  |false=>rw[e] at x;exact .inl x
theorem T9 {a:Ai}{i m:Nat}{P:Ot->Prop}{G:Gv}{d:Go}{st:Ot}{f:List Nat}{p:Pl}{T b:List Eo}{c:Eo->DJ Fin}(x:P (cV G d st a c f p T m i b)):P st\/∃y h q,Oe G y T b=Ab q/\P ((d h p (c q.2) T m i b).cy a q.1):=by
 cases f with
 |nil=>exact .inl x
 |cons y h=>
  unfold cV at x;dsimp only at x;cases e:Oe G y T b with
  |none=>replace x:=(e)▸x;exact .inl x
  |some q=>rw[e] at x;exact .inr ⟨y,h,q,e,x⟩
theorem Te {i m:Nat}{P:Ot->Prop}{G:Gv}{b:Go}{st:Ot}{c:List Nat}{p:Pl}{T d:List Eo}{a:Ai->DJ Fin}(x:P (Wu G b st o a c p T m i d)):P st\/(o.isFreed=Av/\P (b c p (a (G.n+m)) (T++[o]) (m+1) i d)):=by
 unfold Wu at x;cases e:o.isFreed with
 |true=>rw[e] at x;exact .inl x
 |false=>rw[e] at x;exact .inr ⟨rfl,x⟩
theorem Vw {a:Ai}{i m:Nat}{P:Ot->Prop}{d:Go}{st:Ot}{f:List Nat}{p:Pl}{T g:List Eo}{b:Ai}{c:Unit->DJ Fin}{y:Nat}(x:P (kI d st a b o c y f p T m i g)):P st\/(Eu y 100=Ag/\P ((d f p (c ()) (T.set y o) m i g).cy a b))\/(y=100/\P ((d f p (c ()) T m i (g.set 0 o)).cy a b)):=by
 unfold kI at x;cases e:Eu y 100 with
 |true=>rw[e] at x;exact .inr (.inl ⟨rfl,x⟩)
 |false=>
  replace x:=(e)▸x
  dsimp only at x;cases h:QI y 100 with
  |true=>rw[h] at x;exact .inr (.inr ⟨Nat.eq_of_beq_eq_true h,x⟩)
  |false=>rw[h] at x;exact .inl x
theorem Va {a:Ai}{i m:Nat}{P:Ot->Prop}{G:Gv}{d:Go}{st:Ot}{g:List Nat}{p:Pl}{T b:List Eo}{f:Eo->Eo}{c:Unit->DJ Fin}(x:P (qF G d st a f c g p T m i b)):P st\/∃y h q,Oe G y T b=Ab q/\(f q.2).isFreed=Av/\P (kI d st a q.1 (f q.2) c y h p T m i b):=by
 cases g with
 |nil=>exact .inl x
 |cons y h=>
  unfold qF at x;dsimp only at x;cases e:Oe G y T b with
  |none=>replace x:=(e)▸x;exact .inl x
  |some q=>
   rw[e] at x;dsimp only at x;cases k:(f q.2).isFreed with
   |true=>rw[k] at x;exact .inl x
   |false=>rw[k] at x;exact .inr ⟨y,h,q,e,k,x⟩
theorem UM {i m:Nat}{P:Ot->Prop}{d:Go}{st:Ot}{f:List Nat}{p:Pl}{T g:List Eo}{b:OJ}{a:Option Ae}{c:Ex->DJ Fin}(x:P (hF d st b a c f p T m i g)):P st\/(kW a=Ag/\P (d f (Ab (b,xP p a c)) (DF b) T m i g)):=by
 unfold hF at x;cases e:kW a with
 |true=>rw[e] at x;exact .inr ⟨rfl,x⟩
 |false=>rw[e] at x;exact .inl x
end
variable {gi:Ae} in
structure HD (n:Nat)(oa:List Ai)(h₀ h:AT)(T:List Eo)(m:Nat)(O:List Eo):Prop where
 hz:h₀.objs.size=n
 size:h.objs.size=n+m
 len:T.length=m
 new:∀(k:Nat)(o:Eo),T[k]? =Ab o->h.get? (n+k)=Ab o
 gi:∀(k:Nat)(a:Ai)(o:Eo),oa[k]? =Ab a->O[k]? =Ab o->h.get? a=Ab o
 keep:∀b o,h₀.get? b=Ab o->oa[0]?≠Ab b->h.get? b=Ab o
 lt:∀a∈oa,a<n
 ne:∀(k:Nat)(a:Ai),oa[k]? =Ab a->oa[0]? =Ab a->k=0
section
theorem HD.alloc (D:HD n d c h T m f)(z:o.isFreed=Av):HD n d c (h.push o) (T++[o]) (m+1) f where
 hz:=D.hz
 size:=by rw[CV,D.size];rfl
 len:=by rw[AQ,D.len];rfl
 new:=λ k s e=>by
  replace e:=Eq.trans (Eq.symm (List.getElem?_append)) e
  split at e
  ·exact AI _ (D.new k s e)
  ·rename_i q;have hk:k=m:=by
    rw[D.len] at q e;cases w:k-m with
    |zero=>exact EK (Nat.sub_eq_zero_iff_le.mp w) (B7.mp q)
    |succ j=>(first |exact Do w e |obtain rfl:=A4 w e |cases Eq.trans (Eq.symm w) e |(rw[w] at e;contradiction))
   subst hk;rw[D.len,Nat.sub_self] at e;cases e;rw[<-D.size];exact AD _ z
 gi:=λ k a s A C=>AI _ (D.gi k a s A C)
 keep:=λ b s e q=>AI _ (D.keep b s e q)
 lt:=D.lt
 ne:=D.ne
theorem WC {f:Eo->Eo}(e:h.get? a=Ab o)(k:(f o).isFreed=Av):(h.update a f).get? a=Ab (f o):=by
 first |exact B1 f e k |exact B1 _ e k
theorem NX {f:Eo->Eo}(k:b≠a)(e:h.get? b=Ab o):(h.update a f).get? b=Ab o:=((BP h a f).2 b k).trans e
theorem HD.jo {T:List Eo}(D:HD n d c h T m g){f:Eo->Eo}(e:T[j]? =Ab o)(C:(f o).isFreed=Av):HD n d c (h.update (n+j) f) (T.set j (f o)) m g where
 hz:=D.hz
 size:=(BP h _ f).1.trans D.size
 len:=by simp only[List.length_set,D.len]
 new:=λ k w s=>by
  replace s:=Eq.trans (Eq.symm (List.getElem?_set)) s
  split at s
  ·rename_i q;subst q;split at s
   ·cases s;exact WC (D.new _ o e) C
   ·contradiction
  ·rename_i q;exact NX (λ z=>q (Nat.add_left_cancel z).symm) (D.new k w s)
 gi:=λ k a w A E=>NX (Cu (Ao (D.lt a (Cq A)) (AS ..))) (D.gi k a w A E)
 keep:=λ b w A q=>NX (Cu (Ao (D.hz▸AU A) (AS ..))) (D.keep b w A q)
 lt:=D.lt
 ne:=D.ne
theorem HD.jp {g:List Eo}(D:HD n d c h T m g){f:Eo->Eo}(w:d[0]? =Ab a)(e:g[0]? =Ab o)(E:(f o).isFreed=Av):HD n d c (h.update a f) T m (g.set 0 (f o)) where
 hz:=D.hz
 size:=(BP h _ f).1.trans D.size
 len:=D.len
 new:=λ k A H=>NX (Dz (Ao (D.lt a (Cq w)) (AS ..))) (D.new k A H)
 gi:=λ k b A C s=>by
  replace s:=Eq.trans (Eq.symm (List.getElem?_set)) s
  split at s
  ·rename_i q;subst q;split at s
   ·cases s
    cases w.symm.trans C
    exact WC (D.gi 0 a o w e) E
   ·contradiction
  ·rename_i q;exact NX (λ z=>q (D.ne k b C (by rw[z];exact w)).symm) (D.gi k b A C s)
 keep:=λ b A C q=>NX (λ z=>q (by subst z;exact w)) (D.keep b A C q)
 lt:=D.lt
 ne:=D.ne
theorem HD.at (D:HD n c b h T m d){G:Gv}(k:G.n=n)(s:G.oa=c){q:Ai×Eo}(e:Oe G x T d=Ab q):h.get? q.1=Ab q.2:=by
 unfold Oe at e;split at e
 ·split at e
  ·rename_i o w;cases e;exact k▸D.new _ o w
  ·cases e
 ·split at e
  ·rename_i a z;split at e
   ·rename_i o A;cases e;exact D.gi _ a o (s▸z) A
   ·contradiction
  ·cases e
theorem fL {G:Gv}{q:Ai×Eo}(k:Eu x 100=Ag)(e:Oe G x T a=Ab q):q.1=G.n+x/\T[x]? =Ab q.2:=by
 unfold Oe at e
 replace e:=(k)▸e
 dsimp only at e;cases h:T[x]? with
 |none=>(first |exact Do h e |obtain rfl:=A4 h e |cases Eq.trans (Eq.symm h) e |(replace e:=(h)▸e;contradiction))
 |some o=>(first |exact Do h e |obtain rfl:=A4 h e |cases Eq.trans (Eq.symm h) e |(replace e:=(h)▸e;cases e));exact⟨rfl,rfl⟩
theorem fK {G:Gv}{q:Ai×Eo}(e:Oe G 100 T b=Ab q):G.oa[0]? =Ab q.1/\b[0]? =Ab q.2:=by
 replace e:(match G.oa[0]? with |some a=>(match b[0]? with |some o=>Ab (a,o) |none=>Ah) |none=>Ah)=Ab q:=e
 cases k:G.oa[0]? with
 |none=>(first |exact Do k e |obtain rfl:=A4 k e |cases Eq.trans (Eq.symm k) e |(replace e:=(k)▸e;contradiction))
 |some a=>
  replace e:=(k)▸e
  dsimp only at e;cases h:b[0]? with
  |none=>(first |exact Do h e |obtain rfl:=A4 h e |cases Eq.trans (Eq.symm h) e |(replace e:=(h)▸e;contradiction))
  |some o=>(first |exact Do h e |obtain rfl:=A4 h e |cases Eq.trans (Eq.symm h) e |(replace e:=(h)▸e;cases e));exact⟨rfl,rfl⟩
theorem HD.ic {T:List Eo}{G:Gv}(D:HD G.n G.oa a h T m b){q:Ai×Eo}{f:Eo->Eo}(k:Eu x 100=Ag)(e:Oe G x T b=Ab q)(o:(f q.2).isFreed=Av):HD G.n G.oa a (h.update q.1 f) (T.set x (f q.2)) m b:=by
 obtain⟨s,w⟩:=fL k e;rw[s];exact D.jo w o
theorem HD.ie {b:List Eo}{G:Gv}(D:HD G.n G.oa a h T m b){q:Ai×Eo}{f:Eo->Eo}(k:x=100)(e:Oe G x T b=Ab q)(o:(f q.2).isFreed=Av):HD G.n G.oa a (h.update q.1 f) T m (b.set 0 (f q.2)):=by
 subst k;obtain⟨s,w⟩:=fK e;exact D.jp s w o
end
variable {f:Ai} in
def sC (r:Ex):DJ Fin:=match r with | .ok f=>.pure (.done f) | .error e=>.raise e
section
variable (prog:FD)(w:World)(A:Dj)(Q:Fin->Aq->Prop)(E:Jc)
variable {c:Ai} in
def tN:Kt->Dj
 | .lg h _=>A.mark h
 | .ret c h _ k=>((tN k).under c).mark h
variable {f:Ai} in
def vY (s:Dj)(R:Ex->Aq->Prop):Fin->Aq->Prop:=λ h k=>match h with | .done f=>R (.ok f) k | .again o=>o.quiet=Ag/\Es (model prog w) s o R k
variable {c:Ai} in
def Zk:Kt->Ex->Aq->Prop
 | .lg _ k=>λ r s=>Aw (model prog w) A (k r) Q E s
 | .ret c _ k h=>λ r s=>wpOwn (model prog w) (tN A h) c (k r) (vY prog w (tN A h) (Zk h)) (λ e o=>Zk h (.error e) o) s
variable {q:CE} in
def Mn (p:Pl)(t:DJ Fin)(h:Aq):Prop:=match p with
 |none=>Aw (model prog w) A t Q E h
 |some q=>wpOwn (model prog w) (tN A q.2) q.1 t (vY prog w (tN A q.2) (Zk prog w A Q E q.2)) (λ e k=>Zk prog w A Q E q.2 (.error e) k) h
variable {q:CE} in
def b! (p:Pl):Dj:=match p with
 |none=>A
 |some q=>(tN A q.2).under q.1
end
section
variable {Q:Fin->Aq->Prop}
theorem Mn.dk {c:Type}{m:DJ c}{d:c->DJ Fin}(h:∀k,Aw (model b w) (b! A p) m (λ a o=>Mn b w A Q E p (d a) o) k s):Mn b w A Q E p (m >>=d) s:=by
 cases p with
 |none=>exact Ac (h _)
 |some q=>exact wpOwn_bind (wpOwn_of_wpAny (h _))
theorem Mn.stack {b:List (OJ×CE)->DJ Fin}(k:∀st,PySem.W.X.Lies A st->Mn a w A Q E Ah (b st) s):Mn a w A Q E Ah (.stack b) s:=λ o p h=>k _ (X.lies_of h) o p h
theorem Mn.code (h:Mn a w A Q E (Ab (b,c)) (DF b) s):Es (model a w) (tN A c) b (Zk a w A Q E c) s:=by
 rw[<-w8] at h;exact codeAny_of_own h
theorem Mn.call {k:Ex->DJ Fin}(o:kW a=Ag)(C:Mn b w A Q E (Ab (c,xP p a k)) (DF c) s):Mn b w A Q E p (.call c a g l k) s:=by
 have h:a≠Ab byPass:=by rintro rfl;exact BI o
 have z:=Mn.code C
 (try clear C;try clear o;try clear k;try clear l;try clear g;try clear a;try clear c)
 cases p with
 |none=>exact X.x_call z h
 |some q=>exact X.y_call _ _ _ _ _ _ _ _ _ _ _ _ _ h z
theorem Mn.ret {q:OJ×Kt}(h:Zk a w A Q E q.2 r s):Mn a w A Q E (Ab q) (sC r) s:=by
 cases r with
 |ok f=>exact λ _ _ _ _=>h
 |error e=>exact λ _ _ _ _=>h
theorem Mn.ig {i:Nat}{a:FD}{p:Pl}{G:Gv}{b:Go}{st:Ot}{r:Ex}{d:List Nat}{m:Nat}{T e:List Eo}{P:Ot->Prop}(h:P (qY b st r d p T m i e))(H:p=Ah->P st->Mn a w A Q E p (sC r) s)
 (z:∀C(k:Ex->DJ Fin),P (b d C (k r) T m i e)->Mn a w A Q E C (k r) s):Mn a w A Q E p (sC r) s:=by
 cases p with
 |none=>exact H rfl h
 |some q=>
  refine Mn.ret ?_;obtain⟨c,o⟩:=q;cases o with
  |lg N k=>exact z Ah k h
  |ret c N k o=>exact z (Ab (c,o)) k h
end
structure OS (prog:FD)(w:World)(A:Dj)(Q:Fin->Aq->Prop)(E:Jc)(G:Gv)(h₀:AT)(g:Array CC)(d:M8)(os:GZ)(o:Ot):Prop where
 ab:∀x∈o.ab,x.1=x.2
 cr:∀h,HD G.n G.oa h₀ h o.T o.m o.O->Mn prog w A Q E o.pl o.t ⟨h,g,d,G.t0+o.i,os⟩
section
variable {Q:Fin->Aq->Prop}
theorem OS.cy {a:Ai}{g:Array CC}{e:AT}{os:GZ}{c:FD}{G:Gv}{d:M8}{f:Ot}{b:Ai}(x:OS c w A Q E G e g d os (f.cy a b)):a=b/\OS c w A Q E G e g d os f:=⟨x.ab _ (.head _),λ y h=>x.ab y (.tail _ h),x.cr⟩
theorem P3 {g:Array CC}{c:AT}{os:GZ}{b:FD}{G:Gv}{d:M8}(u:G.prog=b/\G.ps=w.params):∀(z:Nat)(H:List Nat)(p:Pl)(t:DJ Fin)(T:List Eo)(m i:Nat)(O:List Eo)(h:AT),HD G.n G.oa c h T m O->OS b w A Q E G c g d os (vS G z H p t T m i O)->Mn b w A Q E p t ⟨h,g,d,G.t0+i,os⟩:=by
 intro z;induction z with
 |zero=>exact λ H p t T m i O h D x=>x.cr h D
 |succ n s=>
  intro H p t T m i O h D x
  replace x:OS b w A Q E G c g d os (fG G (vS G n) H p t T m i O):=x
  cases t with
  |pure W=>
   cases W with
   |done f=>exact Mn.ig (G:=G) (r:=.ok f) x (λ _ y=>y.cr h D) λ v k y=>s _ _ _ _ _ _ _ _ D y
   |again B=>
    rcases Tf (P:=OS b w A Q E G c g d os) x with x |⟨q,rfl,I,x⟩
    ·exact x.cr h D
    ·exact λ _ _ hc J=>⟨I,Mn.code (s _ _ _ _ _ _ _ _ D x)⟩
  |raise e=>exact Mn.ig (G:=G) (r:=.error e) x (λ _ y=>y.cr h D) λ v k y=>s _ _ _ _ _ _ _ _ D y
  |rule Z k=>exact Mn.dk (m:=rule Z) λ _=>NP (s _ _ _ _ _ _ _ _ D x)
  |«at» q k=>exact Mn.dk (m:=X9 q) λ _=>A0 (s _ _ _ _ _ _ _ _ D x)
  |point l k=>exact Mn.dk (m:=Sem.point l .pure) λ _=>λ _ _ _=>s _ _ _ _ _ _ _ _ D x
  |ask k=>
   obtain⟨rfl,e⟩:=u;exact Mn.dk (m:=ask) λ _=>wpAny_askSetting (e▸s _ _ _ _ _ _ _ _ D x)
  |load a q k=>
   rcases T9 (P:=OS b w A Q E G c g d os) x with x |⟨y,j,N,e,x⟩
   ·exact x.cr h D
   ·obtain⟨rfl,C⟩:=x.cy;exact Mn.dk (m:=loadPart N.1 q) λ _=>wpAny_loadPart (D.at rfl rfl e) (s _ _ _ _ _ _ _ _ D C)
  |alloc o k=>
   rcases Te (P:=OS b w A Q E G c g d os) x with x |⟨V,x⟩
   ·exact x.cr h D
   ·exact Mn.dk (m:=alloc o) λ _=>OT (by rw[D.size];exact s _ _ _ _ _ _ _ _ (D.alloc V) x)
  |update a q f k=>
   rcases Va (P:=OS b w A Q E G c g d os) x with x |⟨y,j,N,e,V,x⟩
   ·exact x.cr h D
   ·rcases Vw (P:=OS b w A Q E G c g d os) x with x |⟨r,x⟩ |⟨r,x⟩
    ·exact x.cr h D
    ·obtain⟨rfl,C⟩:=x.cy;exact Mn.dk (m:=updatePart N.1 q f) λ _=>MZ (D.at rfl rfl e) (s _ _ _ _ _ _ _ _ (D.ic r e V) C)
    ·obtain⟨rfl,C⟩:=x.cy;exact Mn.dk (m:=updatePart N.1 q f) λ _=>MZ (D.at rfl rfl e) (s _ _ _ _ _ _ _ _ (D.ie r e V) C)
  |fresh k=>exact Mn.dk (m:=fresh) λ _=>wpAny_fresh (s _ _ _ _ _ _ _ _ D x)
  |call B M R l k=>
   rcases UM (P:=OS b w A Q E G c g d os) x with x |⟨L,x⟩
   ·exact x.cr h D
   ·exact Mn.call L (s _ _ _ _ _ _ _ _ D x)
  |_=>exact x.cr h D
end
set_option genInjectivity false
set_option genSizeOfSpec false
inductive Wr {α:Type}(X:α):Type where |mk
def gW {A:Prop}{a:Type}{X:a}(_:A->Wr X):Wr X:=⟨⟩
def jE {a:Type}{X:a}(_:Wr X):a:=X
def rb (a b:Ae):Bool:= @BEq.beq Ae (@instBEqOfDecidableEq Ae AJ) a b
theorem kF (a b:Ae):@BEq.beq Ae (@instBEqOfDecidableEq Ae AJ) a b=rb a b:=rfl
theorem bL (a b:Ae):@bne Ae (@instBEqOfDecidableEq Ae AJ) a b= !(rb a b):=rfl
def itb {a:Type}(b:Bool)(x y:a):a:= @ite a (b=Ag) (instDecidableEqBool b Ag) x y
theorem eL {c:Type}(a b:Ae)(x y:c):@ite c (@BEq.beq Ae (@instBEqOfDecidableEq Ae AJ) a b=Ag) (instDecidableEqBool (@BEq.beq Ae (@instBEqOfDecidableEq Ae AJ) a b) Ag) x y=itb (@BEq.beq Ae (@instBEqOfDecidableEq Ae AJ) a b) x y:=rfl
theorem YO {c:Type}(a b:Ae)(x y:c):@ite c (@bne Ae (@instBEqOfDecidableEq Ae AJ) a b=Ag) (instDecidableEqBool (@bne Ae (@instBEqOfDecidableEq Ae AJ) a b) Ag) x y=itb (@bne Ae (@instBEqOfDecidableEq Ae AJ) a b) x y:=rfl
theorem YN {d:Type}(a b c:Ae)(r:Bool)(x y:d):@ite d ((@BEq.beq Ae (@instBEqOfDecidableEq Ae AJ) a b||r)=Ag) (instDecidableEqBool (@BEq.beq Ae (@instBEqOfDecidableEq Ae AJ) a b||r) Ag) x y=itb (@BEq.beq Ae (@instBEqOfDecidableEq Ae AJ) a b||r) x y:=rfl
theorem eK {a:Type}(l:List Ae)(v:Ae)(r:Bool)(x y:a):@ite a ((r|| @PySem.W.Fast.tw3471404346716756564 Ae (@instBEqOfDecidableEq Ae AJ) l v)=Ag) (instDecidableEqBool (r|| @PySem.W.Fast.tw3471404346716756564 Ae (@instBEqOfDecidableEq Ae AJ) l v) Ag) x y=itb (r|| @PySem.W.Fast.tw3471404346716756564 Ae (@instBEqOfDecidableEq Ae AJ) l v) x y:=rfl
variable {y:As} in
def jm (j:Nat->Nat->Bool)(a b:Ae):Bool:=match a with
 | .ref x=>(match b with
   | .ref y=>j x y
   |_=>Av)
 |_=>rb a b
theorem bK (a b:Ae):rb a b=decide (a=b):=by
 show@decide (a=b) (AJ a b)=_;exact decide_eq_decide.mpr Iff.rfl
theorem sF:jm QI=rb:=by
 refine funext λ a=>funext λ b=>?_;cases a with
 |ref x=>
  cases b with
  |ref y=>
   show QI x y=rb (.ref x) (.ref y);rw[bK,BT.beq_eq];exact decide_eq_decide.mpr ⟨λ e=>congrArg _ e,λ e=>Value.ref.inj e⟩
  |_=>exact((bK _ _).trans (decide_eq_false λ e=>by cases e)).symm
 |_=>rfl
def UF (l:List Ae)(v:Ae):Bool:= @PySem.W.Fast.tw3471404346716756564 Ae (@instBEqOfDecidableEq Ae AJ) l v
theorem gY (l:List Ae)(v:Ae):@PySem.W.Fast.tw3471404346716756564 Ae (@instBEqOfDecidableEq Ae AJ) l v=UF l v:=rfl
def nE (h:Ae)(k:List Ae):List Ae:=PySem.W.R.filterR (λ x=> @bne Ae (@instBEqOfDecidableEq Ae AJ) x h) k
def WY (c:Ae):DJ (Option Ae):=PySem.W.Fast.tw5634887268946762882 c
theorem lI (c:Ae):PySem.W.Fast.tw5634887268946762882 c=WY c:=rfl
def VN (l:List Ae):DJ (List Ae):=PySem.W.Fast.tw5811856771081047543 l PySem.W.Fast.tw9541985092090588186
theorem lV (l:List Ae):PySem.W.Fast.tw5811856771081047543 l PySem.W.Fast.tw9541985092090588186=VN l:=rfl
def qA (g:Ae->DJ Bool)(h:Ae)(k:List Ae):DJ Bool:= @List.anyM DJ Ez Ae g (nE h k)
theorem XG (g:Ae->DJ Bool)(h:Ae)(k:List Ae):@List.anyM DJ Ez Ae g (PySem.W.R.filterR (λ x=> @bne Ae (@instBEqOfDecidableEq Ae AJ) x h) k)=qA g h k:=rfl
def W? (J:Ae->List Ae->DJ Bool){g:Ae->DJ Bool}(_:qA g=J->Wr g):Wr g:=⟨⟩
def gE:Ae->DJ Bool:=by
 apply jE
 focus
  have e:Wr GJ:=⟨⟩
  delta PySem.W.Fast.tw4202317264376624991 at e
  dsimp (config:={zeta:=Av,proj:=Av,iota:=Av,beta:=Av,eta:=Av}) only[XG] at e;apply W? λ _ _=>.pure Av;intro h;rw[h] at e;exact⟨⟩
def xR (a:Ae->DJ (Option Ae))(b:List Ae->DJ (List Ae))(j:Ae->List Ae->DJ Bool):Jy:=by
 apply jE;apply gW (A:=WY=a)
 focus
  intro h;apply gW (A:=VN=b);intro k;apply gW (A:=∀g,qA g=j);intro o;have e:Wr GJ:=⟨⟩
  delta PySem.W.Fast.tw4202317264376624991 at e
  dsimp (config:={zeta:=Av,proj:=Av,iota:=Av,beta:=Av,eta:=Av}) only[XG,lI,lV] at e;rw[h,k,o] at e;refine(?f:∀(Y:Jy),Wr Y->Wr Y) _ e;exact λ _ _=>⟨⟩
theorem xQ:GJ=xR WY VN (qA gE):=by kernel_rfl
def y0 (j:Ae->Ae->Bool):Jy:=by
 apply jE;apply gW (A:=rb=j)
 focus
  intro h;have e:Wr @PySem.W.Fast.tw1054471737866971170:=⟨⟩
  delta PySem.W.Fast.tw1054471737866971170 at e
  dsimp (config:={zeta:=Av,proj:=Av,iota:=Av,beta:=Av,eta:=Av}) only[eL,YO,YN] at e;dsimp (config:={zeta:=Av,proj:=Av,iota:=Av,beta:=Av,eta:=Av}) only[kF,bL] at e;rw[h] at e;refine(?f:∀(Y:Jy),Wr Y->Wr Y) _ e;exact λ _ _=>⟨⟩
theorem yZ:@PySem.W.Fast.tw1054471737866971170=y0 rb:=by kernel_rfl
def qM (j:List Ae->Ae->Bool):Ae->Ae->DJ Bool:=by
 apply jE;apply gW (A:=UF=j)
 focus
  intro h;have e:Wr @PySem.W.Fast.tw16098473122060591676:=⟨⟩
  delta PySem.W.Fast.tw16098473122060591676 at e
  dsimp (config:={zeta:=Av,proj:=Av,iota:=Av,beta:=Av,eta:=Av}) only[eK] at e;dsimp (config:={zeta:=Av,proj:=Av,iota:=Av,beta:=Av,eta:=Av}) only[gY] at e;rw[h] at e;refine(?f:∀(Y:Ae->Ae->DJ Bool),Wr Y->Wr Y) _ e;exact λ _ _=>⟨⟩
theorem xC:@PySem.W.Fast.tw16098473122060591676=qM UF:=by kernel_rfl
def ZT:Ae->Ae->DJ Bool:=LS
theorem XR (a b:Ae):LS a b=ZT a b:=rfl
def x7 (j:Ae->Ae->DJ Bool):Ae->Ae->DJ Ae:=by
 apply jE;apply gW (A:=ZT=j)
 focus
  intro h;have e:Wr @PySem.W.Fast.tw1166467894219422925:=⟨⟩
  delta PySem.W.Fast.tw1166467894219422925 at e
  dsimp (config:={zeta:=Av,proj:=Av,iota:=Av,beta:=Av,eta:=Av}) only[XR] at e;rw(occs:=.pos [3]) [h] at e;refine(?f:∀(Y:Ae->Ae->DJ Ae),Wr Y->Wr Y) _ e;exact λ _ _=>⟨⟩
theorem x6:@PySem.W.Fast.tw1166467894219422925=x7 ZT:=by kernel_rfl
def x8:Ae->Ae->DJ Ae:=L6
theorem jY (a b:Ae):L6 a b=x8 a b:=rfl
def x5 (j:Ae->Ae->DJ Ae):Jy:=by
 apply jE;apply gW (A:=x8=j)
 focus
  intro h;have e:Wr @PySem.W.Fast.tw13830915341099135465:=⟨⟩
  delta PySem.W.Fast.tw13830915341099135465 at e
  dsimp (config:={zeta:=Av,proj:=Av,iota:=Av,beta:=Av,eta:=Av}) only[jY] at e;rw[h] at e;refine(?f:∀(Y:Jy),Wr Y->Wr Y) _ e;exact λ _ _=>⟨⟩
theorem x4:@PySem.W.Fast.tw13830915341099135465=x5 x8:=by kernel_rfl
def SL (a b:Ae):Bool:=DH a b
theorem cS (a b:Ae):DH a b=SL a b:=rfl
theorem eJ {c:Type}(a b:Ae)(r h:Bool)(x y:c):@ite c ((DH a b||r||h)=Ag) (instDecidableEqBool (DH a b||r||h) Ag) x y=itb (DH a b||r||h) x y:=rfl
def y7 (j:Ae->Ae->Bool):Ae->Ae->Ae->DJ Fin:=by
 apply jE;apply gW (A:=SL=j)
 focus
  intro h;have e:Wr @PySem.W.Fast.tw8938917530802602619:=⟨⟩
  delta PySem.W.Fast.tw8938917530802602619 at e
  dsimp (config:={zeta:=Av,proj:=Av,iota:=Av,beta:=Av,eta:=Av}) only[eJ] at e;dsimp (config:={zeta:=Av,proj:=Av,iota:=Av,beta:=Av,eta:=Av}) only[cS] at e;rw[h] at e;refine(?f:∀(Y:Ae->Ae->Ae->DJ Fin),Wr Y->Wr Y) _ e;exact λ _ _=>⟨⟩
theorem y6:@PySem.W.Fast.tw8938917530802602619=y7 SL:=by kernel_rfl
def y8:Ae->Ae->Ae->DJ Fin:=L5
theorem nO (a b c:Ae):L5 a b c=y8 a b c:=rfl
def yV (j:Ae->Ae->Ae->DJ Fin):Jy:=by
 apply jE;apply gW (A:=y8=j)
 focus
  intro h;have e:Wr @PySem.W.Fast.tw5741333931599015106:=⟨⟩
  delta PySem.W.Fast.tw5741333931599015106 at e
  dsimp (config:={zeta:=Av,proj:=Av,iota:=Av,beta:=Av,eta:=Av}) only[nO] at e;rw[h] at e;refine(?f:∀(Y:Jy),Wr Y->Wr Y) _ e;exact λ _ _=>⟨⟩
theorem yU:@PySem.W.Fast.tw5741333931599015106=yV y8:=by kernel_rfl
def ez:DJ Unit:=Ey 0
theorem nL:Ey 0=ez:=rfl
def zV (j:DJ Unit):As->As->List Ae->List (As×Ae)->List Bs->Bg->List As->Nat->E9->CE->Option Ae->DJ Ae:=by
 apply jE;apply gW (A:=ez=j)
 focus
  intro h;have e:Wr @PySem.W.Fast.tw1785580099245652887:=⟨⟩
  delta PySem.W.Fast.tw1785580099245652887 at e
  dsimp (config:={zeta:=Av,proj:=Av,iota:=Av,beta:=Av,eta:=Av}) only[nL] at e;rw[h] at e;refine(?f:∀(Y:As->As->List Ae->List (As×Ae)->List Bs->Bg->List As->Nat->E9->CE->Option Ae->DJ Ae),Wr Y->Wr Y) _ e;exact λ _ _=>⟨⟩
theorem tL:@PySem.W.Fast.tw1785580099245652887=zV ez:=by kernel_rfl
def G! (K:List (OJ×CE)->Nat->DJ Unit):DJ Unit:=C4 stack λ st=>C4 PySem.W.Fast.tw2211186353215096513 λ l=>K st l
def W! {K:List (OJ×CE)->Nat->DJ Unit}(_:Ey 0=G! K):Wr K:=⟨⟩
def xF:List (OJ×CE)->Nat->DJ Unit:=by
 apply jE;apply W!;unfold G!;rfl
def Tn (st:List (OJ×CE)):DJ Unit:=C4 PySem.W.Fast.tw2211186353215096513 λ l=>xF st l
theorem pW:ez=C4 stack Tn:=by kernel_rfl
variable {n:Nat} in
def u5:Nat->Expr->List (CE×Nat)
 |0,_=>[]
 |n+1,e=>(JE e).es.flatMap (u5 n)++(JE e).ks.flatMap (λ q=>u5 n q.value++[(q.pos,0)])++(JE e).gs.flatMap (λ g=>(g.target::g.iter::g.ifs).flatMap (u5 n))++[((JE e).p,(JE e).k)]
variable {n:Nat}{q:CE}{t:Expr}{p:Evs} in
def x9:Nat->Bs->List (CE×Nat)
 |0,_=>[]
 |n+1,s=>(Ir s).es.flatMap (u5 n)++(Ir s).bs.flatMap (λ b=>b.flatMap (x9 n))++(Ir s).hs.flatMap (λ h=>match h with | .ExceptHandler t _ q p=>t.toList.flatMap (u5 n)++q.flatMap (x9 n)++[(p,0)])++[((Ir s).p,0)]
def vF (i:Nat):CE:=⟨i,999999,0,0⟩
def xD (b:List Bs):List (CE×Nat):=b.flatMap (x9 20)
def Ni (h:(Nat->CE)->List Bs)(k:List Bs)(i:Nat):CE:=
 (((xD (h vF)).zip (xD k)).find? λ q=>q.1.1.line==i&&q.1.1.col==999999).elim ⟨0,0,0,0⟩ λ q=>q.2.1
def u7 (h:(Nat->Nat)->List Bs)(k:List Bs)(i:Nat):Nat:=
 (((xD (h λ i=>i+1000000)).zip (xD k)).find? λ q=>q.1.2==i+1000000).elim 0 λ q=>q.2.2
def Tg (_:Params->Frag)(_:List Ai):Prop:=True
section
local macro_rules (kind := PySem.W.tacticO_head_) | s => `(tactic| cases ‹¬Tg $(⟨s[1][1][1][0]⟩) $(⟨s[1][1][1][1]⟩)› trivial)
def hk:Σ' (K:Params->Frag) (h:List Ai),¬Tg K h->(OpenLaw.row PySem.Challenge.rw_oy0180_02).Holds:=⟨_,_,λ f=>by w_on;k_head⟩
end
def Gc {b:Type} [BEq b] (h:b->b->Bool)(left:List b):List b:=(left.filter λ n=>!left.any λ a=>h a n).take 2
def Gb {a:Type} [BEq a] (h:a->a->Bool)(left:List a):List a:=left.filter λ n=>!(Gc h left).contains n
variable {r:List Bs}{t:Expr} in
def DW {a:Type} [BEq a] (h:a->a->Bool):Nat->List a->Nat×List a
 |0,left=>(0,left)
 |t+1,left=>let r:=DW h t (Gb h left);(if(Gc h left).isEmpty then r.1 else r.1+1,r.2)
variable {a:Ai} in
def Kh:List Nat->List Nat->Bool
 |[],_=>Av
 |_::_,[]=>Ag
 |a::h,b::k=>if a==b then Kh h k else Eu b a
def rm (u p q:Nat):Bool:=Eu p 6&&(Eu q 6&&u.testBit (6*p+q))
def EO (r:Nat->Nat->Bool)(p q:Nat):Bool:=r p q&&!(Ap 6).any λ c=>r p c&&r c q
def UB (r:Nat->Nat->Bool)(p:Nat):List Nat:=((Ap 6).filter (EO r p)).map (6-·)
def ON (r:Nat->Nat->Bool)(p:Nat):Bool:=!Kh (UB r (p+1)) (UB r p)
def JL (r:Nat->Nat->Bool)(S x:Nat):Bool:=!S.testBit x&&(Ap 6).all λ p=>!r p x||S.testBit p
variable {S:Nat}{m:As->Option Ae} in
def Zt (r:Nat->Nat->Bool):Nat->Nat->Bool
 |0,S=>S==63
 |m+1,S=>S==63||(Ap 6).any λ x=>JL r S x&&(Ap 6).any λ y=>Nat.ble x y&&JL r S y&&Zt r m (S|||2^x|||2^y)
variable {t:Expr} in
def dB (r:Nat->Nat->Bool):Bool:=let t:=DW (EO r) 6 [0,1,2,3,4,5];t.2.isEmpty&&Eu 0 t.1&&(QI t.1 3||!Zt r (t.1-1) 0)
def UG (u m:Nat):Bool:=(Ap 6).all λ q=>!m.testBit q||(Ap 6).all λ t=>!rm u q t||m.testBit t
variable {v:Ae}{p:Evs} in
def Kx:Nat->Nat->Bool
 |0,u=>dB (rm u)
 |p+1,u=>(Ap (2^(5-p))).all λ k=>!UG u (k*2^(p+1))||(let v:=u+(k*2^(p+1))*2^(6*p);!ON (rm v) p||Kx p v)
theorem uG (h:∀k<2^(5-p),UG u (k*2^(p+1))=Av\/ON (rm (u+k*2^(p+1)*2^(6*p))) p=Av\/Kx p (u+k*2^(p+1)*2^(6*p))=Ag):Kx (p+1) u=Ag:=AR.mpr λ k hk=>by
 rcases h k (Au.mp hk) with q |q |q
 ·rw[q];rfl
 ·simp only[q];exact Jz _
 ·simp only[q];rw[Jz,Jz]
theorem a! :Kx 1 0=Ag:=by decide+kernel
theorem a':Kx 1 256=Ag:=by decide+kernel
theorem Z? :Kx 1 512=Ag:=by decide+kernel
theorem Z! :Kx 1 768=Ag:=by decide+kernel
theorem Z':Kx 1 1024=Ag:=by decide+kernel
theorem Y? :Kx 1 1280=Ag:=by decide+kernel
theorem Y! :Kx 1 1536=Ag:=by decide+kernel
theorem Y':Kx 1 1792=Ag:=by decide+kernel
theorem X? :Kx 1 2048=Ag:=by decide+kernel
theorem X! :Kx 1 2304=Ag:=by decide+kernel
theorem zR:Kx 1 2560=Ag:=by decide+kernel
theorem zQ:Kx 1 2816=Ag:=by decide+kernel
theorem zP:Kx 1 3072=Ag:=by decide+kernel
theorem zO:Kx 1 3328=Ag:=by decide+kernel
theorem zN:Kx 1 3584=Ag:=by decide+kernel
theorem zM:Kx 1 3840=Ag:=by decide+kernel
theorem zL:Kx 2 32768=Ag:=by decide+kernel
theorem zK:Kx 2 65536=Ag:=by decide+kernel
theorem zJ:Kx 2 98304=Ag:=by decide+kernel
theorem zI:Kx 2 131072=Ag:=by decide+kernel
theorem zH:Kx 2 163840=Ag:=by decide+kernel
theorem zG:Kx 2 196608=Ag:=by decide+kernel
theorem zF:Kx 2 229376=Ag:=by decide+kernel
theorem zE:Kx 3 4194304=Ag:=by decide+kernel
theorem zC:Kx 3 8388608=Ag:=by decide+kernel
theorem zB:Kx 3 12582912=Ag:=by decide+kernel
theorem zA:Kx 3 545259520=Ag:=by decide+kernel
theorem y9:Kx 3 549453824=Ag:=by decide+kernel
theorem s7:Kx 6 0=Ag:=(uG (Fg Kv (.inr (.inr (uG (Fg (Fg Kv (.inr (.inr (uG (Fg (Fg (Fg (Fg Kv (.inr (.inr (uG (Fg (Fg (Fg (Fg (Fg (Fg (Fg (Fg Kv (.inr (.inr (uG (Fg (Fg (Fg (Fg (Fg (Fg (Fg (Fg (Fg (Fg (Fg (Fg (Fg (Fg (Fg (Fg Kv (.inr (.inr a!))) (.inr (.inr a'))) (.inr (.inr Z?))) (.inr (.inr Z!))) (.inr (.inr Z'))) (.inr (.inr Y?))) (.inr (.inr Y!))) (.inr (.inr Y'))) (.inr (.inr X?))) (.inr (.inr X!))) (.inr (.inr zR))) (.inr (.inr zQ))) (.inr (.inr zP))) (.inr (.inr zO))) (.inr (.inr zN))) (.inr (.inr zM))))))) (.inr (.inr zL))) (.inr (.inr zK))) (.inr (.inr zJ))) (.inr (.inr zI))) (.inr (.inr zH))) (.inr (.inr zG))) (.inr (.inr zF))))))) (.inr (.inr zE))) (.inr (.inr zC))) (.inr (.inr zB))))))) (.inr (.inr (uG (Fg (Fg (Fg (Fg Kv (.inr (.inl rfl))) (.inl rfl)) (.inr (.inr zA))) (.inr (.inr y9))))))))))))
variable {l:List E9} in
def Gf:List Bool->Nat
 |[]=>0
 |b::l=>b.toNat+2*Gf l
theorem gI:Kx (p+1) u=(Ap (2^(5-p))).all λ k=>!UG u (k*2^(p+1))||(!ON (rm (u+(k*2^(p+1))*2^(6*p))) p||Kx p (u+(k*2^(p+1))*2^(6*p))):=rfl
theorem RT:∀(l:List Bool)(n:Nat),(Gf l).testBit n=l.getD n Av:=by
 intro l;induction l with
 |nil=>exact Nat.zero_testBit
 |cons b l h=>
  intro n;cases n with
  |zero=>rw[Gf,Nat.testBit_zero,Nat.add_mul_mod_self_left];cases b<;>rfl
  |succ n=>?_
  have e:Gf (b::l)/2=Gf l:=by rw[Gf,Nat.add_mul_div_left _ _ (by decide)];cases b<;>exact Ct _
  rw[Nat.testBit_succ,e,h n];rfl
theorem S7:∀a b:List Bool,Gf (a++b)=Gf a+2^a.length*Gf b:=by
 intro a;induction a with
 |nil=>
  intro b;simp[Gf]
 |cons x a h=>
  intro b;rw[Eg,Gf,h b,Gf,Ee,Nat.pow_succ,Nat.mul_add,<-K0,Nat.mul_comm 2 (2^a.length),EZ]
theorem hU:∀a:List Bool,Gf a<2^a.length:=by
 intro a;induction a with
 |nil=>
  simp[Gf]
 |cons x a h=>
  rw[Gf,Ee,Nat.pow_succ,Nat.mul_comm _ 2];exact Ao (Nat.add_lt_add_right x.toNat_lt _) (Aa (AB (Ev 2 _)) (FL 2 h))
theorem Jj:∀(n:Nat)(a:List Bool),Gf (Bi n Av++a)=Gf a*2^n:=by
 intro n;induction n with
 |zero=>
  intro a;simp
 |succ n h=>
  intro a;rw[List.replicate_succ,Eg,Gf,h a,Nat.pow_succ];rw[Ct,Nat.mul_comm 2,K0]
theorem NK {P:Nat->Prop}(k:P 0)(o:P 1)(s:P 2)(w:P 3)(z:P 4)(A:P 5):∀i<6,P i
 |0,_=>k |1,_=>o |2,_=>s |3,_=>w |4,_=>z |5,_=>A
  |n+6,h=>by exact Ho (Ep h (Aj (BZ 6) n))
theorem vH {g:Type}{P:List g->Prop}(h:∀a b c d e f:g,P [a,b,c,d,e,f]):∀l:List g,l.length=6->P l:=
 QR λ a=>QR λ b=>QR λ c=>QR λ d=>QR λ e=>QR λ f l k=>by rw[FM.mp k];exact h a b c d e f
theorem wN (h:¬a<b):Eu a b=Av:=by
 cases q:Eu a b with
 |false=>rfl
 |true=>exact absurd (DS.mp q) h
section
def Pu (r:Nat->Nat->Bool)(i:Nat):List Bool:=[r i 0,r i 1,r i 2,r i 3,r i 4,r i 5]
variable {i n:Nat} in
def TG (r:Nat->Nat->Bool):Nat->Nat->List Bool
 |0,_=>[]
 |n+1,i=>Pu r i++TG r n (i+1)
def KG (r:Nat->Nat->Bool)(p:Nat):Nat:=Gf (Bi (6*p) Av++TG r (6-p) p)
structure ZD (r:Nat->Nat->Bool):Prop where
 jw:∀p q,r p q=Ag->p<q
 six:∀p q,r p q=Ag->q<6
 tr:∀p q s,r p q=Ag->r q s=Ag->r p s=Ag
theorem Vt {r:Nat->Nat->Bool}(s:ZD r):∀p<7,∀i j,rm (KG r p) i j=(r i j&&Nat.ble p i):=by
 have w:∀p<7,∀i<6,∀j<6,(Bi (6*p) Av++TG r (6-p) p).getD (6*i+j) Av=(r i j&&Nat.ble p i):=by
  intro p z;have h:∀p<6,∀i<6,∀j<6,(Bi (6*p) Av++TG r (6-p) p).getD (6*i+j) Av=(r i j&&Nat.ble p i):=by
   have f:∀b,Av=(b&&Av):=λ b=>(H9 b).symm;refine NK ?_ ?_ ?_ ?_ ?_ ?_<;>refine NK ?_ ?_ ?_ ?_ ?_ ?_<;>refine NK ?_ ?_ ?_ ?_ ?_ ?_<;>first |exact(λ b=>(EU b).symm) _ |exact f _
  by_cases q:p<6
  ·exact h p q
  ·have:=EK (A7 z) (Bz q);subst this;refine NK ?_ ?_ ?_ ?_ ?_ ?_<;>refine NK ?_ ?_ ?_ ?_ ?_ ?_<;>exact(λ b=>(H9 b).symm) _
 intro p z i j;unfold rm KG;rw[RT];by_cases k:i<6
 ·by_cases o:j<6
  ·rw[w p z i k j o,show Eu i 6=Ag from DS.mpr k,show Eu j 6=Ag from DS.mpr o];rfl
  ·have:r i j=Av:=by
    cases q:r i j with
    |false=>rfl
    |true=>exact absurd (s.six _ _ q) o
   rw[this,wN o];simp
 ·have:r i j=Av:=by
   cases q:r i j with
   |false=>rfl
   |true=>exact absurd (Cw (s.jw _ _ q) (s.six _ _ q)) k
  rw[this,wN k];simp
theorem Zo {r:Nat->Nat->Bool}{d:Nat->Nat->Bool}(h:∀q,d p q=r p q)(k:∀c,r p c=Ag->∀q,d c q=r c q):EO d p=EO r p:=by
 funext q
 unfold EO;rw[h];congr 2;apply BJ.mpr;simp only[B9,AG];constructor
 ·rintro⟨c,hc,a,b⟩;rw[h] at a;exact⟨c,hc,a,by rw[<-k c a];exact b⟩
 ·rintro⟨c,hc,a,b⟩;exact⟨c,hc,by rw[h];exact a,by rw[k c a];exact b⟩
theorem nS {r:Nat->Nat->Bool}(s:ZD r)(w:∀p<5,ON r p=Ag):∀p<6,Kx (p+1) (KG r (p+1))=Ag->Kx p (KG r p)=Ag:=by
 intro p A h;have C:∀j,j<=p->r p j=Av:=λ j Z=>by
  cases q:r p j with
  |false=>rfl
  |true=>have:=s.jw _ _ q;exact Ho (Ep Z this)
 obtain⟨k,hk,em⟩:∃k<2^(5-p),Gf (Pu r p)=k*2^(p+1):=by
  have e:Pu r p=Bi (p+1) Av++(Pu r p).drop (p+1):=by
   have e:(Pu r p).take (p+1)=Bi (p+1) Av:=List.eq_replicate_iff.mpr ⟨(Dd).trans (DA A),λ b a=>by
    obtain⟨i,o,rfl⟩:=Cr.mp a;rw[Dd] at o;rw[HZ];exact(NK (P:=λ i=>∀h:i<6,(Pu r p)[i]'h=r p i) (λ _=>rfl) (λ _=>rfl) (λ _=>rfl) (λ _=>rfl) (λ _=>rfl) (λ _=>rfl) i (Mu.mp o).2 _).trans (C i (A7 (Mu.mp o).1))⟩
   rw[<-e,E7]
  refine⟨Gf ((Pu r p).drop (p+1)),?_,?_⟩
  ·have:=hU ((Pu r p).drop (p+1));rw[G3,show(Pu r p).length=6 from rfl,show 6-(p+1)=5-p from Nat.succ_sub_succ 5 p] at this;exact this
  ·rw[<-Jj,<-e]
 have d:KG r p=KG r (p+1)+k*2^(p+1)*2^(6*p):=by
  unfold KG;rw[Jj,Jj];rw[show 6-p=(6-(p+1))+1 from(Nat.succ_pred_eq_of_pos (Nat.sub_pos_of_lt A)).symm,TG,S7,em,show(Pu r p).length=6 from rfl,Nat.add_mul,Ev];congr 1;rw[show 6*(p+1)=6+6*p by exact Ev (Nat.mul 6 p) 6,Nat.pow_add,Nat.mul_comm (2^6),K0]
 rw[gI] at h;have H:=AR.mp h k (Au.mpr hk);have E:∀q,q<6->(k*2^(p+1)).testBit q=r p q:=λ q N=>by
  rw[<-em,RT];exact NK (P:=λ q=>(Pu r p).getD q Av=r p q) rfl rfl rfl rfl rfl rfl q N
 have hc:UG (KG r (p+1)) (k*2^(p+1))=Ag:=by
  unfold UG;refine AR.mpr λ q N=>?_;have O:=Au.mp N;rw[E q O];cases f:r p q with
  |false=>rfl
  |true=>
   refine AR.mpr λ t g=>?_;have Q:=Au.mp g;rw[E t Q,Vt s (p+1) (IM A)];cases l:r q t with
   |false=>rfl
   |true=>rw[s.tr p q t f l];simp
 rw[hc,<-d] at H;have m:ON (rm (KG r p)) p=Ag:=by
  have n:=Vt s p (Ao A (of_decide_eq_true (id (Cy Ag))));have V:∀i,p<=i->∀q,rm (KG r p) i q=r i q:=λ i o q=>by rw[n,DS.mpr o,EU]
  have W:∀i,p<=i->EO (rm (KG r p)) i=EO r i:=λ i o=>Zo (V i o) λ c hc=>V c (AY (Az o (s.jw _ _ hc)));have e:ON (rm (KG r p)) p=ON r p:=by
   unfold ON UB;rw[W p (An _),W (p+1) (AS p 1)]
  rw[e];by_cases q:p<5
  ·exact w p q
  ·have:p=5:=EK (A7 A) (Bz q);subst this;have u:∀q,r 6 q=Av:=λ q=>by
    cases z:r 6 q with
    |false=>rfl
    |true=>exact absurd (Cw (s.jw _ _ z) (s.six _ _ z)) (EY 6)
   unfold ON UB;have:(Ap 6).filter (EO r 6)=[]:=DO.mpr λ q _=>by unfold EO;rw[u];simp
   rw[this];rfl
 simp only[m,KS,Bool.false_or] at H;exact H
theorem tE {r:Nat->Nat->Bool}(o:ZD r)(k:∀p<5,ON r p=Ag):(DW (EO r) 6 [0,1,2,3,4,5]).2=[]/\0<(DW (EO r) 6 [0,1,2,3,4,5]).1/\((DW (EO r) 6 [0,1,2,3,4,5]).1=3\/Zt r ((DW (EO r) 6 [0,1,2,3,4,5]).1-1) 0=Av):=by
 have w:Kx 6 (KG r 6)=Ag:=by
  have:KG r 6=0:=by
   unfold KG;rw[Jj];show Gf []*_=0;rw[Gf,Nat.zero_mul]
  rw[this];exact s7
 have s:=nS o k;have h:=s 0 (Aj (BZ 0) 5) (s 1 (Aj (BZ 1) 4) (s 2 (Aj (BZ 2) 3) (s 3 (Aj (BZ 3) 2) (s 4 (Aj (BZ 4) 1) (s 5 (An (BZ 5)) w)))));have e:rm (KG r 0)=r:=by
  funext i j
  rw[Vt o 0 (Aj (BZ 0) 6),DS.mpr (AZ _),EU]
 rw[show Kx 0 (KG r 0)=dB (rm (KG r 0)) from rfl,e] at h;unfold dB at h;simp only[AG,CW,C3,De] at h;exact⟨h.1.1,DS.mp h.1.2,h.2.imp Nat.eq_of_beq_eq_true id⟩
end
def VJ (r:Nat->Nat->Bool)(D:List Nat)(x:Nat):Prop:=x<6/\x∉D/\∀p<6,r p x=Ag->p∈D
variable {y:As}{l:List E9} in
def JJ (r:Nat->Nat->Bool):List Nat->List (Nat×Nat)->Prop
 |D,[]=>∀x<6,x∈D
 |D,(x,y)::l=>VJ r D x/\VJ r D y/\JJ r (x::y::D) l
theorem Zs {r:Nat->Nat->Bool}:Zt r (m+1) S=(S==63||(Ap 6).any λ x=>JL r S x&&(Ap 6).any λ y=>Nat.ble x y&&JL r S y&&Zt r m (S|||2^x|||2^y)):=rfl
theorem No {a:Type} [DecidableEq a]:∀{l E:List a},l.Nodup->(∀x∈l,x∈E)->l.length<=E.length:=by
 intro l;induction l with
 |nil=>exact λ _ _=>AZ _
 |cons x l w=>
  intro E h k;have o:=k x Ad;have:=w (BA.mp h).2 λ y s=>(List.mem_erase_of_ne (show y≠x from λ q=>(BA.mp h).1 (q▸s))).mpr (k y (Af _ s));rw[List.length_erase_of_mem o] at this;exact Nat.add_le_of_le_sub (Ma o) this
section
def J8 (D:List Nat)(S:Nat):Prop:=S<64/\∀x<6,S.testBit x=decide (x∈D)
theorem Ru (h:J8 D S)(k:∀x<6,x∈D):S=63:=by
 apply Ft;intro i;by_cases q:i<6
 ·rw[h.2 i q,decide_eq_true (k i q)];exact(NK (P:=λ i=>(63:Nat).testBit i=Ag) (rfl) (rfl) (rfl) (rfl) (rfl) (rfl) i q).symm
 ·have:=I5 (Aj (BZ 0) 1) (Bz q);rw[Ms (Ao h.1 this),Ms (this)]
theorem SJ (h:J8 D S)(o:x<6)(s:y<6):J8 (x::y::D) (S|||2^x|||2^y):=by
 have b:∀z,z<6->(2:Nat)^z<2^6:=λ z k=>I4 (An (BZ 1)) k;refine⟨Gs (Gs h.1 (b x o)) (b y s),λ z k=>?_⟩;simp only[EA,EA,h.2 z k,Ha,Ha];apply BJ.mpr;simp only[CW,decide_eq_true_eq,Ak];constructor
 ·rintro((h |h) |h)
  ·exact .inr (.inr h)
  ·exact .inl h.symm
  ·exact .inr (.inl h.symm)
 ·rintro(h |h |h)
  ·exact .inl (.inr h.symm)
  ·exact .inr h.symm
  ·exact .inl (.inl h)
theorem O6 {S:Nat}{r:Nat->Nat->Bool}(h:J8 D S)(m:VJ r D x):JL r S x=Ag:=by
 unfold JL;rw[h.2 x m.1,decide_eq_false m.2.1];simp only[Bool.not_false,Bool.true_and,AR,Au];intro p k;rw[h.2 p k];cases q:r p x with
 |false=>rfl
 |true=>simp[m.2.2 p k q]
theorem bT {r:Nat->Nat->Bool}:∀(l:List (Nat×Nat))(D:List Nat)(S m:Nat),J8 D S->JJ r D l->l.length<=m->Zt r m S=Ag:=by
 intro l;induction l with
 |nil=>
  intro D S m k o A;obtain rfl:=Ru k o;cases m<;>rfl
 |cons p l E=>
  intro D S m k o A;obtain⟨x,y⟩:=p;obtain⟨w,z,o⟩:=o;cases m with
  |zero=>exact absurd A (Nat.not_succ_le_zero _)
  |succ m=>?_
  have h:=E _ _ m (SJ k w.1 z.1) o (Mw A);have C:=O6 k w;have s:=O6 k z;simp only[Zs];simp only[CW,B9,Au,AG];refine .inr ?_;by_cases q:x<=y
  ·exact⟨x,w.1,C,y,z.1,⟨DS.mpr q,s⟩,h⟩
  ·refine⟨y,z.1,s,x,w.1,⟨DS.mpr (G6 q),C⟩,?_⟩;rw[show S|||2^y|||2^x=S|||2^x|||2^y by rw[Nat.or_assoc,Nat.or_comm (2^y),<-Nat.or_assoc]];exact h
theorem PE:J8 [] 0:=⟨Aj (BZ 0) 63,λ x _=>by simp⟩
theorem bS {r:Nat->Nat->Bool}:∀(l:List (Nat×Nat))(D:List Nat),JJ r D l->∃E:List Nat,E.length=D.length+2*l.length/\∀x<6,x∈E:=by
 intro l;induction l with
 |nil=>
  intro D h;exact⟨D,by rfl,h⟩
 |cons o l k=>
  intro D h;obtain⟨x,y⟩:=o;obtain⟨E,s,w⟩:=k _ h.2.2;refine⟨E,?_,w⟩;exact s.trans (Ch D.length 2 (2*l.length))
theorem u4 {r:Nat->Nat->Bool}{l:List (Nat×Nat)}(h:JJ r [] l):3<=l.length:=by
 obtain⟨E,k,o⟩:=bS l [] h;have:=No IF λ x s=>o x (Au.mp s);simp only[CM,k,List.length_nil,Ct] at this;exact Nat.le_of_mul_le_mul_left (c:=2) this (DQ _)
structure qB (D left:List Nat):Prop where
 all:∀x<6,x∈D\/x∈left
 lt:∀x∈left,x<6
 k9:∀x∈left,x∉D
theorem O5 {r:Nat->Nat->Bool}(k:ZD r){left:List Nat}(s:qB D left)(N:∀p q,r p q=Ag->p∈left->q∈left)(E:x∈left)(O:left.any (λ a=>EO r a x)=Av):VJ r D x:=by
 refine⟨s.lt x E,s.k9 x E,λ p Q V=>?_⟩;rcases s.all p Q with h |h
 ·exact h
 ·exfalso;have w:∀n p,6-p<=n->r p x=Ag->p∈left->False:=by
   intro n;induction n with
   |zero=>
    intro p A o C;exact Nat.sub_ne_zero_of_lt (Cw (k.jw _ _ o) (k.six _ _ o)) (Nat.eq_zero_of_le_zero A)
   |succ n W=>
    intro p A o C;by_cases q:EO r p x=Ag
    ·have:left.any (λ a=>EO r a x)=Ag:=B9.mpr ⟨p,C,q⟩
     replace this:=O.symm.trans this;exact BI this
    ·unfold EO at q;rw[o,Bool.true_and] at q;have Z:((Ap 6).any λ c=>r p c&&r c x)=Ag:=by
      cases z:((Ap 6).any λ c=>r p c&&r c x) with
      |true=>rfl
      |false=>rw[z] at q;exact absurd rfl q
     obtain⟨c,hc,e⟩:=B9.mp Z;simp only[AG] at e;have H:=k.jw _ _ e.1;exact W c (A7 (Ao (FK (Cw H (k.six _ _ e.1)) H) A)) e.2 (N _ _ e.1 C)
  exact w 6 p (J0 6 p) V h
theorem Vq {r:Nat->Nat->Bool}(E:ZD r):∀(n:Nat)(left D:List Nat),qB D left->(∀p q,r p q=Ag->p∈left->q∈left)->(DW (EO r) n left).2=[]->∃l:List (Nat×Nat),l.length=(DW (EO r) n left).1/\JJ r D l:=by
 intro n;induction n with
 |zero=>
  intro left D w H h;have:=h;subst this;exact⟨[],rfl,λ x k=>(w.all x k).resolve_right (by simp)⟩
 |succ n W=>
  intro left D w H h;have o:∀x∈Gc (EO r) left,x∈left/\left.any (λ a=>EO r a x)=Av:=λ x k=>by
   have:=Ax.mp (List.mem_of_mem_take k);exact⟨this.1,by simpa using this.2⟩
  have Z:∀p q,r p q=Ag->p∈Gb (EO r) left->q∈Gb (EO r) left:=λ p q O g=>by
   have N:=(Ax.mp g).1;refine Ax.mpr ⟨H p q O N,?_⟩;simp only[C3,List.contains_eq_mem,decide_eq_false_iff_not];intro e;have:=O5 E w H (o q e).1 (o q e).2;exact w.k9 p N (this.2.2 p (Cw (E.jw _ _ O) (E.six _ _ O)) O)
  have c:∀x,x∈Gb (EO r) left↔x∈left/\x∉Gc (EO r) left:=λ x=>by simp[Gb,Ax]
  have s:∀Q,(∀x,x∈Q↔x∈D\/x∈Gc (EO r) left)->∃l:List (Nat×Nat),l.length=(DW (EO r) n (Gb (EO r) left)).1/\JJ r Q l:=λ Q C=>by
   refine W _ Q ⟨λ x k=>?_,λ x k=>w.lt x ((c x).mp k).1,λ x k q=>?_⟩ Z h
   ·by_cases q:x∈Gc (EO r) left
    ·exact .inl ((C x).mpr (.inr q))
    ·exact(w.all x k).imp (λ z=>(C x).mpr (.inl z)) λ z=>(c x).mpr ⟨z,q⟩
   ·have:=(c x).mp k;exact((C x).mp q).elim (w.k9 x this.1) this.2
  have d:(DW (EO r) (n+1) left).1=if(Gc (EO r) left).isEmpty then(DW (EO r) n (Gb (EO r) left)).1 else(DW (EO r) n (Gb (EO r) left)).1+1:=rfl
  match A:Gc (EO r) left with
  |[]=>
   obtain⟨l,a,b⟩:=s D (λ x=>by rw[A];simp);exact⟨l,by rw[d,A,a];rfl,b⟩
  |[x]=>
   have k:=o x (by rw[A];simp);have V:=O5 E w H k.1 k.2;obtain⟨l,a,b⟩:=s (x::x::D) (λ z=>by rw[A];simp;constructor<;>intro h<;>(first |(rcases h with h |h<;>simp[h])));exact⟨(x,x)::l,by rw[d,A];simp[a],V,V,b⟩
  |[x,y]=>
   have k:=o x (by rw[A];simp);have f:=o y (by rw[A];simp);have V:=O5 E w H k.1 k.2;obtain⟨l,a,b⟩:=s (x::y::D) (λ z=>by rw[A];simp;constructor<;>intro h<;>(first |(rcases h with h |h |h<;>simp[h])));exact⟨(x,y)::l,by rw[d,A];simp[a],V,(O5 E w H f.1 f.2),b⟩
  |x::y::z::t=>
   have:(Gc (EO r) left).length<=2:=by unfold Gc;simp;exact EJ 2 (BR (List.filter (λ n=>!List.any left λ a=>EO r a n) left))
   rw[A] at this;simp at this
theorem TM {r:Nat->Nat->Bool}{r':Nat->Nat->Bool}{f g:Nat->Nat}(Q:∀x<6,f x<6)(s:∀x<6,g x<6)(H:∀x<6,g (f x)=x)(N:∀x<6,f (g x)=x)(V:∀p q,p<6->q<6->r' (f p) (f q)=r p q):∀(l:List (Nat×Nat))(D:List Nat),(∀x∈D,x<6)->JJ r D l->JJ r' (D.map f) (l.map λ p=>(f p.1,f p.2)):=by
 intro l;induction l with
 |nil=>
  intro D w h;exact λ x O=>by
   rw[<-N x O];exact AH.mpr ⟨g x,h _ (s x O),rfl⟩
 |cons W l A=>
  intro D w h;obtain⟨x,y⟩:=W;have o:∀x,VJ r D x->VJ r' (D.map f) (f x):=λ x m=>by
   refine⟨Q x m.1,λ q=>?_,λ p C E=>?_⟩
   ·obtain⟨z,k,e⟩:=AH.mp q;have:z=x:=by rw[<-H z (w z k),e,H x m.1]
    exact m.2.1 (this▸k)
   ·rw[<-N p C] at E ⊢;rw[V _ _ (s p C) m.1] at E;exact AH.mpr ⟨_,m.2.2 _ (s p C) E,rfl⟩
  refine⟨o x h.1,o y h.2.1,?_⟩;exact A (x::y::D) (λ z k=>by
   simp only[Ak] at k;rcases k with rfl |rfl |k
   ·exact h.1.1
   ·exact h.2.1.1
   ·exact w z k) h.2.2
end
def Ew (h:Nat->Nat)(d:Nat):List Nat:=((Ap 6).filter λ k=>d/2^k%2==0&&(d&&& h k)==h k).map (2^·)
def EX (d n:Nat)(t:List Nat):List Nat:=t.set n (min (t.getD n 0) (t.getD d 0+1))
def Qd (d:Nat)(h:List Nat)(t:List Nat):List Nat:=(Ap h.length).foldl (λ t i=>(h.drop i).foldl (λ t o=>EX d (d|||h.getD i 0|||o) t) t) t
def GO (h:Nat->Nat)(t:List Nat)(d:Nat):List Nat:=if t.getD d 0<7 then Qd d (Ew h d) t else t
theorem Hz {d c:Type}{P:c->Prop}{f:c->d->c}:∀(l:List d)(b:c),P b->(∀b,∀a∈l,P b->P (f b a))->P (l.foldl f b):=by
 intro l;induction l with
 |nil=>
  intro b h _;exact h
 |cons a l k=>
  intro b h s;exact k (f b a) (s b a Ad h) λ b x o=>s b x (Af _ o)
theorem RN {d c:Type}{P Q:c->Prop}{f:c->d->c}{a:d}:∀(l:List d)(b:c),a∈l->P b->(∀b,∀x∈l,P b->P (f b x))->(∀b,P b->Q (f b a))->(∀b,∀x∈l,P b->Q b->Q (f b x))->Q (l.foldl f b):=by
 intro l;induction l with
 |nil=>
  intro b h _ _ _ _
  contradiction
 |cons x l z=>
  intro b h p A o C;have s:∀b,∀y∈l,P b->P (f b y):=λ b y k=>A b y (Af _ k);have w:∀b,∀y∈l,P b->Q b->Q (f b y):=λ b y k=>C b y (Af _ k);by_cases q:a∈l
  ·exact z _ q (A b x Ad p) s o w
  ·have:a=x:=by simpa[q] using h
   subst this;exact(Hz (P:=λ b=>P b/\Q b) l _ ⟨A b a Ad p,o b p⟩ λ b y k h=>⟨s b y k h.1,w b y k h.1 h.2⟩).2
theorem OZ {t:List Nat}:(EX d n t).length=t.length:=by simp[EX]
theorem LF {t:List Nat}(h:j≠n):(EX d n t).getD j 0=t.getD j 0:=by
 unfold EX;simp[Am,Ne.symm h]
theorem TH {t:List Nat}(h:n<t.length):(EX d n t).getD n 0=min (t.getD n 0) (t.getD d 0+1):=by
 unfold EX;simp[Am,h]
section
variable {S:Nat}{y:As}{l:List E9} in
def xB (r:Nat->Nat->Bool):List (Nat×Nat)->Nat->Prop
 |[],S=>S=0
 |(x,y)::l,S=>∃h,xB r l h/\(x<6/\JL r h x=Ag)/\(y<6/\JL r h y=Ag)/\S=h|||2^x|||2^y
variable {y:As}{l:List E9} in
def SZ:List (Nat×Nat)->List Nat
 |[]=>[]
 |(x,y)::l=>x::y::SZ l
theorem Tv {r:Nat->Nat->Bool}:∀(l:List (Nat×Nat))(S:Nat),xB r l S->J8 (SZ l) S:=by
 intro l;induction l with
 |nil=>
  intro S h;subst h;exact PE
 |cons o l k=>
  intro S h;obtain⟨x,y⟩:=o;obtain⟨s,w,z,A,rfl⟩:=h;exact SJ (k s w) z.1 A.1
theorem XD {S:Nat}{r:Nat->Nat->Bool}(h:J8 D S)(k:x<6)(m:JL r S x=Ag):VJ r D x:=by
 unfold JL at m;rw[AG,h.2 x k] at m;refine⟨k,by simpa using m.1,λ p o s=>?_⟩;have:=AR.mp m.2 p (Au.mpr o);rw[s,h.2 p o] at this;exact of_decide_eq_true (this)
theorem Z3 {r:Nat->Nat->Bool}:∀(l k:List (Nat×Nat))(S:Nat),xB r l S->JJ r (SZ l) k->JJ r [] (l.reverse++k):=by
 intro l;induction l with
 |nil=>
  intro k S h o;exact o
 |cons H l s=>
  intro k S h o;obtain⟨x,y⟩:=H;obtain⟨w,z,A,C,rfl⟩:=h;have E:=Tv l w z;rw[List.reverse_cons,BY];exact s _ w z ⟨XD E A.1 A.2,XD E C.1 C.2,o⟩
def GQ (r:Nat->Nat->Bool)(h:Nat->Nat):Prop:=∀k<6,h k<64/\∀a<6,(h k).testBit a=r a k
theorem Uu {r:Nat->Nat->Bool}{a:Nat->Nat}(s:GQ r a)(hk:k<6):(d/2^k%2==0&&(d&&& a k)==a k)=JL r d k:=by
 obtain⟨w,o⟩:=s k hk;have C:(d/2^k%2==0)= !d.testBit k:=by
  rw[Nat.testBit_eq_decide_div_mod_eq];rcases GR (d/2^k) with q |q<;>rw[q]<;>rfl
 congr 1;apply BJ.mpr;simp only[beq_iff_eq,AR,Au];constructor
 ·intro h p A;cases q:r p k with
  |false=>rfl
  |true=>
   have:=congrArg (λ n=>Nat.testBit n p) h;simp only[Nat.testBit_and,o p A,q,EU] at this
   trivial
 ·intro h;apply Ft;intro i;rw[Nat.testBit_and];by_cases q:i<6
  ·rw[o i q];have:=h i q;cases z:r i k with
   |false=>simp
   |true=>rw[z] at this;simpa using this
  ·have:=I5 (Aj (BZ 0) 1) (Bz q);rw[Ms (Ao w this)];simp
theorem Ny {r:Nat->Nat->Bool}{a:Nat->Nat}(o:GQ r a):v∈Ew a d↔∃k<6,v=2^k/\JL r d k=Ag:=by
 unfold Ew;simp only[AH,Ax,Au];constructor
 ·rintro⟨k,⟨hk,h⟩,rfl⟩;exact⟨k,hk,rfl,by rw[<-Uu o hk];exact h⟩
 ·rintro⟨k,hk,rfl,h⟩;exact⟨k,⟨hk,by rw[Uu o hk];exact h⟩,rfl⟩
theorem lK {r:Nat->Nat->Bool}{d:Nat}(h:JL r d k=Ag):d.testBit k=Av:=by
 unfold JL at h;rw[AG] at h;simpa using h.1
theorem u6 {d:Nat}(h:d.testBit k=Av):d<d|||2^k|||v:=by
 refine J1 (Aa Nat.left_le_or Nat.left_le_or) λ e=>?_;have:=congrArg (λ n=>Nat.testBit n k) e;simp[EA,h] at this
structure Iw (r:Nat->Nat->Bool)(t:List Nat):Prop where
 len:t.length=64
 ga:∀S<64,t.getD S 0<7->∃l,xB r l S/\l.length=t.getD S 0
structure ZS (d:Nat)(t0 t:List Nat):Prop where
 le:∀j,t.getD j 0<=t0.getD j 0
 me:∀j≤d,t.getD j 0=t0.getD j 0
theorem bO {r:Nat->Nat->Bool}{c:Nat->Nat}(s:GQ r c){t0:List Nat}(w:d<64)(V:t0.getD d 0<7)(W:a∈Ew c d)(Z:b∈Ew c d)(T:Iw r t)(F:ZS d t0 t):
 d<d|||a|||b/\d|||a|||b<64/\Iw r (EX d (d|||a|||b) t)/\ZS d t0 (EX d (d|||a|||b) t)/\(EX d (d|||a|||b) t).getD (d|||a|||b) 0<=t0.getD d 0+1:=by
 refine Jt λ p e=>?_;obtain⟨x,A,rfl,C⟩:=(Ny s).mp W;obtain⟨y,E,rfl,f⟩:=(Ny s).mp Z;refine e ?_;have H:=u6 (v:=2^y) (lK C);have N:∀z,z<6->(2:Nat)^z<2^6:=λ z g=>I4 (An (BZ 1)) g;have o:=Gs (Gs w (N x A)) (N y E);have k:=TH (d:=d) (by rw[T.len];exact o);have O:=F.me d (An _);refine⟨H,o,⟨by rw[OZ,T.len],λ S i h=>?_⟩,⟨λ j=>?_,λ j Q=>?_⟩,by rw[k,O];exact FP (Q6 t (d|||2^x|||2^y) 0) (Q6 t0 d 0+1)⟩
 ·by_cases q:S=d|||2^x|||2^y
  ·subst q;rw[k] at h ⊢;by_cases z:t.getD (d|||2^x|||2^y) 0<=t.getD d 0+1
   ·rw[DA z] at h ⊢;exact T.ga _ o h
   ·rw[G5 (G6 z)];obtain⟨l,m,n⟩:=T.ga d w (Az (AB O) V);exact⟨(x,y)::l,⟨d,m,⟨A,C⟩,⟨E,f⟩,rfl⟩,by simp[n]⟩
  ·rw[LF q] at h ⊢;exact T.ga S i h
 ·by_cases q:j=d|||2^x|||2^y
  ·subst q;rw[k];exact Aa (EJ _ _) (F.le _)
  ·rw[LF q];exact F.le j
 ·rw[LF (Cu (Az Q H))];exact F.me j Q
theorem vP {r:Nat->Nat->Bool}{a:Nat->Nat}(s:GQ r a){t0:List Nat}(w:d<64)(z:t0.getD d 0<7)(T:Iw r t0):Iw r (Qd d (Ew a d) t0)/\ZS d t0 (Qd d (Ew a d) t0):=by
 refine Hz (P:=λ t=>Iw r t/\ZS d t0 t) _ _ ⟨T,λ j=>An _,λ j _=>rfl⟩ λ t i A h=>?_;refine Hz (P:=λ t=>Iw r t/\ZS d t0 t) _ _ h λ t o C h=>?_;have k:=Au.mp A;have:=bO s w z (a:=(Ew a d).getD i 0) (by rw[Am,AA k];exact Dg k) (NN C) h.1 h.2;exact⟨this.2.2.1,this.2.2.2.1⟩
theorem sG {r:Nat->Nat->Bool}{a:Nat->Nat}(V:GQ r a){t0:List Nat}(W:d<64)(Z:t0.getD d 0<7)(T:Iw r t0)(H:i<(Ew a d).length)(E:i<=j)(O:j<(Ew a d).length)(b:(Ew a d).getD i 0=x)(c:(Ew a d).getD j 0=y):
 (Qd d (Ew a d) t0).getD (d|||x|||y) 0<=t0.getD d 0+1:=by
 have w:∀t,Iw r t/\ZS d t0 t->∀s,s<(Ew a d).length->∀o,o∈(Ew a d).drop s->Iw r (EX d (d|||(Ew a d).getD s 0|||o) t)/\ZS d t0 (EX d (d|||(Ew a d).getD s 0|||o) t)/\(EX d (d|||(Ew a d).getD s 0|||o) t).getD (d|||(Ew a d).getD s 0|||o) 0<=t0.getD d 0+1:=λ t h s k o A=>by
  have:=bO V W Z (a:=(Ew a d).getD s 0) (by rw[Am,AA k];exact Dg k) (NN A) h.1 h.2;exact⟨this.2.2.1,this.2.2.2.1,this.2.2.2.2⟩
 have C:∀t n,t.getD (d|||x|||y) 0<=t0.getD d 0+1->t.length=64->(EX d n t).getD (d|||x|||y) 0<=t0.getD d 0+1:=λ t n h e=>by
  by_cases q:d|||x|||y=n
  ·subst q;by_cases z:d|||x|||y<t.length
   ·rw[TH z];exact Aa (EJ (Q6 t (d|||x|||y) 0) (Q6 t d 0+1)) h
   ·have:(EX d (d|||x|||y) t).getD (d|||x|||y) 0=0:=by
     rw[Am,List.getElem?_eq_none (by rw[OZ];exact Bz z)];rfl
    rw[this];exact Aj 0 (Q6 t0 d 0+1)
  ·rw[LF q];exact h
 refine RN (P:=λ t=>Iw r t/\ZS d t0 t) (Q:=λ t=>t.getD (d|||x|||y) 0<=t0.getD d 0+1) _ _ (Au.mpr H) ⟨T,λ j=>An _,λ j _=>rfl⟩ (λ t s k h=>?_) (λ t h=>?_) (λ t s k h N=>?_)
 ·exact Hz (P:=λ t=>Iw r t/\ZS d t0 t) _ _ h λ t o A h=>let z:=w t h s (Au.mp k) o A;⟨z.1,z.2.1⟩
 ·have Q:y∈(Ew a d).drop i:=by
   rw[<-c,Am,AA O];refine Cr.mpr ⟨j-i,by rw[G3];exact Nat.sub_lt_sub_right E O,?_⟩;simp only[List.getElem_drop,Option.getD_some];congr 1;exact EF E
  refine RN (P:=λ t=>Iw r t/\ZS d t0 t) _ _ Q h (λ t o A h=>let z:=w t h i H o A;⟨z.1,z.2.1⟩) (λ t h=>?_) (λ t o A h N=>C t _ N h.1.len);have:=(w t h i H y Q).2.2;rw[b] at this ⊢;exact this
 ·exact(Hz (P:=λ t=>(Iw r t/\ZS d t0 t)/\t.getD (d|||x|||y) 0<=t0.getD d 0+1) _ _ ⟨h,N⟩ λ t o A h=>let z:=w t h.1 s (Au.mp k) o A;⟨⟨z.1,z.2.1⟩,C t _ h.2 h.1.1.len⟩).2
def Gj (h:Nat->Nat)(n:Nat):List Nat:=(Ap n).foldl (GO h) (0::Bi 63 7)
theorem LA {a:Nat->Nat}:Gj a (n+1)=GO a (Gj a n) n:=by unfold Gj;rw[List.range_succ,List.foldl_append];rfl
theorem Sh {r:Nat->Nat->Bool}{a:Nat->Nat}(h:GQ r a)(k:d<64)(T:Iw r t):Iw r (GO a t d)/\ZS d t (GO a t d):=by
 unfold GO;split
 ·exact vP h k (by assumption) T
 ·exact⟨T,λ j=>An _,λ j _=>rfl⟩
theorem Vi {r:Nat->Nat->Bool}{a:Nat->Nat}(s:GQ r a):∀n,n<=64->Iw r (Gj a n):=by
 intro n;induction n with
 |zero=>
  intro _;exact⟨rfl,λ S k h=>by
   match S,k,h with
   |0,_,_=>exact⟨[],rfl,rfl⟩
   |S+1,k,h=>
    have:(Gj a 0).getD (S+1) 0=7:=by
     rw[Am,List.getElem?_replicate,if_pos (A7 k)];rfl
    exact(Cu h this).elim⟩
 |succ n o=>
  intro h;rw[LA];exact(Sh s (h) (o (AY h))).1
theorem Sb {r:Nat->Nat->Bool}{a:Nat->Nat}(w:GQ r a):∀m,n<=m->m<=64->(∀j,(Gj a m).getD j 0<=(Gj a n).getD j 0)/\∀j<n,(Gj a m).getD j 0=(Gj a n).getD j 0:=by
 intro m;induction m with
 |zero=>
  intro h _;obtain rfl:=Nat.eq_zero_of_le_zero h;exact⟨λ j=>An _,λ j _=>rfl⟩
 |succ m k=>
  intro h o;by_cases q:n=m+1
  ·subst q;exact⟨λ j=>An _,λ j _=>rfl⟩
  ·have z:=k (A7 (J1 h q)) (AY o);have s:=(Sh w (o) (Vi w m (AY o))).2;rw[LA];exact⟨λ j=>Aa (s.le j) (z.1 j),λ j A=>(s.me j (A7 (Ao A h))).trans (z.2 j A)⟩
theorem TC {a:Nat->Nat}:(Ew a d).Pairwise (·<·):=by
 unfold Ew;refine List.pairwise_map.mpr ((KC _ L9).imp λ h=>?_);exact I4 (An (BZ 1)) h
theorem Z4 {S:Nat}{r:Nat->Nat->Bool}{a:Nat->Nat}(k:GQ r a)(o:S<64)(c:(Gj a 64).getD S 0<7)(z:x<6)(A:y<6)(C:JL r S x=Ag)(E:JL r S y=Ag):(Gj a 64).getD (S|||2^x|||2^y) 0<=(Gj a 64).getD S 0+1:=by
 have h:∀{x y:Nat},x<6->y<6->JL r S x=Ag->JL r S y=Ag->x<=y->(Gj a 64).getD (S|||2^x|||2^y) 0<=(Gj a 64).getD S 0+1:=λ{x y} z A C E H=>by
  have V:=Sb k 64 o (An _);have d:=Sb k (S+1) (Bq S) o;have W:=V.2 S (CK S);have T:=Vi k S (AY o);have s:(Gj a (S+1)).getD S 0=(Gj a S).getD S 0:=by
   rw[LA];exact(Sh k o T).2.me S (An _)
  have w:=Az (AB (W.trans s).symm) c;obtain⟨i,N,Z⟩:=Cr.mp ((Ny k).mpr ⟨x,z,rfl,C⟩);obtain⟨j,O,b⟩:=Cr.mp ((Ny k).mpr ⟨y,A,rfl,E⟩);have Q:i<=j:=by
   rcases Mt j i with q |q
   ·have:=G7.mp (TC) j i O N q;simp only[Z,b] at this;exact absurd (I5 (DQ _) H) (Nat.not_le_of_lt this)
   ·exact q
  have:=sG k o w T N Q O (x:=2^x) (y:=2^y) (by rw[Am,AA N];exact Z) (by rw[Am,AA O];exact b);rw[<-(by simp only[LA,GO,if_pos w]:Gj a (S+1)=Qd S (Ew a S) (Gj a S))] at this;exact Aa (V.1 _) (Aa this (Bv (AB (W.trans s).symm)))
 by_cases q:x<=y
 ·exact h z A C E q
 ·rw[show S|||2^x|||2^y=S|||2^y|||2^x by rw[Nat.or_assoc,Nat.or_comm (2^x),<-Nat.or_assoc]];exact h A z E C (G6 q)
theorem sV {r:Nat->Nat->Bool}{t:List Nat}(z:∀S x y,S<64->t.getD S 0<7->x<6->y<6->JL r S x=Ag->JL r S y=Ag->t.getD (S|||2^x|||2^y) 0<=t.getD S 0+1):∀(l:List (Nat×Nat))(D:List Nat)(S i:Nat),J8 D S->JJ r D l->t.getD S 0<=i->i+l.length<=6->t.getD 63 0<=i+l.length:=by
 intro l;induction l with
 |nil=>
  intro D S i o k h _;rw[<-Ru o k];exact Aa h (AS _ _)
 |cons A l s=>
  intro D S i o k h w;obtain⟨x,y⟩:=A;have e:=z S x y o.1 (Az h (Az (AS i _) (CP w))) k.1.1 k.2.1.1 (O6 o k.1) (O6 o k.2.1);have:=s _ _ (i+1) (SJ o k.1.1 k.2.1.1) k.2.2 (Aa e (Bv h)) (Aa (AB (Ch i 1 _)) w);exact Aa this (AB (Ch i 1 _))
theorem fU {r:Nat->Nat->Bool}{b:Nat->Nat}(h:GQ r b){l:List (Nat×Nat)}(C:JJ r [] l)(k:l.length<=6):(Gj b 64).getD 63 0<=l.length/\∃o,JJ r [] o/\o.length=(Gj b 64).getD 63 0:=by
 have z:(Gj b 64).getD 0 0=0:=by
  have:=(Sb h 64 (Aj 0 64) (An 64)).1 0;exact EK this (AZ _)
 have a:=sV (λ S x y=>Z4 h) l [] 0 0 PE C (AB z) (Aa (AB (Ct _)) k);rw[Ct] at a;refine⟨a,?_⟩;obtain⟨m,s,E⟩:=(Vi h 64 (An 64)).ga 63 (An _) (Az a (CP k));refine⟨m.reverse,?_,by simpa using E⟩;have:=Z3 m [] 63 s (λ x w=>by
  have A:=(Tv m 63 s).2 x w;rw[NK (P:=λ i=>(63:Nat).testBit i=Ag) (rfl) (rfl) (rfl) (rfl) (rfl) (rfl) x w] at A;exact of_decide_eq_true A.symm)
 simpa using this
end
structure PO (r:Nat->Nat->Bool):Prop where
 my:∀a,r a a=Av
 tr:∀a b c,r a b=Ag->r b c=Ag->r a c=Ag
 six:∀a b,r a b=Ag->a<6/\b<6
def D7 (k:Nat->Nat->Bool)(h:List Nat)(n:Nat):List Nat:=(((Ap h.length).reverse).filter λ i=>k n (h.getD i 6)).map (·+1)
def EB (k:Nat->Nat->Bool)(h:List Nat):List Nat:=(Ap 6).filter λ n=>!h.contains n&&(Ap 6).all λ b=>!k n b||h.contains b
def Io (h:Nat->Nat->Bool)(k:List Nat):List Nat:=(EB h k).filter λ n=>(EB h k).all λ m=>!Kh (D7 h k n) (D7 h k m)
def Il (h:Nat->Nat->Bool):Nat->List Nat
 |0=>[]
 |k+1=>Il h k++(Io h (Il h k)).take 1
section
theorem P2:Kh (a::c) (b::d)=if a==b then Kh c d else Eu b a:=rfl
theorem RQ {b:Type}{p q:b->Bool}{l:List b}(h:∀x∈l,p x=Ag->q x=Ag){a:b}(k:a∈l)(o:p a=Av)(s:q a=Ag):(l.filter p).length<(l.filter q).length:=by
 have e:(l.filter q).filter p=l.filter p:=(List.filter_filter).trans (Cs λ x w=>by
  cases e:p x with
  |false=>rfl
  |true=>exact h x w e)
 rw[<-e];exact List.length_filter_lt_length_iff_exists.mpr ⟨a,Ax.mpr ⟨k,s⟩,by rw[o];exact nofun⟩
theorem Oh {r:Nat->Nat->Bool}(h:EO r a b=Ag):r a b=Ag:=by unfold EO at h;rw[AG] at h;exact h.1
theorem PO.jf {r:Nat->Nat->Bool}(P:PO r):∀(n a b:Nat),((Ap 6).filter λ c=>r a c&&r c b).length<n->r a b=Ag->∃c,EO r a c=Ag/\(c=b\/r c b=Ag):=by
 intro n;induction n with
 |zero=>exact λ _ _ h=>absurd h (Hq _)
 |succ n w=>
  intro a b A h;by_cases q:EO r a b=Ag
  ·exact⟨b,q,.inl rfl⟩
  ·unfold EO at q;rw[h,Bool.true_and] at q;have C:((Ap 6).any λ c=>r a c&&r c b)=Ag:=by
    cases z:((Ap 6).any λ c=>r a c&&r c b) with
    |true=>rfl
    |false=>rw[z] at q;exact absurd rfl q
   obtain⟨c,hc,e⟩:=B9.mp C;have k:=e;simp only[AG] at k;have E:((Ap 6).filter λ d=>r a d&&r d c).length<((Ap 6).filter λ d=>r a d&&r d b).length:=RQ (λ d _ o=>by
    simp only[AG] at o ⊢;exact⟨o.1,P.tr _ _ _ o.2 k.2⟩) hc (by rw[P.my];exact H9 _) e
   obtain⟨d,H,s⟩:=w a c (Ao E (A7 A)) k.1;refine⟨d,H,.inr ?_⟩;rcases s with rfl |s
   ·exact k.2
   ·exact P.tr _ _ _ s k.2
theorem HU {a:Nat->Nat->Bool}:n∈EB a c↔n<6/\n∉c/\∀b<6,a n b=Ag->b∈c:=by
 unfold EB;simp only[Ax,Au,AG,C3,AR,CW,List.contains_eq_mem,decide_eq_false_iff_not,decide_eq_true_eq];constructor
 ·rintro⟨h,k,o⟩;exact⟨h,k,λ b s w=>(o b s).resolve_left (by rw[w];exact BI)⟩
 ·rintro⟨h,k,o⟩;exact⟨h,k,λ b s=>by cases q:a n b with
   |false=>exact .inl rfl
   |true=>exact .inr (o b s q)⟩
theorem PO.fb {r:Nat->Nat->Bool}(P:PO r){a:List Nat}(H:a.length<6):∃n,n∈EB (EO r) a:=by
 obtain⟨n,s,A⟩:∃n<6,n∉a:=by
  refine E5 λ h=>?_;have:=No IF λ x N=>E5 λ q=>h ⟨x,Au.mp N,q⟩;exact Ho (Ep this H)
 have C:∀k n,((Ap 6).filter (r n)).length<=k->n<6->n∉a->∃n,n∈EB (EO r) a:=by
  intro k;induction k with
  |zero=>
   intro n hk s A;refine⟨n,HU.mpr ⟨s,A,λ b o hc=>?_⟩⟩;have:=Ax.mpr ⟨Au.mpr o,Oh hc⟩;have:=Ma this;exact Ho (Ep hk this)
  |succ k O=>
   intro n hk s A;by_cases q:∀b<6,EO r n b=Ag->b∈a
   ·exact⟨n,HU.mpr ⟨s,A,q⟩⟩
   ·obtain⟨b,o,hc,E⟩:∃b<6,EO r n b=Ag/\b∉a:=E5 λ z=>q λ b o hc=>E5 λ w=>z ⟨b,o,hc,w⟩;exact O b (A7 (Ao (RQ (λ d _ Q=>P.tr _ _ _ (Oh hc) Q) (Au.mpr o) (P.my b) (Oh hc):((Ap 6).filter (r b)).length<((Ap 6).filter (r n)).length) hk)) o E
 exact C _ n (An _) s A
theorem Pa:∀l:List Nat,Kh l l=Av:=by
 intro l;induction l with
 |nil=>
  exact rfl
 |cons a l h=>
  simp[Kh,h]
theorem PZ:∀{a b c:List Nat},Kh a b=Ag->Kh c b=Av->Kh a c=Ag:=by
 intro a;induction a with
 |nil=>exact λ h _=>by contradiction
 |cons x a s=>
  intro b c h k;cases c with
  |nil=>rfl
  |cons y c=>?_
  cases b with
  |nil=>contradiction
  |cons z b=>?_
  simp only[P2,beq_iff_eq] at h k ⊢;have o:∀m n,Eu m n=Ag↔m<n:=λ m n=>JW DS;split at h<;>split at k<;>split
  ·exact s h k
  ·exact absurd (‹x=z›.trans ‹y=z›.symm) ‹¬x=y›
  ·exact absurd (‹x=y›.symm.trans ‹x=z›) ‹¬y=z›
  ·have:¬z<y:=λ q=>by rw[(o _ _).mpr q] at k;cases k
   exact(o _ _).mpr (‹x=z›.symm▸J1 (Bz this) ‹¬y=z›)
  ·exact absurd (‹x=y›.trans ‹y=z›) ‹¬x=z›
  ·exact(o _ _).mpr (‹y=z›.symm▸(o _ _).mp h)
  ·have:¬z<y:=λ q=>by rw[(o _ _).mpr q] at k;cases k
   exact absurd ((o _ _).mp h) (‹x=y›.symm▸this)
  ·have:¬z<y:=λ q=>by rw[(o _ _).mpr q] at k;cases k
   exact(o _ _).mpr (Az (Bz this) ((o _ _).mp h))
theorem SQ:∀{a b:List Nat},Kh a b=Ag->Kh b a=Av:=by
 intro a;induction a with
 |nil=>exact λ h=>by contradiction
 |cons x a o=>
  intro b h;cases b with
  |nil=>rfl
  |cons y b=>?_
  simp only[P2,beq_iff_eq] at h ⊢;have k:∀m n,Eu m n=Ag↔m<n:=λ m n=>JW DS;split at h
  ·rename_i e;subst e;rw[if_pos rfl];exact o h
  ·rw[if_neg λ e=>‹¬x=y› e.symm];cases q:Eu x y with
   |false=>rfl
   |true=>exact absurd ((k _ _).mp q) (Mv ((k _ _).mp h))
theorem dA {f:Nat->List Nat}:∀{l:List Nat}{a:Nat},a∈l->∃n∈l,∀m∈l,Kh (f n) (f m)=Av:=by
 intro l;induction l with
 |nil=>exact λ h=>(by contradiction)
 |cons x l s=>
  intro a _;cases l with
  |nil=>exact⟨x,Ad,λ m k=>by rw[Cf.mp k];exact Pa _⟩
  |cons y l=>?_
  obtain⟨n,A,o⟩:=s Ad;cases q:Kh (f n) (f x) with
  |false=>
   refine⟨n,Af _ A,λ m k=>?_⟩;rcases Ak.mp k with rfl |k
   ·exact q
   ·exact o m k
  |true=>
   refine⟨x,Ad,λ m k=>?_⟩;rcases Ak.mp k with rfl |k
   ·exact Pa _
   ·cases z:Kh (f x) (f m) with
    |false=>rfl
    |true=>
     have C:Kh (f x) (f n)=Av:=by
      cases w:Kh (f x) (f n) with
      |false=>rfl
      |true=>have:=PZ w (Pa (f n));have t:=PZ q (Pa _);exact absurd (q.symm.trans (SQ w)) nofun
     have:=PZ z (by
      cases w:Kh (f n) (f m) with
      |false=>rfl
      |true=>replace w:=Eq.trans (Eq.symm (o m k)) w;contradiction)
     replace this:=C.symm.trans this;contradiction
end
section
variable {o:List Nat}
def D8 (r:Nat->Nat->Bool)(h:List Nat):Prop:=∀i<h.length,h.getD i 6∈Io (EO r) (h.take i)
theorem PJ {a:Nat->Nat->Bool}(h:n∈Io a o):n∈EB a o:=(Ax.mp h).1
theorem cZ {a:Nat->Nat->Bool}(h:n∈Io a o)(k:m∈EB a o):Kh (D7 a o n) (D7 a o m)=Av:=by
 have:=AR.mp (Ax.mp h).2 m k;simpa using this
theorem LH {r:Nat->Nat->Bool}(P:PO r):∀k,k<=6->(Il (EO r) k).length=k:=by
 intro k;induction k with
 |zero=>
  intro _;exact rfl
 |succ k o=>
  intro h;have s:=o (AY h);obtain⟨a,w⟩:=P.fb (Az (AB s) h);obtain⟨n,z,A⟩:=dA w;have C:n∈Io (EO r) (Il (EO r) k):=Ax.mpr ⟨z,AR.mpr λ m E=>by rw[A m E];rfl⟩;simp only[Il,AQ,s,Dd];exact congrArg (k+·) (DA (Ma C))
theorem cC {r:Nat->Nat->Bool}(P:PO r):∀k,k<=6->D8 r (Il (EO r) k):=by
 intro k;induction k with
 |zero=>
  intro _;exact λ i o=>by contradiction
 |succ k s=>
  intro h;exact λ i o=>by
   have w:=LH P k (AY h);have A:=LH P (k+1) h;rw[A] at o;have e:Il (EO r) (k+1)=Il (EO r) k++(Io (EO r) (Il (EO r) k)).take 1:=rfl;by_cases q:i<k
   ·have C:=Ao q (AB w.symm);have:=(s (AY h)) i C;rw[e,List.take_append_of_le_length (AY C),Am,Ks C,<-Am];exact this
   ·have:=EK (A7 o) (Bz q);subst this;have E:∀a b,a.length=i->b≠[]->(a++b.take 1).take i=a/\(a++b.take 1).getD i 6∈b:=λ a b h N=>by
     match b,N with
     |x::t,_=>subst h;simp
    have H:Io (EO r) (Il (EO r) i)≠[]:=λ z=>by simp only[e,z,AQ,w] at A;simp at A
    have g:=E _ _ w H;rw[e,g.1];exact g.2
theorem D8.at_ {r:Nat->Nat->Bool}(k:D8 r o)(h:i<o.length):o[i]<6/\o[i]∉o.take i/\∀b<6,EO r o[i] b=Ag->b∈o.take i:=by
 have:=HU.mp (PJ (k i h));rw[Am,AA h] at this;exact this
theorem D8.nd {r:Nat->Nat->Bool}(k:D8 r o):o.Nodup:=by
 refine G7.mpr λ i j s w h e=>?_;refine(k.at_ w).2.1 ?_;rw[<-e];exact Cr.mpr ⟨i,by rw[Dd];exact Mu.mpr ⟨h,s⟩,HZ⟩
theorem D8.lt {r:Nat->Nat->Bool}(h:D8 r o):∀x∈o,x<6:=λ x k=>by
 obtain⟨i,s,rfl⟩:=Cr.mp k;exact(h.at_ s).1
theorem D8.below {r:Nat->Nat->Bool}(C:D8 r o)(P:PO r):∀i,(w:i<o.length)->∀b,r o[i] b=Ag->b∈o.take i:=by
 intro i;induction i using Nat.strongRecOn with |ind i E=>?_
 intro w b h;obtain⟨c,z,s⟩:=P.jf _ _ _ (CK _) h;have hc:=(C.at_ w).2.2 c (P.six _ _ (Oh z)).2 z;rcases s with rfl |s
 ·exact hc
 ·skip
  obtain⟨j,A,rfl⟩:=Cr.mp hc;have k:j<i/\j<o.length:=by simp only[Dd] at A;exact Mu.mp A
  rw[HZ] at s;exact(JU o (AY k.1)) (E j k.1 k.2 b s)
theorem UA {nx:Nat->Nat->Bool}(o:∀x∈b,nx n x=Av):D7 nx (a++b) n=D7 nx a n:=by
 unfold D7;congr 1;have:Ap (a++b).length=Ap a.length++(Ap b.length).map (a.length+·):=by rw[AQ,List.range_add]
 rw[this,List.reverse_append,List.filter_append];have s:((Ap b.length).map (a.length+·)).reverse.filter (λ i=>nx n ((a++b).getD i 6))=[]:=by
  refine DO.mpr λ i k=>?_;rw[E0,AH] at k;obtain⟨j,w,rfl⟩:=k;have h:=Au.mp w;rw[Am,List.getElem?_append_right (AS (BR a) j),Nat.add_sub_cancel_left,AA h];simp[o b[j] (Dg h)]
 rw[s,D1];refine Cs λ i k=>?_;rw[Am,Ks (Au.mp (E0.mp k)),<-Am]
theorem fW {b:Nat->Nat->Bool}{a:List Nat}(h:b n m=Ag):D7 b (a++[m]) n=(a.length+1)::D7 b a n:=by
 unfold D7;rw[AQ,MU,List.range_succ,List.reverse_append,List.reverse_singleton,List.singleton_append,FN];have:(a++[m]).getD a.length 6=m:=by simp
 rw[this,h,if_pos rfl,Bl];congr 2;refine Cs λ i k=>?_;rw[Am,Ks (Au.mp (E0.mp k)),<-Am]
theorem nJ {b:Nat->Nat->Bool}{a:List Nat}:∀x∈D7 b a n,x<=a.length:=λ x h=>by
 obtain⟨i,k,rfl⟩:=AH.mp h;have:=Au.mp (E0.mp (Ax.mp k).1);exact this
theorem D8.jd {r:Nat->Nat->Bool}(w:D8 r o)(P:PO r)(hk:k<=o.length)(C:i<k)(z:o.getD i 6=x):∀m,i<=m->m<=o.length->D7 (EO r) o x=D7 (EO r) (o.take m) x:=λ m E O=>by
 have h:i<o.length:=Ao C hk;rw[Am,AA h] at z;have s:o[i]=x:=z;subst s;have e:=UA (nx:=EO r) (a:=o.take m) (b:=o.drop m) (n:=o[i]) λ y H=>by
  cases q:EO r o[i] y with
  |false=>rfl
  |true=>
   exfalso;have N:=(w.at_ h).2.2 y (P.six _ _ (Oh q)).2 q;have A:=w.nd;rw[<-E7 m o] at A;exact(HX.mp A).2.2 y (JU o E N) y H rfl
 rw[E7] at e;exact e
theorem D8.ae {r:Nat->Nat->Bool}(w:D8 r o)(P:PO r)(k:i+1<o.length):Kh (D7 (EO r) o (o.getD i 6)) (D7 (EO r) o (o.getD (i+1) 6))=Av:=by
 have E:=w.jd P (An _) k rfl (i+1) (An _) (AY k);rw[(w.jd P (An _) (AY k) rfl i (An _) (AY (Nat.lt_of_succ_lt k))),E];have s:i<o.length:=AY k;have C:o.take (i+1)=o.take i++[o[i]]:=by rw[List.take_add_one,AA s];rfl
 have g:o.getD (i+1) 6=o[i+1]:=by rw[Am,AA k];rfl
 have A:=w.at_ k;rw[C];cases q:EO r o[i+1] o[i] with
 |true=>
  rw[g,fW q]
  match H:D7 (EO r) (o.take i) (o.getD i 6) with
  |[]=>rfl
  |x::t=>
   have:=nJ x (by rw[H];exact Ad);have N:(o.take i).length=i:=by simp;exact DA (AY s)
   rw[N] at this ⊢;simp only[P2,beq_iff_eq];refine Eq.trans (if_neg (Cu (CP this))) ?_;cases z:Eu (i+1) x with
   |false=>rfl
   |true=>exact(Nat.not_succ_le_self i (CQ (Aa ((JW DS).mp z) this))).elim
 |false=>
  rw[g,UA (λ x O=>by rw[Cf.mp O];exact q)];refine cZ (w i s) (HU.mpr ⟨A.1,λ z=>A.2.1 (JU o (AS i 1) z),λ b Q hc=>?_⟩);have:=A.2.2 b Q hc;rw[C,AL,Cf] at this;rcases this with h |rfl
  ·exact h
  ·replace hc:=q.symm.trans hc;exact BI hc
end
theorem Lg {b:Type} [BEq b] {a:b->b->Bool}{left:List b}:DW a (t+1) left=(if(Gc a left).isEmpty then(DW a t (Gb a left)).1 else(DW a t (Gb a left)).1+1,(DW a t (Gb a left)).2):=rfl
theorem RI {d c:Type} [BEq d] [LawfulBEq d] [BEq c] [LawfulBEq c] {f:d->c}{e:c->c->Bool}(l:List d):Gc e (l.map f)=(Gc (λ a b=>e (f a) (f b)) l).map f:=by
 simp only[Gc];simp only[Hn,Hm];congr 2;refine Cs λ x _=>?_;simp only[Function.comp,List.any_map];rfl
theorem YU {d c:Type} [BEq d] [LawfulBEq d] [BEq c] [LawfulBEq c] {f:d->c}{nx:c->c->Bool}{l:List d}(k:∀a∈l,∀b∈l,f a=f b->a=b):Gb nx (l.map f)=(Gb (λ a b=>nx (f a) (f b)) l).map f:=by
 unfold Gb;rw[Hn,RI];congr 1;refine Cs λ x s=>?_;simp only[Function.comp];congr 1;apply BJ.mpr;rw[E8,E8,AH];constructor
 ·rintro⟨y,o,e⟩;have:=(Ax.mp (List.mem_of_mem_take o)).1;exact k y this x s e▸o
 ·intro h;exact⟨x,h,rfl⟩
theorem RH {d c:Type} [BEq d] [LawfulBEq d] [BEq c] [LawfulBEq c] {f:d->c}{nx:c->c->Bool}:∀(n:Nat)(l:List d),(∀a∈l,∀b∈l,f a=f b->a=b)->DW nx n (l.map f)=((DW (λ a b=>nx (f a) (f b)) n l).1,(DW (λ a b=>nx (f a) (f b)) n l).2.map f):=by
 intro n;induction n with
 |zero=>exact λ _ _=>rfl
 |succ n k=>
  intro l h;have e:(Gc nx (l.map f)).isEmpty=(Gc (λ a b=>nx (f a) (f b)) l).isEmpty:=by rw[RI];simp
  rw[Lg,(YU (nx:=nx) h),(k (Gb (λ a b=>nx (f a) (f b)) l) λ a o b s=>h a (Ax.mp o).1 b (Ax.mp s).1),e];rfl
theorem fA {a:Type} [BEq a] {nx:a->a->Bool}:∀(n:Nat)(l:List a),(DW nx n l).1<=n:=by
 intro n;induction n with
 |zero=>exact λ _=>An _
 |succ n h=>
  intro l;have:=h (Gb nx l);rw[Lg];show(if(Gc nx l).isEmpty=Ag then _ else _)<=n+1;split
  ·exact BD this
  ·exact Bv this
theorem Ov {f:Type} [BEq f] {d c:f->f->Bool}:∀(n:Nat)(l:List f),(∀a∈l,∀b∈l,d a b=c a b)->DW d n l=DW c n l:=by
 intro n;induction n with
 |zero=>
  intro l _;exact rfl
 |succ n o=>
  intro l h;have e:Gc d l=Gc c l:=by
   unfold Gc;congr 1;refine Cs λ x w=>?_;congr 1;apply BJ.mpr;simp;exact⟨λ⟨a,k,s⟩=>⟨a,k,h a k x w▸s⟩,λ⟨a,k,s⟩=>⟨a,k,(h a k x w).symm▸s⟩⟩
  have z:Gb d l=Gb c l:=by unfold Gb;rw[e]
  have A:=o (Gb d l) λ a C b E=>h a (Ax.mp C).1 b (Ax.mp E).1;simp only[Lg,e,<-z,A]
section
variable {o:List Nat}
def OK (h:List Nat)(p:Nat):Nat:=h.getD (5-p) 6
def Nh (r:Nat->Nat->Bool)(h:List Nat)(p q:Nat):Bool:=Eu p 6&&(Eu q 6&&r (OK h p) (OK h q))
theorem Jf {r:Nat->Nat->Bool}(h:p<6)(k:q<6):Nh r o p q=r (OK o p) (OK o q):=by
 unfold Nh;rw[show Eu p 6=Ag from(JW DS).mpr h,show Eu q 6=Ag from(JW DS).mpr k];rfl
theorem O1 {r:Nat->Nat->Bool}(h:Nh r o p q=Ag):p<6/\q<6/\r (OK o p) (OK o q)=Ag:=by
 unfold Nh at h;simp only[AG,AG] at h;exact⟨(JW DS).mp h.1,(JW DS).mp h.2.1,h.2.2⟩
theorem D8.sg {r:Nat->Nat->Bool}(s:D8 r o)(w:o.length=6)(z:p<6):OK o p<6/\∃h:5-p<o.length,OK o p=o[5-p]:=by
 have k:5-p<o.length:=w.symm▸CP (J0 5 p);have e:OK o p=o[5-p]:=by unfold OK;rw[Am,AA k];rfl
 exact⟨e▸(s.at_ k).1,k,e⟩
theorem D8.gf {r:Nat->Nat->Bool}(h:D8 r o)(k:o.length=6)(s:p<6)(w:q<6)(e:OK o p=OK o q):p=q:=by
 obtain⟨_,C,z⟩:=h.sg k s;obtain⟨_,E,A⟩:=h.sg k w;have:=(List.getElem_inj h.nd).mp (z.symm.trans (e.trans A));exact(LU (A7 s)).symm.trans ((congrArg (5-·) this).trans (LU (A7 w)))
theorem D8.all {r:Nat->Nat->Bool}(k:D8 r o)(s:o.length=6)(z:x<6):∃p<6,OK o p=x:=by
 have:x∈o:=by
  refine E5 λ q=>?_;have:=No (BA.mpr ⟨q,k.nd⟩) λ y h=>by
   rcases Ak.mp h with rfl |h
   ·exact Au.mpr z
   ·exact Au.mpr (k.lt y h)
  simp[s] at this
 obtain⟨i,w,rfl⟩:=Cr.mp this;refine⟨5-i,CP (J0 5 i),?_⟩;unfold OK;rw[LU (A7 (Ao w (AB s))),Am,AA w];rfl
theorem D8.lj {r:Nat->Nat->Bool}(k:D8 r o)(P:PO r)(A:o.length=6):ZD (Nh r o) where
 six:=λ p q h=>(O1 h).2.1
 tr:=λ p q s w C=>by
  obtain⟨a,b,c⟩:=O1 w;obtain⟨_,d,e⟩:=O1 C;refine Eq.trans (Jf a d) ?_;exact P.tr _ _ _ c e
 jw:=λ p q h=>by
  obtain⟨a,b,c⟩:=O1 h;obtain⟨_,w,H⟩:=k.sg A a;obtain⟨_,C,N⟩:=k.sg A b;rw[H] at c;have:=k.below P (5-p) w _ c;simp only[N] at this;obtain⟨j,E,e⟩:=Cr.mp this;simp only[Dd] at E;rw[HZ] at e;have:=(List.getElem_inj k.nd).mp e;exact Nat.lt_of_not_le λ z=>Nat.not_le_of_lt (this▸(Mu.mp E).1) (Nat.sub_le_sub_left z 5)
theorem D8.cvr {r:Nat->Nat->Bool}(A:D8 r o)(P:PO r)(C:o.length=6)(s:p<6)(w:q<6):EO (Nh r o) p q=EO r (OK o p) (OK o q):=by
 unfold EO;rw[Jf s w];congr 2;apply BJ.mpr;simp;constructor
 ·rintro⟨c,hc,h,k⟩;rw[Jf s hc] at h;rw[Jf hc w] at k;exact⟨_,(A.sg C hc).1,h,k⟩
 ·rintro⟨c,hc,h,k⟩;obtain⟨d,z,rfl⟩:=A.all C hc;exact⟨d,z,by rw[Jf s z];exact h,by rw[Jf z w];exact k⟩
theorem D8.fallP {r:Nat->Nat->Bool}(s:D8 r o)(P:PO r)(k:o.length=6)(w:p<6):UB (Nh r o) p=D7 (EO r) o (OK o p):=by
 delta UB D7
 rw[k,show(Ap 6).reverse=(Ap 6).map (5-·) from rfl,Hn,Be]
 have e:=Cs λ q h=>by
  refine Eq.trans (s.cvr P k w (Au.mp h)) ?_;rfl
 rw[e];refine EM λ q h=>?_;have:=Au.mp (Ax.mp h).1;exact Nat.succ_sub (A7 this)
theorem D8.gt {r:Nat->Nat->Bool}(h:D8 r o)(P:PO r)(k:o.length=6):∀p<5,ON (Nh r o) p=Ag:=λ p s=>by
 unfold ON;rw[h.fallP P k (CP s),h.fallP P k (Nat.le.step s)];have:=h.ae P (i:=4-p) (k.symm▸IM (CP (J0 4 p)));unfold OK;rw[show 5-(p+1)=4-p from Nat.succ_sub_succ 4 p,show 5-p=4-p+1 from Nat.succ_sub (A7 s),this];rfl
theorem D8.kf {r:Nat->Nat->Bool}(s:D8 r o)(P:PO r)(w:o.length=6){c:Nat->Nat}(m:GQ r c):DW (EO r) 6 o.reverse=((Gj c 64).getD 63 0,[]):=by
 have O:=s.lj P w;have n:=vH (P:=λ o=>o.reverse=[0,1,2,3,4,5].map (OK o)) (λ _ _ _ _ _ _=>rfl) o w;have Q:∀a∈[0,1,2,3,4,5],∀b∈[0,1,2,3,4,5],OK o a=OK o b->a=b:=λ a V b W=>by
  have z:∀x∈[0,1,2,3,4,5],x<6:=by decide
  exact s.gf w (z a V) (z b W)
 have z:∀x∈[0,1,2,3,4,5],x<6:=by decide
 rw[n,RH 6 _ Q,(Ov 6 _ λ a V b W=>(s.cvr P w (z a V) (z b W)).symm)];obtain⟨d,G,C⟩:=(tE O (s.gt P w));have t:∀p q,Nh r o p q=Ag->p∈[0,1,2,3,4,5]->q∈[0,1,2,3,4,5]:=λ p q h _=>by
  have:=O.six _ _ h;exact NK (by decide) (by decide) (by decide) (by decide) (by decide) (by decide) q this
 obtain⟨l,f,u⟩:=Vq O 6 [0,1,2,3,4,5] [] ⟨λ x k=>.inr (NK (by decide) (by decide) (by decide) (by decide) (by decide) (by decide) x k),z,λ x _=>by exact BH⟩ t d
 let g:Nat->Nat:=λ x=>5-o.idxOf x
 have Z:∀x<6,g (OK o x)=x:=λ x k=>by
  obtain⟨_,h,e⟩:=s.sg w k;show 5-o.idxOf (OK o x)=x;rw[e,GL s.nd];exact LU (A7 k)
 have E:∀x<6,OK o (g x)=x:=λ x k=>by
  obtain⟨p,A,rfl⟩:=s.all w k;exact congrArg _ (Z p A)
 have H:∀x<6,g x<6:=λ x _=>by exact CP (J0 5 (List.idxOf x o))
 obtain⟨i,v,y,B⟩:=fU m (TM (r:=Nh r o) (r':=r) (f:=OK o) (g:=g) (λ x k=>(s.sg w k).1) H Z E (λ p q A N=>(Jf A N).symm) l [] (by simp) u) (by rw[Al,f];exact(fA (nx:=EO (Nh r o)) 6 [0,1,2,3,4,5]));have j:=TM (r':=Nh r o) H (λ x k=>(s.sg w k).1) E Z (λ p q A N=>by rw[Jf (H p A) (H q N),E p A,E q N]) v [] (by simp) y;simp only[Al,f] at i;have D:(DW (EO (Nh r o)) 6 [0,1,2,3,4,5]).1<=(Gj c 64).getD 63 0:=by
  rw[<-B];refine Bz λ q=>?_;rcases C with C |C
  ·have:=u4 j;simp only[Al] at this;exact EY _ (Ao (Az this q) (AB C))
  ·have:=bT _ [] 0 ((DW (EO (Nh r o)) 6 [0,1,2,3,4,5]).1-1) PE j (by rw[Al];exact Nat.le_sub_one_of_lt q)
   replace this:=C.symm.trans this;exact BI this
 rw[d,List.map_nil,(EK D i)]
end
def V3 (h:Eo):Option FF:=match h.data with | .func fd=>Ab fd |_=>Ah
variable {a:List Ae} in
def Uz (h:Eo):Option (Array Ae):=match h.data with | .fields a=>Ab a |_=>Ah
variable {a:Ai} in
def uZ:Ae->Option Ai
 | .ref a=>Ab a
 |_=>Ah
theorem V2 (h:V3 o=Ab fd):o.data=.func fd:=by
 obtain⟨k,s,d,w⟩:=o;cases d with
 |func f=>exact congrArg Data.func (AN h)
 |_=>contradiction
theorem SY (h:Uz o=Ab a):o.data=.fields a:=by
 obtain⟨k,s,d,w⟩:=o;cases d with
 |fields f=>exact congrArg Data.fields (AN h)
 |_=>contradiction
theorem bE (h:uZ v=Ab a):v=.ref a:=by
 cases v with
 |ref b=>exact congrArg BK (AN h)
 |_=>contradiction
theorem eP {v:Ae}(h:v.isStr q=Ag):∃t,v=.str q t:=by
 cases v with
 |str x t=>exact⟨t,congrArg (Value.str · t) (BQ h)⟩
 |_=>contradiction
def V8 (K:Frag)(a:Ai):FF:=((K.lookup a).bind V3).getD default
variable {r:List Bs} in
def PA:List As->Bool
 |[]=>Ag
 |x::r=>!r.contains x&&PA r
theorem Oq:∀{l:List As},PA l=Ag->l.Nodup:=by
 intro l;induction l with
 |nil=>
  intro _;exact .nil
 |cons x r k=>
  intro h;simp only[PA] at h;simp only[AG] at h;refine BA.mpr ⟨λ q=>?_,k h.2⟩
  replace h:=(E8.mpr q)▸h;cases h.1
def nC (K:Frag)(a:Ai)(h:List As):Option Bool:=(K.lookup a).bind λ o=>(V3 o).bind λ fd=>(uZ fd.code).bind λ c=>(K.lookup c).bind λ k=>(Uz k).bind λ s=>(s[1]?).map λ v=>
 (o.cls== .type "function")&&((k.cls== .type "code")&&(v.isStr fd.qualname&&(fd.closure.isEmpty&&(!fd.scope.isCoroutine&&(!fd.scope.isGenerator&&((fd.scope.kind== .function)&&((fd.globals==Ce)&&((fd.builtins==Ji)&&
  (h.all (λ x=>D5 x&&(fd.scope.names.lookup x==Ab .local||fd.scope.names.lookup x==Ab .cell))&&(PA h&&(PA (fd.scope.names.map (·.1))&&fd.scope.names.all (λ p=>!(p.2== .free)))))))))))))
theorem Fm {a:Ai}{b:List Bs}{d:List As}{K:Frag}(I:K.In W.h0)(A:W.h0.NoLimit)(hc:nC K a d=Ab Ag)(j:(V8 K a).body=.stmts b)
 (k:∀(h:List Ae)(s:Aq),BB W W.h0 s.heap->h.length=d.length->BindsTo s (V8 K a) ⟨h,[]⟩ (d.zip h)):Gw W a (V8 K a) d b:=by
 refine Jt λ l C=>?_;obtain⟨o,Z,hc⟩:=AM.mp hc;obtain⟨m,e,hc⟩:=AM.mp hc;obtain⟨c,w,hc⟩:=AM.mp hc;obtain⟨n,E,hc⟩:=AM.mp hc;obtain⟨p,q,hc⟩:=AM.mp hc;obtain⟨v,z,hc⟩:=Bp.mp hc;refine C ?_;have H:V8 K a=m:=by unfold V8;rw[Z];exact congrArg (·.getD default) e
 generalize V8 K a=f at*;cases H;refine Jt λ l C=>?_;obtain⟨r,hc⟩:=AC.mp hc;obtain⟨u,hc⟩:=AC.mp hc;obtain⟨y,hc⟩:=AC.mp hc;obtain⟨B,hc⟩:=AC.mp hc;obtain⟨D,hc⟩:=AC.mp hc;obtain⟨G,hc⟩:=AC.mp hc;obtain⟨J,hc⟩:=AC.mp hc;obtain⟨L,hc⟩:=AC.mp hc;obtain⟨M,hc⟩:=AC.mp hc;obtain⟨R,hc⟩:=AC.mp hc;obtain⟨N,hc⟩:=AC.mp hc;obtain⟨O,Q⟩:=AC.mp hc;obtain⟨t,rfl⟩:=eP y;refine C ?_;have g:=BQ r;have i:=BQ u;exact⟨⟨o,I _ _ Z,V2 e,g▸by decide,g▸by decide⟩,⟨c,n,p,t,bE w,I _ _ E,SY q,z,i▸by decide,i▸by decide⟩,j,k,De.mp B,(C3 _).mp D,(C3 _).mp G,BQ J,BQ L,BQ M,
  λ x V=>by
   have z:=AC.mp (AR.mp R x V);exact⟨z.1,(Bool.or_eq_true_iff.mp z.2).imp BQ BQ⟩,Oq N,Oq O,λ x V=>BI (show Av=Ag from AR.mp Q (x,.free) (mem_of_lookup V)),A⟩
noncomputable abbrev P1:FD:=PySem.Challenge.pw_oy0180_02
def JR (b:List Bs):List Bs×Bg×CE×CE×CE×CE:=((LY b 0).b 0,(LY b 0).sc,(LY b 0).p,((LY b 0).e 0).p,((LY b 1).e 0).p,(LY b 1).p)
def LQ:List Bs:=BG P1 1
def dX:List Bs:=(JR LQ).1
def xG:Bg:=(JR LQ).2.1
def PT:CE:=(JR LQ).2.2.1
def U':CE:=(JR LQ).2.2.2.1
def T? :CE:=(JR LQ).2.2.2.2.1
def T! :CE:=(JR LQ).2.2.2.2.2
def Kb:List As:=["__init__","__lt__","__gt__","__eq__","__le__","__ge__"]
def Iv:As:="cmp_to_key.<locals>.K"
def rK (h:Ai)(i:Nat):L8:=(La h dX).getD i ⟨"","","",default,default,[],default,default,[]⟩
theorem So (h:Ai):La h dX=[rK h 0,rK h 1,rK h 2,rK h 3,rK h 4,rK h 5]:=by kernel_rfl
theorem yH {g:Type}{P:g->Prop}{a b c d e f:g}(k:P a)(o:P b)(s:P c)(w:P d)(z:P e)(A:P f):∀x∈[a,b,c,d,e,f],P x:=λ x h=>by
 simp only[Ak,BH,or_false] at h;rcases h with rfl |rfl |rfl |rfl |rfl |rfl<;>assumption
theorem Lb {a:GA}(h:V.names.all (λ p=>!(p.2==a))=Ag):∀x,V.names.lookup x≠Ab a:=λ x e=>by
 have:=AR.mp h (x,a) (mem_of_lookup e);simp at this
theorem cP (r:L8)(s:(!r.sc.isCoroutine&&!r.sc.isGenerator&&(r.sc.kind== .function)&&r.sc.names.all (λ p=>!(p.2== .cell))&&D5 r.x&&D5 r.y&&(r.sc.names.lookup r.x==Ab .local)&&(r.sc.names.lookup r.y==Ab .local)&&!(r.x==r.y))=Ag)
 (w:∀(h:As)(k:List (As×Ai))(z A C a b:Ae),Tq (Wf r.name h (OU r.x r.y r.px r.py) r.body r.sc k z A C) ⟨[a,b],[]⟩=pure [(r.x,a),(r.y,b)]):UU r:=by
 simp only[AG] at s;obtain⟨⟨⟨⟨⟨⟨⟨⟨E,H⟩,N⟩,O⟩,Q⟩,V⟩,W⟩,Z⟩,c⟩:=s;refine⟨by simpa using E,by simpa using H,BQ N,λ x o q=>?_,λ x o=>?_,?_,w⟩
 ·have:=AR.mp O x o
  (replace this:=(q)▸this;exact BI this)
 ·simp only[Ak,BH,or_false] at o;rcases o with rfl |rfl
  ·exact⟨Q,BQ W⟩
  ·exact⟨V,BQ Z⟩
 ·simp[(by simpa using c)]
theorem pZ (r:L8)(k:Ai)(o:CmpOp)(T:UU r)(h:(r.sc.names.lookup ("mycmp":As)==Ab .free&&r.sc.names.all (λ p=>!(p.2== .free)||p.1=="mycmp")&&!(r.x==r.y)&&!(r.x=="mycmp")&&!(r.y=="mycmp"))=Ag)(hc:r.bk=[(("mycmp":As),k)])
 (s:∃w z A C E H N O Q,∃V:Nat,r.body=[.Return (Ab (.Compare (.Call (.Name "mycmp" w) [.Attribute (.Name r.x z) "obj" A,.Attribute (.Name r.y C) "obj" E] [] H) [o] [.Constant (.int 0) V N] O)) Q]):o5 r k o:=by
 simp only[AG] at h;refine⟨T,hc,BQ h.1.1.1.1,λ x W=>?_,⟨by simpa using h.1.1.2,by simpa using h.1.2,by simpa using h.2⟩,s⟩;have:=AR.mp h.1.1.1.2 (x,.free) (mem_of_lookup W);exact BQ (this)
def mP (r:L8):Nat->CE:=Ni (λ p=>[.Assign [.Attribute (.Name r.x (p 0)) "obj" (p 1)] (.Name r.y (p 2)) (p 3)]) r.body
def mC (r:L8):Nat->CE:=Ni (λ p=>[.Return (Ab (.Compare (.Call (.Name "mycmp" (p 0)) [.Attribute (.Name r.x (p 1)) "obj" (p 2),.Attribute (.Name r.y (p 3)) "obj" (p 4)] [] (p 5)) [.Lt] [.Constant (.int 0) 0 (p 6)] (p 7))) (p 8)]) r.body
theorem sD:XM dX Kb where
 abs:=⟨by decide+kernel,by decide+kernel,by decide+kernel⟩
 lq:=λ h=>⟨rK h 0,by rw[So];exact Ad,by kernel_rfl,cP _ (by kernel_rfl) (λ _ _ _ _ _ _ _=>by kernel_rfl),by kernel_rfl,Lb (by kernel_rfl),by
  have:((rK h 0).x==(rK h 0).y)=Av:=by kernel_rfl
  exact of_decide_eq_false (this),mP (rK h 0) 0,mP (rK h 0) 1,mP (rK h 0) 2,mP (rK h 0) 3,by kernel_rfl⟩
 lt:=λ h=>⟨rK h 1,by rw[So];simp,by kernel_rfl,pZ _ _ _ (cP _ (by kernel_rfl) (λ _ _ _ _ _ _ _=>by kernel_rfl)) (by kernel_rfl) (by kernel_rfl) ⟨mC (rK h 1) 0,mC (rK h 1) 1,mC (rK h 1) 2,mC (rK h 1) 3,mC (rK h 1) 4,mC (rK h 1) 5,mC (rK h 1) 6,mC (rK h 1) 7,mC (rK h 1) 8,0,by kernel_rfl⟩⟩
 gt:=λ h=>⟨rK h 2,by rw[So];simp,by kernel_rfl,pZ _ _ _ (cP _ (by kernel_rfl) (λ _ _ _ _ _ _ _=>by kernel_rfl)) (by kernel_rfl) (by kernel_rfl) ⟨mC (rK h 2) 0,mC (rK h 2) 1,mC (rK h 2) 2,mC (rK h 2) 3,mC (rK h 2) 4,mC (rK h 2) 5,mC (rK h 2) 6,mC (rK h 2) 7,mC (rK h 2) 8,0,by kernel_rfl⟩⟩
def mG (c:Ai):Eo:=Me #[BS PT.line,BS PT.col,.ref c]
def dW (v:Nat->Ae)(P:Ai):Eo:={cls:=.type "code",data:=.fields #[v 0,v 1,v 2,v 3,v 4,v 5,v 6,v 7,v 8,v 9,v 10,.ref P,v 12,v 13,v 14,v 15,v 16,v 17,v 18]}
def YL (m:Nat->Ai)(i:Nat):List Ae:=[BS (rK 0 i).pos.line,BS (rK 0 i).pos.col,.ref (m i)]
def dS (m:Nat->Ai):Eo:=Me (YL m 0++YL m 1++YL m 2++YL m 3++YL m 4++YL m 5).toArray
structure tV (h:AT)(c P:Ai)(v:Nat->Ae)(m:Nat->Ai):Prop where
 ji:h.get? 16=Ab (mG c)
 code:h.get? c=Ab (dW v P)
 sub:h.get? P=Ab (dS m)
 k8:190<c/\190<P
 db:∀i<6,Da h (.ref (m i)) ((Iv++".")++(rK 0 i).name)
def z9 (h:AT):Prop:=h.get? 16=Ab (Me #[])\/∃c P v m,tV h c P v m
def o0 (o:List (Ai×Ai×List (CE×As)))(h:AT):Prop:=z9 h/\∀t∈o,∃k,FH h t.1 t.2.1 k/\Pe h k t.2.2
theorem Vj (T:FH h c P a)(C:∀b o z,h.get? b=Ab o->o.data=.fields z->(o.cls=.none\/o.cls=.type "code")->H.get? b=Ab o):FH H c P a:=by
 obtain⟨o,z,s,N,k,O,A,w,Q,V,hc,E,r⟩:=T.hd;exact⟨⟨o,z,s,N,k,O,A,w,Q,C _ _ _ V E (.inr hc),hc,E,r⟩,C _ _ _ T.at_ rfl (.inl rfl),T.ok⟩
theorem NG (x:Da h f q)(s:∀b o k,h.get? b=Ab o->o.data=.fields k->(o.cls=.none\/o.cls=.type "code")->H.get? b=Ab o):Da H f q:=
 by obtain⟨c,o,k,t,a,b,hc,d,e⟩:=x;exact⟨c,o,k,t,a,s _ _ _ b d (.inr hc),hc,d,e⟩
theorem X3 {v:Nat->Ae}{m:Nat->Ai}(T:tV h c P v m)(k:∀b o s,h.get? b=Ab o->o.data=.fields s->(o.cls=.none\/o.cls=.type "code")->H.get? b=Ab o):tV H c P v m:=
 ⟨k _ _ _ T.ji rfl (.inl rfl),k _ _ _ T.code rfl (.inr rfl),k _ _ _ T.sub rfl (.inl rfl),T.k8,λ i w=>NG (T.db i w) k⟩
theorem X2 (s w:AT)(h:∀b o z,s.get? b=Ab o->o.data=.fields z->(o.cls=.none\/o.cls=.type "code")->w.get? b=Ab o)
 (T:o0 d s):o0 d w:=by
 refine⟨?_,λ t A=>let⟨C,E,H⟩:=T.2 t A;⟨C,Vj E h,λ r N O k=>NG (H r N O k) h⟩⟩;rcases T.1 with a |⟨c,P,v,m,a⟩
 ·exact .inl (h _ _ _ a rfl (.inl rfl))
 ·exact .inr ⟨c,P,v,m,X3 a h⟩
theorem Xa (C:W.di=o0 j)(Z:d∈W.TB)(E:(g,d,f)∈j)(H:16≠d)(N:d<=190)(l:∀t∈j,t=(g,d,f)\/(t.1≠d/\t.2.1≠d))(w:∀a∈f,∀b∈f,a.1.line=b.1.line->a.1.col=b.1.col->a=b):iV W g d f where
 mem:=Z
 k9:=w
 get:=λ h t=>by simp only[C] at t;exact t.2 _ E
 fg:=λ h n R O t hP k T G=>by
  simp only[C] at t ⊢;obtain⟨t1,L⟩:=t;obtain⟨p,Q,S⟩:=L _ E;have z:BC d h n:=λ b o q e=>k b o q e;refine⟨?_,λ V s=>?_⟩
  ·rcases t1 with a |⟨c,P,v,m,a⟩
   ·exact .inl (k _ _ H a)
   ·exact .inr ⟨c,P,v,m,k _ _ H a.ji,k _ _ (Dz (Az N a.k8.1)) a.code,k _ _ (Dz (Az N a.k8.2)) a.sub,a.k8,λ i u=>(a.db i u).ext Q z⟩
  ·rcases l V s with rfl |⟨x,y⟩
   ·exact⟨_,T,G⟩
   ·obtain⟨B,D,I⟩:=L V s;exact⟨B,D.extBut z x y,λ r J M A=>(I r J M A).ext Q z⟩
def O7:List Bs:=BG P1 43
def E3 (i:Nat):Bs:=O7.getD i (.Pass default)
def EV.jl (l:EV):Ea×Expr×Bg×CE:=(l.ar,l.x 0,l.sc,l.p)
def J7:List Bs:=BG P1 40
def Fo:List Bs:=(LY J7 1).b 0
def MK:Ea×Expr×Bg×CE:=(((Ir (Fo.getD 2 (.Pass default))).e 0).e 1).jl
def PP:Ea×Expr×Bg×CE:=((JE ((((Ir (E3 21)).e 0).ks.map (·.value)).getD 0 default)).e 1).jl
def Nt:Ea×Expr×Bg×CE:=(((Ir (E3 23)).e 0).e 1).jl
def uF:List (CE×As):=[(PP.2.2.2,"law.<locals>.<lambda>"),(Nt.2.2.2,"law.<locals>.<lambda>")]
def yJ:List (CE×As):=[(MK.2.2.2,"_law_numbered.<locals>.<lambda>")]
def xE:List (Ai×Ai×List (CE×As)):=[(172,170,yJ),(187,185,uF)]
def W1 (h:World)(k:AT):BV:=⟨P1,h,k,[16,170,185],o0 xE,X2⟩
noncomputable abbrev K1 (h:World):Frag:=hk.1 h.params
def ob (h:World)(a:Ai):Eo:=((K1 h).lookup a).getD {cls:=.none,data:=.plain}
variable {b:List (As×PV)} in
def n5 (h:World)(a:Ai):Array DictEntry:=match(ob h a).data with | .dict b _=>b |_=> #[]
def zS (h:World)(a:Ai):Nat:=match(ob h a).data with | .dict _ k=>k |_=>0
theorem kU {m:As->Option Ae}(I:(K1 w).In h)(s:(K1 w).lookup a=Ab (ob w a))(z:(ob w a).data=.dict (n5 w a) (zS w a))(A:h.Ns a m)(x:As):m x=Ie (n5 w a) x:=by
 obtain⟨o,H,N,k,C,_,E⟩:=A
 replace k:=Eq.trans (Eq.symm (I _ _ s)) k;cases k
 cases z.symm.trans C
 exact(E x).symm
theorem Ej {b:Bd->Option Ae}(I:(K1 w).In h)(T:Top c a b mg mb h)(x:As):mg x=Ie (n5 w 3) x:=kU I rfl rfl T.g x
theorem PD {v:Ae}{a:List As}{b:Bd->Option Ae}{c:FD}(T:Top c a b mg mb h){x:As}(k:x≠"__name__")(e:bootBuiltins x=Ab v):mb x=Ab v:=(T.builtins x k).trans e
theorem X1 (I:(K1 w).In h)(k:∀P∈[16,170,185],h.get? P=Ab (Me #[])):(W1 w h).di h:=
 ⟨.inl (k 16 Ad),λ t o=>by
   simp only[xE,Ak,BH,or_false] at o;rcases o with rfl |rfl
   ·exact⟨#[],⟨Pc I rfl,k 170 (by decide),trivial⟩,λ r s z q=>by cases q⟩
   ·exact⟨#[],⟨Pc I rfl,k 185 (by decide),trivial⟩,λ r s z q=>by cases q⟩⟩
theorem gL {c:List (CE×As)}(h:(c.all λ a=>c.all λ b=>!(a.1.line==b.1.line&&a.1.col==b.1.col)||decide (a=b))=Ag):∀a∈c,∀b∈c,a.1.line=b.1.line->a.1.col=b.1.col->a=b:=by
 intro a k b o s w;have:=AR.mp (AR.mp h a k) b o;rw[s,w] at this;simpa using this
theorem vM:iV (W1 w h) 187 185 uF:=Xa rfl (by show(185:Nat)∈[16,170,185];decide) (.tail _ (.head _)) (by decide) (AO rfl) (by unfold xE;decide) (gL (by decide+kernel))
theorem vL:iV (W1 w h) 172 170 yJ:=Xa rfl (by show(170:Nat)∈[16,170,185];decide) (.head _) (by decide) (AO rfl) (by unfold xE;decide) (gL (by decide+kernel))
theorem tG {b:Bd->Option Ae}(I:(K1 w).In h)(T:Top c a b mg mb h):∀f:BF,mg f.name=Ah/\mb f.name=Ab f.val:=λ f=>by
 cases f<;>exact⟨(Ej I T _).trans rfl,PD T (by decide+kernel) rfl⟩
section
set_option genInjectivity false
set_option genSizeOfSpec false
variable {n:Nat}{t:Expr}{hs:AT} in
structure Pz where
 w:World
 n:Nat
 t:Nat
 hz:Nat
 oa:List Ai
 O:List Eo
 fs:List Nat
 hs:List (List Nat)
 iL:Nat
 iN:Nat
 iK:Nat
 iS:Nat
 tS:Nat
def wE (h:World):FF:=match(ob h 21).data with | .func fd=>fd |_=>default
variable (z:Pz)
def Pz.G (h:Nat):Gv:=⟨h,P1,z.w.params,z.n+50,z.t,z.oa⟩
def Pz.ii:E9:=B5 (wE z.w) z.hz 21
def Pz.nj (k x:Nat)(h:Ot)(p:Pl)(t:DJ Fin):Ot:=vS (z.G k) (z.fs.getD x 0) (z.hs.getD x []) p t h.T h.m h.i h.O
def Pz.nx (k x:Nat)(h:Ot)(t:DJ Fin):Ot:=z.nj k x h h.pl t
def Pz.start:Ot:=⟨Ah,.pure (.done .next),[],0,0,z.O,[]⟩
def xZ (t:DJ Fin):List (OJ×CE)->DJ Fin:=match t with
 | .stack k=>k
 |t=>λ _=>t
noncomputable abbrev ad (h:Nat):Ae:=.ref (z.n+50+h)
def Pz.t0 (e:DJ Unit):DJ Fin:=C4 (zV e "K" Iv [.type "object"] [] dX xG ["obj"] PT.line z.ii PT Ah) λ v=>.pure (.done (.ret v))
def Pz.A1 (m:List (OJ×CE)->DJ Unit):Ot:=z.nx 0 0 z.start (z.t0 (C4 stack m))
def Pz.U (m:DJ Unit):DJ Fin:=xZ (z.A1 λ _=>m).t []
def Pz.A2 (st:List (OJ×CE)):Ot:=vS (z.G 0) 1 [101] (z.A1 Tn).pl (z.U (Tn st)) (z.A1 Tn).T (z.A1 Tn).m (z.A1 Tn).i (z.A1 Tn).O
def Pz.rA:Ot:=z.nx 0 1 (z.A1 Tn) (z.U (.pure ()))
def Pz.fw:Args:=⟨[.type "type",.str "K" z.t,ad z 0,ad z 2],[]⟩
def Pz.B (h:Nat)(a:Ae->DJ (Option Ae))(b:List Ae->DJ (List Ae))(j:Ae->List Ae->DJ Bool):Ot:=z.nx h 2 z.rA (xR a b j z.fw)
def Pz.fv:Args:=⟨[ad z z.iN,ad z z.iL],[]⟩
def Pz.rC (h:Nat)(a:Ae->DJ (Option Ae))(b:List Ae->DJ (List Ae))(j:Ae->List Ae->DJ Bool)(k:Ae->Ae->Bool):Ot:=z.nj h 3 (z.B 0 WY VN (qA gE)) (z.B 0 a b j).pl (yV (y7 k) z.fv)
def Pz.D (h:Nat)(a:Ae->DJ (Option Ae))(b:List Ae->DJ (List Ae))(j:Ae->List Ae->DJ Bool):Ot:=z.nj h 4 (z.rC 0 WY VN (qA gE) SL) (z.rC 0 a b j SL).pl (z.rC (h+1) a b j λ _ _=>Av).t
def mH:List Ae:=[.type "object"]
def hN (_:Ae):DJ (Option Ae):=.pure Ah
def lN (_:List Ae):DJ (List Ae):=.pure mH
def Pz.rE:Ot:=z.nx 0 5 (z.D 0 WY VN (qA gE)) (z.D 2 hN lN λ _ _=>.pure Av).t
def Pz.fu:Args:=⟨[ad z z.iS,ad z z.iK,ad z z.iK],[]⟩
def Pz.F (h:Nat)(j:List Ae->Ae->Bool):Ot:=z.nx h 6 z.rE (x5 (x7 (qM j)) z.fu)
def Pz.G2:Ot:=z.nx 0 7 (z.F 0 UF) (z.F 1 λ _ _=>Ag).t
def Pz.ft:Args:=⟨[ad z z.iS,.str "__init_subclass__" (z.t+z.tS)],[]⟩
def Pz.Hh (h:Nat)(j:Nat->Nat->Bool):Ot:=z.nx h 8 z.G2 (y0 (jm j) z.ft)
def Pz.I:Ot:=z.nx 0 9 (z.Hh 0 QI) (z.Hh 1 λ _ _=>Ag).t
def z1 (h:World)(n t k:Nat)(o:Array (Option Ae)):Pz:=⟨h,n,t,k,[16,2,3,4,20],[Me #[],ob h 2,ob h 3,⟨.type "module",Ab 0,.plain,o⟩,ob h 20],[34,260,10,1,22,50,3,13,5,24],[[1,2,104,100,100,100,100,102,103,102],[2,2,102,2,2,2,2,2,2,2,2,2,2,2,2,2,2,2,5,4,4,4,4,102,103,102,2,2,2,5,4,4,4,4,102,103,102,2,2,2,5,4,4,4,4,102,103,102,2,2,2,5,4,4,4,4,102,103,102,2,2,2,5,4,4,4,4,102,103,102,2,2,2,5,4,4,4,4,102,103,102,2,2,2,2,2,2,2,2,2],[0,2,0,2,2,7],[7],[7,56,56,56,56,56,57,57,57,58,58,58,57,57,57,57,57,57,57],[58,58,58,58,58,58,58,57,57,57,57,57,58,58,58,58,57,57,57,57,57,57,57,7,14,22,30,38,46,54,55,59,58,60,60,60],[58,58,58],[60,60,60,60,60,60,60,60],[60,60,60,101,58],[58,58,61,58,58,58,58,58,58,58]],7,56,58,60,76⟩
def z2 (h:World)(n t k:Nat)(o:Array (Option Ae))(c P:Ai)(v:Nat->Ae)(m:Nat->Ai):Pz:=⟨h,n,t,k,[16,2,3,4,20,c,P],[mG c,ob h 2,ob h 3,⟨.type "module",Ab 0,.plain,o⟩,ob h 20,dW v P,dS m],[22,159,10,1,22,50,3,13,5,24],[[1,2,104,100,102,103,102],[2,2,102,2,2,2,2,2,2,2,2,2,2,2,2,2,2,2,105,106,102,103,102,2,2,2,105,106,102,103,102,2,2,2,105,106,102,103,102,2,2,2,105,106,102,103,102,2,2,2,105,106,102,103,102,2,2,2,105,106,102,103,102,2,2,2,2,2,2,2,2,2],[0,2,0,2,2,4],[4],[4,17,17,17,17,17,18,18,18,19,19,19,18,18,18,18,18,18,18],[19,19,19,19,19,19,19,18,18,18,18,18,19,19,19,19,18,18,18,18,18,18,18,4,5,7,9,11,13,15,16,20,19,21,21,21],[19,19,19],[21,21,21,21,21,21,21,21],[21,21,21,101,19],[19,19,22,19,19,19,19,19,19,19]],4,17,19,21,23⟩
end
section
set_option genInjectivity false
set_option genSizeOfSpec false
def Lz (h:Ot):Prop:=h.ab.map (·.1)=h.ab.map (·.2)
theorem Lz.all {b:Ot}(h:Lz b):∀x∈b.ab,x.1=x.2:=by
 unfold Lz at h
 revert h
 generalize b.ab=l;intro h;induction l with
 |nil=>exact λ _ q=>(by cases q)
 |cons a l k=>
  simp only[Bl,Bl,List.cons.injEq] at h;intro x o;cases o with
  |head=>exact h.1
  |tail _ q=>exact k h.2 x q
noncomputable abbrev jG:Ae->List Ae->DJ Bool:=qA gE
variable (z:Pz)
variable {p1 p2:CE} in
structure XH:Prop where
 s1:∀K,(z.A1 K).t=.stack (xZ (z.A1 K).t)
 s2:∀K st,xZ (z.A1 K).t st=z.U (K st)
 s3:∀st,(z.A2 st).t=z.U (xF st 1000)
 p1:(z.A1 Tn).pl=Ah
 p2:∀st,(z.A2 st).pl=Ah
 t2:∀st,(z.A2 st).T=(z.A1 Tn).T
 m2:∀st,(z.A2 st).m=(z.A1 Tn).m
 i2:∀st,(z.A2 st).i=(z.A1 Tn).i
 o2:∀st,(z.A2 st).O=(z.A1 Tn).O
 a1:Lz (z.A1 Tn)
 a2:∀st,Lz (z.A2 st)
 aA:Lz z.rA
 aB:Lz (z.B 0 WY VN jG)
 aC:Lz (z.rC 0 WY VN jG SL)
 aD:Lz (z.D 0 WY VN jG)
 aE:Lz z.rE
 aF:Lz (z.F 0 UF)
 aG:Lz z.G2
 aH:Lz (z.Hh 0 QI)
 aI:Lz z.I
 eA:z.rA.t=xR WY VN jG z.fw
 eB:(z.B 0 WY VN jG).t=yV (y7 SL) z.fv
 eC:∀a b j j2,(z.rC 0 a b j j2).t=(z.rC 1 a b j (λ _ _=>j2 (ad z z.iN) (ad z z.iL))).t
 eD1:∀a b j,(z.D 0 a b j).t=C4 (a (.type "type")) (λ v=>(z.D 0 (λ _=>.pure v) b j).t)
 eD2:∀b j,(z.D 0 hN b j).t=C4 (b [.type "object"]) (λ v=>(z.D 0 hN (λ _=>.pure v) j).t)
 eD3:∀j,(z.D 0 hN lN j).t=C4 (j (ad z z.iK) [ad z z.iK,.type "object"]) (λ v=>(z.D 2 hN lN (λ _ _=>.pure v)).t)
 eE:z.rE.t=x5 (x7 (qM UF)) z.fu
 eF:∀j,(z.F 0 j).t=(z.F 1 (λ _ _=>j [ad z z.iK,.type "object"] (ad z z.iK))).t
 eG:z.G2.t=y0 rb z.ft
 eH:∀j,(z.Hh 0 j).t=(z.Hh 1 (λ _ _=>j (z.n+50+z.iK) (z.n+50+z.iK))).t
 eI:z.I.t=.pure (.done (.ret (ad z z.iK)))
 pI:z.I.pl=Ah
theorem uX (h:World)(n t k:Nat)(o:Array (Option Ae)):XH (z1 h n t k o):=by
 constructor<;>intros<;>(try unfold Lz)<;>kernel_rfl
theorem uW (h:World)(n t k:Nat)(o:Array (Option Ae))(c P:Ai)(v:Nat->Ae)(m:Nat->Ai):XH (z2 h n t k o c P v m):=by
 constructor<;>intros<;>(try unfold Lz)<;>kernel_rfl
end
section
theorem rZ (h:a≠b):SL (.ref a) (.ref b)=Av:=by
 exact decide_eq_false h
theorem n6 (v:Ae)(l:List Ae):UF (v::l) v=Ag:=by
 unfold UF;rw[<-PySem.W.Fast.te7966671052430208091,<-PySem.W.Fast.te3471404346716756564,Hr,beq_self_eq_true,Bool.true_or]
theorem nD:nE (.ref a) [.ref a,.type "object"]=mH:=by
 unfold nE;rw[<-PySem.W.Fast.te7966671052430208091,<-PySem.W.R.filterR_eq,Lv (by rw[bne_self_eq_false];exact DC),Lu rfl];rfl
theorem oV:@List.anyM DJ Ez Ae gE mH=.pure Av:=rfl
theorem tO:jG (.ref a) [.ref a,.type "object"]=.pure Av:=by
 show@List.anyM DJ Ez Ae gE (nE (.ref a) [.ref a,.type "object"])=_;rw[nD,oV]
theorem lH:WY (.type "type")=.pure Ah:=rfl
theorem r9:VN [.type "object"]=.pure mH:=rfl
def E! (h:Eo)(st:List (OJ×CE))(t:DJ Unit):DJ Unit:=match t with
 | .stack k=>k st
 | .load _ _ k=>k h
 |t=>t
theorem vO (st:List (OJ×CE)):xF st 1000=E! {cls:=.none,data:=.dict #[] 0} st (E! {cls:=.none,data:=.dict #[] 0} st (PySem.W.X.enterQ 0)):=by
 have h:PySem.W.X.enterQ 0=C4 stack Tn:=by
  rw[<-pW,<-PySem.W.X.enterQ_eq];show _=Ey 0;rw[PySem.W.Fast.te15066281185411960212]
 rw[h];kernel_rfl
theorem mF {st:List (OJ×CE)}(l:PySem.W.X.Lies A st)(h:A.depth<OY):xF st 1000=.pure ():=by
 rw[vO];show cond (X.nearF st 0 1000) _ (cond (X.overF st 0 1000) _ (cond (X.warmF st 0 1000) _ (pure ())))=_;rw[show X.nearF st 0 1000=Av from l.near' h 0,show X.overF st 0 1000=Av from l.over h 0,show X.warmF st 0 1000=Av from l.warm h 0];rfl
section
variable {Q:Fin->Aq->Prop}
noncomputable abbrev Ow (k:Pz)(o:Dj)(s:Fin->Aq->Prop)(w:Jc)(h:AT)(g:Array CC)(d:M8)(os:GZ)(z:Ot):Prop:=OS P1 k.w o s w (k.G 0) h g d os z
theorem Ow.nx {g:Array CC}{c:AT}{os:GZ}{j:Pz}{d:M8}{b i:Ot}{p:Pl}{f:Nat}{l:List Nat}{t:DJ Fin}(a:Lz b)(x:Ow j A Q E c g d os i)(k:i=vS (j.G 0) f l p t b.T b.m b.i b.O)(o:p=b.pl)(e:b.t=t):Ow j A Q E c g d os b:=
 ⟨a.all,λ h D=>by subst o;exact e▸P3 ⟨rfl,rfl⟩ _ _ _ _ _ _ _ _ h D (k▸x)⟩
theorem Wl {g:Array CC}{a:AT}{os:GZ}{b:Pz}{d:M8}(R:XH b)(k:b.iN≠b.iL)(o:A.depth<OY)(x:Ow b A Q E a g d os b.I):Ow b A Q E a g d os (b.A1 Tn):=by
 have s:Ow b A Q E a g d os b.G2:=.nx R.aG (.nx R.aH x (by rfl) rfl (by rw(occs:=.all) [R.eH,Nat.beq_refl _])) (by rfl) rfl (R.eG.trans (by rw[sF]));have w:Ow b A Q E a g d os b.rE:=.nx R.aE (.nx R.aF s (by rfl) rfl (by rw(occs:=.all) [R.eF,n6])) (by rfl) rfl R.eE;have z:Ow b A Q E a g d os (b.D 0 WY VN jG):=by
  refine .nx R.aD w (by rfl) rfl ?_;rw(occs:=.all) [R.eD1,lH];refine(R.eD2 VN jG).trans ?_;rw[r9];refine(R.eD3 jG).trans ?_;rw[tO];rfl
 have C:Ow b A Q E a g d os (b.rC 0 WY VN jG SL):=by
  refine .nx R.aC z (by rfl) rfl ?_;rw[R.eC,rZ λ e=>k (Nat.add_left_cancel e)]
 have H:Ow b A Q E a g d os b.rA:=.nx R.aA (.nx R.aB C (by rfl) rfl R.eB) (by rfl) rfl R.eA;have N:∀st,PySem.W.X.Lies A st->Ow b A Q E a g d os (b.A2 st):=λ st l=>.nx (R.a2 st) H (by rw[R.t2,R.m2,R.i2,R.o2];rfl) (R.p1.trans (R.p2 st).symm) (by rw[R.s3,mF l o]);refine⟨R.a1.all,λ h D=>?_⟩;rw[R.p1,R.s1];refine Mn.stack λ st l=>?_;rw[R.s2];have y:=N st l;unfold Pz.A2 at y;rw[R.p1] at y;exact P3 ⟨rfl,rfl⟩ _ _ _ _ _ _ _ _ h D y
end
end
section
set_option genInjectivity false
set_option genSizeOfSpec false
variable (z:Pz)
variable {a:List Ae} in
def U9 (h:Option Eo):Array Ae:=match h with
 |some ⟨_,_,.fields a,_⟩=>a
 |_=> #[]
noncomputable abbrev at_ (h:Nat):Ai:=z.n+50+h
def Pz.pm:Ae:=(Ie (n5 z.w 3) "__name__").getD .none
def Pz.mr (i:Nat):L8:=rK (z.hz+1) i
def Pz.qual (i:Nat):As:=(Iv++".")++(z.mr i).name
def Pz.lp (i:Nat)(h k:Ae):Eo:=Xx (z.mr i).name (z.qual i) (OU (z.mr i).x (z.mr i).y (z.mr i).px (z.mr i).py) (z.mr i).body (z.mr i).sc (z.mr i).bk z.pm h k
def Od (k:World)(h:As)(o:Nat)(v:Ae):DictEntry:=⟨PyData.keyHash k.params h,.str h o,v⟩
def ZM (h:World)(k:Nat->Nat)(u:Nat->Ae):Array DictEntry:= #[Od h "__module__" (k 0) (u 0),Od h "__firstlineno__" (k 1) (u 1),Od h "__slots__" (k 2) (u 2),Od h "__init__" (k 3) (u 3),Od h "__lt__" (k 4) (u 4),Od h "__gt__" (k 5) (u 5),Od h "__eq__" (k 6) (u 6),Od h "__le__" (k 7) (u 7),Od h "__ge__" (k 8) (u 8),Od h "__hash__" (k 9) (u 9),Od h "__static_attributes__" (k 10) (u 10),Od h "obj" (k 11) (u 11),Od h "__doc__" (k 12) (u 12)]
structure Wz (tk:Nat->Nat)(u:Nat->Ae)(f:Nat->Nat)(cv:Nat->Ae):Prop where
 cls:∃sl,z.I.T[z.iK]? =Ab ⟨.type "type",Ah,.cls {G? (at_ z z.iK) (at_ z (z.iK-1)) "K" Iv with hasDict:=Av,slotNames:=["obj"]},sl⟩/\(sl[4]?).join=Ab (.builtin "object.__new__")
 mem:∃tk,z.I.T[z.iK+1]? =Ab (VI "obj" tk (at_ z z.iK))
 ns:z.I.T[z.iK-1]? =Ab (gR (ZM z.w tk u) 3)
 um:∀i<6,u (3+i)=.ref (at_ z (f i))
 uo:u 11=.ref (at_ z (z.iK+1))
 ud:u 12=.none
 mt:∀i<6,∃ct,z.I.T[f i]? =Ab (z.lp i (cv i) ct)
theorem l6 {P:Nat->Prop}(a:P 0)(b:P 1)(c:P 2)(d:P 3)(e:P 4)(f:P 5):∀i<6,P i
 |0,_=>a |1,_=>b |2,_=>c |3,_=>d |4,_=>e |5,_=>f
  |n+6,h=>absurd h (Ho (Ep h (Aj (BZ 6) n)))
section
variable (w:World)(n t hz:Nat)(sl:Array (Option Ae))
theorem S? :Wz (z1 w n t hz sl) (λ i=>t+[8,12,16,24,33,42,51,60,69,70,72,74,75].getD i 0) (λ i=>[.str "cpy313.functools" (t+13),.int 4 (t+11),.ref (n+50+7),.ref (n+50+14),.ref (n+50+22),.ref (n+50+30),.ref (n+50+38),.ref (n+50+46),.ref (n+50+54),.none,.ref (n+50+55),.ref (n+50+59),.none].getD i .none) (λ i=>14+8*i) (λ i=>ad (z1 w n t hz sl) (13+8*i)) where
 cls:=⟨#[Ab (.ref (n+50+0)),Ah,Ab (.str "K" t),Ab (.str Iv (t+9)),Ab (.builtin "object.__new__"),Ab (.bool Av)],by kernel_rfl,rfl⟩
 mem:=⟨t+73,by kernel_rfl⟩
 ns:=by kernel_rfl
 um:=l6 rfl rfl rfl rfl rfl rfl
 uo:=rfl
 ud:=rfl
 mt:=l6 ⟨.none,by kernel_rfl⟩ ⟨.ref (n+50+15),by kernel_rfl⟩ ⟨.ref (n+50+23),by kernel_rfl⟩ ⟨.ref (n+50+31),by kernel_rfl⟩ ⟨.ref (n+50+39),by kernel_rfl⟩ ⟨.ref (n+50+47),by kernel_rfl⟩
theorem S! (c P:Ai)(v:Nat->Ae)(m:Nat->Ai):Wz (z2 w n t hz sl c P v m) (λ i=>t+[2,6,10,11,12,13,14,15,16,17,19,21,22].getD i 0) (λ i=>[.str "cpy313.functools" (t+7),.int 4 (t+5),.ref (n+50+4),.ref (n+50+5),.ref (n+50+7),.ref (n+50+9),.ref (n+50+11),.ref (n+50+13),.ref (n+50+15),.none,.ref (n+50+16),.ref (n+50+20),.none].getD i .none) (λ i=>5+2*i) (λ i=>.ref (m i)) where
 cls:=⟨#[Ab (.ref (n+50+0)),Ah,Ab (.str "K" t),Ab (.str Iv (t+3)),Ab (.builtin "object.__new__"),Ab (.bool Av)],by kernel_rfl,rfl⟩
 mem:=⟨t+20,by kernel_rfl⟩
 ns:=by kernel_rfl
 um:=l6 rfl rfl rfl rfl rfl rfl
 uo:=rfl
 ud:=rfl
 mt:=l6 ⟨.none,by kernel_rfl⟩ ⟨.ref (n+50+6),by kernel_rfl⟩ ⟨.ref (n+50+8),by kernel_rfl⟩ ⟨.ref (n+50+10),by kernel_rfl⟩ ⟨.ref (n+50+12),by kernel_rfl⟩ ⟨.ref (n+50+14),by kernel_rfl⟩
variable {c:Ai}{q:CE}{m:As->Option Ae} in
structure t7 (vv:Nat->Nat->Ae):Prop where
 c:(z1 w n t hz sl).I.T[5]? =Ab (dW (vv 6) (n+50+4))
 tb:(z1 w n t hz sl).I.T[4]? =Ab (dS λ i=>n+50+(13+8*i))
 o:(z1 w n t hz sl).I.O[0]? =Ab (mG (n+50+5))
 q:∃tk,vv 6 1=.str Iv tk
 m:∀i<6,∃tk vs,(z1 w n t hz sl).I.T[13+8*i]? =Ab {cls:=.type "code",data:=.fields vs}/\vs[1]? =Ab (.str ((z1 w n t hz sl).qual i) tk)
theorem a? :t7 w n t hz sl λ _ k=>(U9 ((z1 w n t hz sl).I.T[5]?)).getD k .none where
 c:=by kernel_rfl
 tb:=by kernel_rfl
 o:=by kernel_rfl
 q:=⟨t+3,by kernel_rfl⟩
 m:=l6 ⟨t+18,U9 ((z1 w n t hz sl).I.T[13]?),by kernel_rfl,by kernel_rfl⟩ ⟨t+26,U9 ((z1 w n t hz sl).I.T[21]?),by kernel_rfl,by kernel_rfl⟩ ⟨t+35,U9 ((z1 w n t hz sl).I.T[29]?),by kernel_rfl,by kernel_rfl⟩ ⟨t+44,U9 ((z1 w n t hz sl).I.T[37]?),by kernel_rfl,by kernel_rfl⟩ ⟨t+53,U9 ((z1 w n t hz sl).I.T[45]?),by kernel_rfl,by kernel_rfl⟩ ⟨t+62,U9 ((z1 w n t hz sl).I.T[53]?),by kernel_rfl,by kernel_rfl⟩
end
end
section
set_option genInjectivity false
set_option genSizeOfSpec false
theorem oU:@buildClass=zV (C4 stack Tn):=by
 rw[PySem.W.Fast.te1785580099245652887,tL,pW]
theorem HD.start (s:h.objs.size=n)(w:∀(k:Nat)(a:Ai)(o:Eo),(P::b)[k]? =Ab a->c[k]? =Ab o->h.get? a=Ab o)(z:∀a∈P::b,a<n)(A:P∉b):HD n (P::b) h h [] 0 c:=
 ⟨s,s,rfl,λ _ _ e=>((by contradiction)),w,λ _ _ e _=>e,z,λ k a C E=>by
   cases E
   cases k with
   |zero=>rfl
   |succ k=>exact absurd (Cq (l:=b) C) A⟩
section
theorem Qm {P:Ai}{g:Array CC}{os:GZ}{z:Pz}{d:M8}(R:XH z)(C:z.iN≠z.iL){b:List Ai}(O:z.oa=P::b)(W:P∉b)(Z:A.depth<OY)(c:h.objs.size=z.n+50)
 (e:∀(k:Nat)(a:Ai)(o:Eo),(P::b)[k]? =Ab a->z.O[k]? =Ab o->h.get? a=Ab o) (i:∀a∈P::b,a<z.n+50)
 (j:∀w,HD (z.n+50) (P::b) h w z.I.T z.I.m z.I.O->Q (ad z z.iK) ⟨w,g,d,z.t+z.I.i,os⟩):
 Aw (model P1 z.w) A (buildClass "K" Iv [.type "object"] [] dX xG ["obj"] PT.line z.ii PT Ah) Q E ⟨h,g,d,z.t,os⟩:=by
 let V:Fin->Aq->Prop:=λ H s=>match H with | .done (.ret v)=>Q v s |_=>False
 have x:Ow z A V E h g d os z.I:=⟨R.aI.all,λ w D=>by rw[R.pI,R.eI];exact Ar (j w (O▸D))⟩;have y:=Wl R C Z x;have D:HD (z.G 0).n (z.G 0).oa h h [] 0 z.O:=by
  show HD (z.n+50) z.oa h h [] 0 z.O;rw[O];exact HD.start c e i W
 have m:Mn P1 z.w A V E Ah (z.t0 (C4 stack Tn)) ⟨h,g,d,z.t+0,os⟩:=by
  unfold Pz.A1 Pz.nx Pz.nj at y;exact P3 ⟨rfl,rfl⟩ _ _ _ _ _ _ _ _ h D y
 intro l p N;have k:=m l p N;unfold Pz.t0 at k;rw[<-oU,<-PySem.W.R.bindR_eq] at k;rw[show ∀a f,Sem.bind a f=a >>=f from λ _ _=>rfl,Sem.wp_bind'] at k;exact k
end
section
def dT:List As:=["__module__","__firstlineno__","__slots__","__init__","__lt__","__gt__","__eq__","__le__","__ge__","__hash__","__static_attributes__","obj","__doc__"]
theorem PU {a:Nat->Nat}{u:Nat->Ae}:(ZM w a u).toList.map (·.key)=dT.zipIdx.map λ x=>.str x.1 (a x.2):=rfl
theorem mK {a:Nat->Nat}{u:Nat->Ae}:StrKeys (ZM w a u):=λ e h=>by
 have q:e.key∈(ZM w a u).toList.map (·.key):=DT (IR.mpr h)
 rw[PU] at q;obtain⟨x,_,k⟩:=AH.mp q;exact⟨_,_,k.symm⟩
theorem dU {c:Nat->Nat}{u:Nat->Ae}:UniqKeys (ZM w c u):=by
 have q:((ZM w c u).toList.map (·.key)).Pairwise λ a b=>∀n,a.isStr n=Ag->b.isStr n=Ag->False:=by
  rw[PU,List.pairwise_map];refine List.Pairwise.imp (R:=λ a b=>a.1≠b.1) (λ h n k o=>h ?_) (by decide+kernel);exact(BQ k).trans (BQ o).symm
 exact List.pairwise_map.mp q
theorem Uk {a:Nat->Nat}{u:Nat->Ae}(h:x∉dT):Ie (ZM w a u) x=Ah:=by
 simp only[Ie,findBy];rw[Option.map_eq_none_iff,Array.find?_eq_none];intro e k;have q:e.key∈(ZM w a u).toList.map (·.key):=DT (IR.mpr k)
 rw[PU] at q;obtain⟨y,o,hk⟩:=AH.mp q;rw[<-hk];intro z;exact h (BQ z▸(List.mem_zipIdx o).2.2▸Dg _)
end
end
set_option genInjectivity false
set_option genSizeOfSpec false
section
def kM (h:World)(k:Nat->Nat)(u:Nat->Ae)(x:As):Option Ae:=if x="obj"\/x="__doc__" then Ah else Ie (ZM h k u) x
theorem Sq (h:Ai):∀i<6,(rK h i).name=Kb.getD i "":=l6 rfl rfl rfl rfl rfl rfl
theorem mJ (h:World)(k:Nat->Nat)(u:Nat->Ae)(o:i<6)(s:Ai):kM h k u (rK s i).name=Ab (u (3+i)):=by
 rw[Sq s i o];exact l6 (P:=λ i=>kM h k u (Kb.getD i "")=Ab (u (3+i))) (by unfold kM;rfl) (by unfold kM;rfl) (by unfold kM;rfl) (by unfold kM;rfl) (by unfold kM;rfl) (by unfold kM;rfl) i o
theorem mI {b:Pz}{c:Nat->Nat}{u:Nat->Ae}(h:Qk.contains x=Av)(o:x∉Kb):kM b.w c u x=Ah:=by
 unfold kM;split
 ·rfl
 ·rename_i q;refine Uk λ s=>?_;rcases(by decide+kernel:∀k∈dT,Qk.contains k=Ag\/k∈Kb\/k="obj"\/k="__doc__") x s with a |a |a
  ·cases h.symm.trans a
  ·exact o a
  ·exact q a
theorem sE {a:Pz}{b:Nat->Nat}{u:Nat->Ae}(x:As)(h:u 11=.ref c)(k:u 12=.none):Ie (ZM a.w b u) x=ZY (ZY (tB (kM a.w b u) "__qualname__") "obj" (.ref c)) "__doc__" .none x:=by
 delta ZY tB
 split
 ·rename_i e;subst e;exact(show Ie (ZM a.w b u) "__doc__"=Ab (u 12) by kernel_rfl).trans (congrArg Ab k)
 ·rename_i o;split
  ·rename_i e;subst e;exact(show Ie (ZM a.w b u) "obj"=Ab (u 11) by kernel_rfl).trans (congrArg Ab h)
  ·rename_i s;split
   ·rename_i e;subst e;exact Uk (by decide+kernel)
   ·unfold kM;rw[if_neg λ q=>q.elim s o]
theorem dP {b:Pz}{c f:Nat->Nat}{u d:Nat->Ae}(F:Wz b c u f d)(D:HD (b.n+50) g h H b.I.T b.I.m b.I.O)(hc:∀i<6,Da H (d i) (b.qual i)):iW H (at_ b b.iK) Iv "obj" b.pm Kb (La (b.hz+1) dX):=by
 obtain⟨E,w,z⟩:=F.cls;obtain⟨s,A⟩:=F.mem;refine⟨kM b.w c u,⟨_,_,_,s,D.new _ _ w,rfl,rfl,rfl,z,⟨⟨_,_,D.new _ _ F.ns,mK,dU,λ x=>sE x F.uo F.ud⟩⟩,D.new _ _ A⟩,?_,λ x=>mI⟩;have k:∀i<6,∃a,kM b.w c u (rK (b.hz+1) i).name=Ab (.ref a)/\MY H a ((Iv++".")++(rK (b.hz+1) i).name) b.pm (rK (b.hz+1) i):=λ i o=>by
  obtain⟨C,e⟩:=F.mt i o;exact⟨_,(mJ _ _ _ o _).trans (congrArg Ab (F.um i o)),d i,C,D.new _ _ e,hc i o⟩
 rw[So];exact yH (k 0 (DQ _)) (k 1 (AO rfl)) (k 2 (AO rfl)) (k 3 (AO rfl)) (k 4 (AO rfl)) (k 5 (An _))
end
variable {args:List PV} in
def Rn (l:List Arg):Ea:={posonlyargs:=[],args:=l,vararg:=Ah,kwonlyargs:=[],kw_defaults:=[],kwarg:=Ah,defaults:=[]}
variable {i:Nat}{a:List As}{p:Evs} in
def Ws (f:Nat->CE):List As->Nat->List Arg
 |[],_=>[]
 |p::a,i=>⟨p,Ah,f i⟩::Ws f a (i+1)
def JZ (o:List As):Prop:=∀(k:FF)(f:Nat->CE),k.params=Rn (Ws f o 0)->k.defaults=.none->k.kwdefaults=.none->∀h:List Ae,h.length=o.length->Tq k ⟨h,[]⟩=(pure (o.zip h):DJ (List (As×Ae)))
theorem I1 (B:JZ a){f:Nat->CE}(s:fd.params=Rn (Ws f a 0))(w:fd.defaults=.none)(hk:fd.kwdefaults=.none)(k:BV)(h:List Ae)(o:Aq)(_:BB k k.h0 o.heap)(z:h.length=a.length):BindsTo o fd ⟨h,[]⟩ (a.zip h):=.of_eq (B fd f s w hk h z)
theorem Tb:JZ ["sequences"]:=λ k f o s hk h w=>by
 obtain⟨a,rfl⟩:=QS w;cases k;subst o;subst s;subst hk;rfl
theorem Tc:JZ ["resp","peer"]:=λ k f o s hk h w=>by
 obtain⟨a,b,rfl⟩:=Nr w;cases k;subst o;subst s;subst hk;rfl
theorem oS:JZ ["resp"]:=λ k f o s hk h w=>by
 obtain⟨a,rfl⟩:=QS w;cases k;subst o;subst s;subst hk;rfl
theorem Pd:JZ ["mode"]:=λ k f o s hk h w=>by
 obtain⟨a,rfl⟩:=QS w;cases k;subst o;subst s;subst hk;rfl
theorem Q4:JZ ["name","place"]:=λ k f o s hk h w=>by
 obtain⟨a,b,rfl⟩:=Nr w;cases k;subst o;subst s;subst hk;rfl
theorem Kp:JZ ["names","modes","spoiled"]:=λ k f o s hk h w=>by
 obtain⟨a,b,c,rfl⟩:=vI w;cases k;subst o;subst s;subst hk;rfl
theorem Qv:JZ ["state","reply"]:=λ k f o s hk h w=>by
 obtain⟨a,b,rfl⟩:=Nr w;cases k;subst o;subst s;subst hk;rfl
theorem Qx:JZ ["names","nexts"]:=λ k f o s hk h w=>by
 obtain⟨a,b,rfl⟩:=Nr w;cases k;subst o;subst s;subst hk;rfl
theorem Qw:JZ ["state","nexts"]:=λ k f o s hk h w=>by
 obtain⟨a,b,rfl⟩:=Nr w;cases k;subst o;subst s;subst hk;rfl
theorem iH:JZ ["pairs"]:=λ k f o s hk h w=>by
 obtain⟨a,rfl⟩:=QS w;cases k;subst o;subst s;subst hk;rfl
theorem Zy:JZ ["script"]:=λ k f o s hk h w=>by
 obtain⟨a,rfl⟩:=QS w;cases k;subst o;subst s;subst hk;rfl
theorem iI:JZ ["mycmp"]:=λ k f o s hk h w=>by
 obtain⟨a,rfl⟩:=QS w;cases k;subst o;subst s;subst hk;rfl
noncomputable abbrev Fe (h:World)(a:Ai):FF:=V8 (K1 h) a
noncomputable abbrev GT (h:World)(k:AT):=(K1 h).In k
noncomputable abbrev Kr (k:World)(o:AT)(n:Ai)(h:E9)(s:AT):=XB (W1 k o) (Fe k n).scope h s
noncomputable abbrev GW (h:World)(k:AT)(o:GK)(s:Nat)(w z:As->Option Ae):=E2 (W1 h k) o s w z
def MS (h:World)(a:Ai)(j:Nat):CE:=match(Fe h a).params.args[j]? with |some x=>x.pos |none=>default
theorem vU {b:Bd->Option Ae}(I:GT w h)(T:Top c a b mg mb h):Gw (W1 w h) 35 (Fe w 35) ["sequences"] (BG P1 4):=Fm I T.nolimit rfl rfl (I1 Tb (f:=MS w 35) rfl rfl rfl _)
theorem Qb {b:Bd->Option Ae}(I:GT w h)(T:Top c a b mg mb h):Gw (W1 w h) 79 (Fe w 79) ["resp","peer"] (BG P1 9):=Fm I T.nolimit rfl rfl (I1 Tc (f:=MS w 79) rfl rfl rfl _)
theorem SW {b:Bd->Option Ae}(I:GT w h)(T:Top c a b mg mb h):Gw (W1 w h) 86 (Fe w 86) ["resp"] (BG P1 10):=Fm I T.nolimit rfl rfl (I1 oS (f:=MS w 86) rfl rfl rfl _)
theorem Uy {b:Bd->Option Ae}(I:GT w h)(T:Top c a b mg mb h):Gw (W1 w h) 93 (Fe w 93) ["mode"] (BG P1 12):=Fm I T.nolimit rfl rfl (I1 Pd (f:=MS w 93) rfl rfl rfl _)
theorem Xp {b:Bd->Option Ae}(I:GT w h)(T:Top c a b mg mb h):Gw (W1 w h) 100 (Fe w 100) ["mode"] (BG P1 13):=Fm I T.nolimit rfl rfl (I1 Pd (f:=MS w 100) rfl rfl rfl _)
theorem OB {b:Bd->Option Ae}(I:GT w h)(T:Top c a b mg mb h):Gw (W1 w h) 140 (Fe w 140) ["mode"] (BG P1 34):=Fm I T.nolimit rfl rfl (I1 Pd (f:=MS w 140) rfl rfl rfl _)
theorem Xo {b:Bd->Option Ae}(I:GT w h)(T:Top c a b mg mb h):Gw (W1 w h) 147 (Fe w 147) ["name","place"] (BG P1 36):=Fm I T.nolimit rfl rfl (I1 Q4 (f:=MS w 147) rfl rfl rfl _)
theorem Xn {b:Bd->Option Ae}(I:GT w h)(T:Top c a b mg mb h):Gw (W1 w h) 154 (Fe w 154) ["names","modes","spoiled"] (BG P1 37):=Fm I T.nolimit rfl rfl (I1 Kp (f:=MS w 154) rfl rfl rfl _)
theorem fP {b:Bd->Option Ae}(I:GT w h)(T:Top c a b mg mb h):Gw (W1 w h) 161 (Fe w 161) ["state","reply"] (BG P1 38):=Fm I T.nolimit rfl rfl (I1 Qv (f:=MS w 161) rfl rfl rfl _)
theorem Qa {b:Bd->Option Ae}(I:GT w h)(T:Top c a b mg mb h):Gw (W1 w h) 168 (Fe w 168) ["mode"] (BG P1 39):=Fm I T.nolimit rfl rfl (I1 Pd (f:=MS w 168) rfl rfl rfl _)
theorem OA {b:Bd->Option Ae}(I:GT w h)(T:Top c a b mg mb h):Gw (W1 w h) 173 (Fe w 173) ["names","nexts"] (BG P1 40):=Fm I T.nolimit rfl rfl (I1 Qx (f:=MS w 173) rfl rfl rfl _)
theorem Xq {b:Bd->Option Ae}(I:GT w h)(T:Top c a b mg mb h):Gw (W1 w h) 178 (Fe w 178) ["state","nexts"] (BG P1 41):=Fm I T.nolimit rfl rfl (I1 Qw (f:=MS w 178) rfl rfl rfl _)
theorem RO {b:Bd->Option Ae}(I:GT w h)(T:Top c a b mg mb h):Gw (W1 w h) 183 (Fe w 183) ["pairs"] (BG P1 42):=Fm I T.nolimit rfl rfl (I1 iH (f:=MS w 183) rfl rfl rfl _)
theorem sS {b:Bd->Option Ae}(I:GT w h)(T:Top c a b mg mb h):Gw (W1 w h) 188 (Fe w 188) ["script"] O7:=Fm I T.nolimit rfl rfl (I1 Zy (f:=MS w 188) rfl rfl rfl _)
theorem V6 {b:Bd->Option Ae}(I:GT w h)(T:Top c a b mg mb h):Gw (W1 w h) 21 (Fe w 21) ["mycmp"] (BG P1 1):=Fm I T.nolimit rfl rfl (I1 iI (f:=MS w 21) rfl rfl rfl _)
set_option genInjectivity false
set_option genSizeOfSpec false
theorem qE (h:World)(n t k:Nat)(o:Array (Option Ae))(c P:Ai)(v:Nat->Ae)(m:Nat->Ai):(z2 h n t k o c P v m).I.O[0]? =Ab (mG c):=by kernel_rfl
theorem ZU (h:Pz)(k:i<6):h.qual i=(Iv++".")++(rK 0 i).name:=by
 show(Iv++".")++(rK (h.hz+1) i).name=_;rw[Sq _ i k,Sq _ i k]
section
theorem JI {a:AT}(s:BB (W1 w a) a h)(e:a.get? b=Ab o)(z:b≠16)(A:b≠170)(C:b≠185):h.get? b=Ab o:=by
 rcases s.1 b o e with k |⟨k,_⟩ |⟨k,_⟩
 ·exact k
 ·exact nomatch k.symm.trans e
 ·rcases Ak.mp k with k |k
  ·exact absurd k z
  ·rcases Ak.mp k with k |k
   ·exact absurd k A
   ·exact absurd (Cf.mp k) C
theorem gU {d:Bd->Option Ae}(I:GT w a)(T:Top e b d mg mb a)(k:BB (W1 w a) a h):h.get? 2=Ab (ob w 2)/\h.get? 3=Ab (ob w 3)/\(∃s,h.get? 4=Ab ⟨.type "module",Ab 0,.plain,s⟩)/\h.get? 20=Ab (ob w 20)/\187<h.objs.size:=by
 refine⟨JI k (I _ _ rfl) (by decide) (by decide) (by decide),JI k (I _ _ rfl) (by decide) (by decide) (by decide),?_,JI k (I _ _ rfl) (by decide) (by decide) (by decide),AU (JI k (I 187 (ob w 187) rfl) (by decide) (by decide) (by decide))⟩;obtain⟨N,o,z,_,A,C,E,H⟩:=T.bmain;have q:mg "__builtins__"=Ab (.ref 4):=(Ej I T _).trans rfl;cases q.symm.trans z;obtain⟨c,O,Q,s⟩:=o;subst C;subst E;subst H;exact⟨s,JI k A (by decide) (by decide) (by decide)⟩
theorem H! {P:Ai->Eo->Prop}{os:List Eo}:∀(k:Nat)(x:Ai)(y:Eo),([]:List Ai)[k]? =Ab x->os[k]? =Ab y->P x y:=λ _ _ _ e=>(by contradiction)
theorem Wq {a:Ai}{P:Ai->Eo->Prop}{b:List Ai}{os:List Eo}(w:P a o)(z:∀(h:Nat)(x:Ai)(y:Eo),b[h]? =Ab x->os[h]? =Ab y->P x y)(h:Nat)(x:Ai)(y:Eo)(k:(a::b)[h]? =Ab x)(s:(o::os)[h]? =Ab y):P x y:=by
 cases h with
 |zero=>cases k;cases s;exact w
 |succ h=>exact z h x y k s
theorem U5 (h:a<n)(k:∀x∈b,x<n)(x:Ai)(o:x∈a::b):x<n:=by
 cases o with
 |head=>exact h
 |tail _ q=>exact k x q
theorem H? :∀x∈([]:List Ai),x<n:=λ _ q=>nomatch q
theorem Zp {g:Array CC}{a:AT}{f:List As}{j:Bd->Option Ae}{os:GZ}{l:FD}{d:M8}{t hz:Nat}(I:GT w a)(T:Top l f j mg mb a)(a0:BB (W1 w a) a h)(x:(W1 w a).di h)(O:A.depth<OY)
 (G:∀H J K,BB (W1 w a) h H->t<=J->h.get? K=Ah->iW H K Iv "obj" ((mg "__name__").getD .none) Kb (La (hz+1) dX)->Q (.ref K) ⟨H,g,d,J,os⟩):
 Aw (model P1 w) A (buildClass "K" Iv [.type "object"] [] dX xG ["obj"] PT.line (B5 (Fe w 21) hz 21) PT Ah) Q E ⟨h,g,d,t,os⟩:=by
 refine Jt λ gg kk=>?_;obtain⟨L,M,⟨V,R⟩,N,B2⟩:=gU I T a0;refine kk ?_;have s:h.objs.size=(h.objs.size-50)+50:=(Nat.sub_add_cancel (AY (Cw (AO rfl) B2))).symm;generalize hn:h.objs.size-50=n at s
 replace G:=((by rw[Ej I T]:(mg "__name__").getD .none=(Ie (n5 w 3) "__name__").getD .none))▸G
 have fresh:∀{oa:List Ai}{H:AT}{z:Pz},z.n=n->HD (z.n+50) oa h H z.I.T z.I.m z.I.O->∀k,h.get? (at_ z k)=Ah:=λ e D k=>by
  cases q:h.get? (at_ _ k) with
  |none=>rfl
  |some o=>
   have:=AU q;rw[s,<-e] at this;exact absurd this (B7.mpr (AS _ _))
 rcases x.1 with t0 |⟨c,P,v,m,t0⟩
 ·have z:=Qm (z:=z1 w n t hz V) (E:=E) (g:=g) (d:=d) (os:=os) (Q:=Q) (uX _ _ _ _ _) (show(56:Nat)≠7 by decide) rfl (by decide) O s (Wq t0 (Wq L (Wq M (Wq R (Wq N H!)))))
   (s▸U5 (AU t0) (U5 (AU L) (U5 (AU M) (U5 (AU R) (U5 (AU N) H?))))) λ H D=>?_
  ·skip
   exact z
  ·have C:=a? w n t hz V;have u:∀b o,b≠16->h.get? b=Ab o->H.get? b=Ab o:=λ b o U e=>D.keep b o e λ q=>U (AN q).symm;have y:=D.gi 0 16 _ rfl C.o;have W:∀i<6,Da H (.ref (n+50+(13+8*i))) ((z1 w n t hz V).qual i):=λ i Z=>by
    obtain⟨J,vs,e1,e2⟩:=C.m i Z;exact⟨_,_,vs,J,rfl,D.new _ _ e1,rfl,rfl,e2⟩
   have p:∀{b o},h.get? b=Ab o->o.cls=.type "code"->b≠16:=λ e hc q=>by
    subst q;obtain rfl:=A4 t0 e
    contradiction
   refine G H _ _ ⟨λ b o e=>?_,λ _=>⟨.inr ⟨n+50+5,n+50+4,_,λ i=>n+50+(13+8*i),y,D.new _ _ C.c,D.new _ _ C.tb,⟨Ao (AO rfl) (B8 (s▸B2:188<=n+50) 5),Ao (AO rfl) (B8 (s▸B2:188<=n+50) 4)⟩,λ i Z=>ZU (z1 w n t hz V) Z▸W i Z⟩,?_⟩⟩ (AS _ _) (fresh rfl D _) (dP (S? w n t hz V) D W)
   ·by_cases q:b=16
    ·subst q;obtain rfl:=A4 t0 e;exact .inr (.inr ⟨by exact Ad,#[],_,rfl,y.trans (by show _=Ab (Me (#[]++ #[BS PT.line,BS PT.col,.ref (n+50+5)]));rfl)⟩)
    ·exact .inl (u b o q e)
   ·intro t S;obtain⟨ps,T2,G2⟩:=x.2 t S;have B:t.1≠16/\t.2.1≠16:=by
     rcases Ak.mp S with rfl |S
     ·exact⟨by decide,by decide⟩
     ·cases Cf.mp S
      exact⟨by decide,by decide⟩
    exact⟨ps,T2.extBut (λ b o U e=>u b o U e) B.1 B.2,λ r hr cv Y=>(G2 r hr cv Y).at_ λ b o e hc=>u b o (p e hc) e⟩
 ·have z:=Qm (z:=z2 w n t hz V c P v m) (E:=E) (g:=g) (d:=d) (os:=os) (Q:=Q) (uW _ _ _ _ _ _ _ _ _) (show(17:Nat)≠4 by decide) rfl
   (by
    have a1:=t0.k8.1;have a2:=t0.k8.2;intro q;simp only[Ak,BH,or_false] at q;rcases q with q |q |q |q |q |q
    ·contradiction
    ·contradiction
    ·contradiction
    ·contradiction
    ·rw[<-q] at a1;exact absurd a1 (by decide)
    ·rw[<-q] at a2;exact absurd a2 (by decide)) O s (Wq t0.ji (Wq L (Wq M (Wq R (Wq N (Wq t0.code (Wq t0.sub H!)))))))
   (s▸U5 (AU t0.ji) (U5 (AU L) (U5 (AU M) (U5 (AU R) (U5 (AU N) (U5 (AU t0.code) (U5 (AU t0.sub) H?))))))) λ H D=>?_
  ·skip
   exact z
  ·have u:∀b o,h.get? b=Ab o->H.get? b=Ab o:=λ b o e=>by
    by_cases q:b=16
    ·subst q
     replace e:=t0.ji.symm.trans e
     cases e
     exact D.gi 0 16 _ rfl (qE w n t hz V c P v m)
    ·exact D.keep b o e λ q'=>q (AN q').symm
   refine G H _ _ (.af u) (AS _ _) (fresh rfl D _) (dP (S! w n t hz V c P v m) D λ i Z=>?_);rw[ZU _ Z];exact(t0.db i Z).at_ λ b o e _=>u b o e
end
theorem gV (k:World)(h:Nat):(B5 (Fe k 21) h 21).cells.lookup ("mycmp":As)=Ab (h+1):=rfl
theorem gX {e:Bd->Option Ae}(I:GT w a)(T:Top g c e mg mb a)(Y:E2 (W1 w a) C i mg mb)(hA:CY (k+1) A)(G:Gd (W1 w a) s)(f:Ae)
 (hQ:∀t tk K u,BB (W1 w a) s.heap t->s.toks<=tk->s.heap.get? K=Ah->iW t K Iv "obj" ((mg "__name__").getD .none) Kb (La u dX)->t.IsCell u (Ab f)->s.heap.get? u=Ah->Q (.ref K) {s with heap:=t,toks:=tk}):
 Aw (W1 w a).M A (call (.ref 21) [f]) Q E s:=by
 have fo:Gw (W1 w a) 21 (Fe w 21) ["mycmp"] [.ClassDef "K" [.Name "object" U'] [] dX [] [] xG Ah "K" ["obj"] PT,.Return (Ab (.Name "K" T?)) T!]:=by have:=V6 I T;exact this
 have x:(Fe w 21).scope.names.lookup ("mycmp":As)=Ab .cell:=rfl;have y:(Fe w 21).scope.names.lookup ("K":As)=Ab .local:=rfl;have D:mg "object"=Ah/\mb "object"=Ab (.type "object"):=⟨(Ej I T _).trans rfl,PD T (by decide+kernel) rfl⟩;refine Ge fo hA G (X:=[]) (λ b q=>by contradiction) (args:=[.av f]) (.av .nil) rfl λ a3 a0 J he B a1 Z S=>?_;have h:=S.gd B;refine Ay ?_;refine Ac (Ar (Ac (A0 (Ac ?_))));unfold buildClassGuard;rw[S.F.blt];refine Ac (wpAny_nsGet (Dl h.ao Y.b) ?_);rw[PD T (by decide+kernel) (x:="__build_class__") (v:=.builtin "__build_class__") rfl];refine Ar (Ac (Bt (Ac ?_)));refine Bf (AE (CH Y S.F h rfl (.inr D) (A6 (Ac (A0 (Bt ?_))))));subst he;have S':=S;refine Zp (hz:=s.heap.objs.size) I T h.ao h.dl (Cw (Az (AS ..) (hA.down (B5 (Fe w 21) s.heap.objs.size 21)).depth) (by decide+kernel)) λ a2 O K j N hK kk=>?_;refine Ac (Ar (Ac (A0 (Ac ?_))));have z:=S.ae (tk:=O) j N;refine wpAny_bindName (z.putName B (x:="K") (sl:=.av (.ref K)) (by unfold A3;rw[y];decide+kernel) rfl (λ d q=>(by contradiction)) λ l V H W m=>Ar ?_);refine Ay (EP (FI.av H.F (by rw[Ca,if_pos rfl]) ?_));have hk:=W.al z.F z.fc;obtain⟨a4,a5,n,p,r⟩:=H.F.cell "mycmp" (.inl x);obtain rfl:=A4 (gV w s.heap.objs.size) n;obtain⟨v,L,M⟩:=r (.av f) (by exact AF);have R:v=f:=M;cases R;subst L;have U:s.heap.get? K=Ah:=by
  exact BB.bh S.le hK
 exact hQ l V K _ H.le (Aa Z (Aa N m)) U (kk.al hk) p (by
  cases q:s.heap.get? (s.heap.objs.size+1) with
  |none=>rfl
  |some o=>exact absurd (AU q) (B7.mpr (Bq _)))
variable {a:List Ae} in
def uT (h:Eo):Option (Array Ae):=if h.cls== .type "tuple"&&h.dict.isNone&&h.slots.isEmpty then(match h.data with | .seq a _=>if a.size<=B2 then Ab a else Ah |_=>Ah) else Ah
theorem aY {a:Array Ae}(h:uT o=Ab a):∃m,o=M1 a m/\a.size<=B2:=by
 obtain⟨k,s,H,w⟩:=o;obtain⟨q,h⟩:=IC h;obtain⟨q,z⟩:=AC.mp q;obtain⟨A,C⟩:=AC.mp q
 (try clear q;try try skip)
 obtain rfl:k=.type "tuple":=BQ A;obtain rfl:s=Ah:=Option.isNone_iff_eq_none.mp C;obtain rfl:w= #[]:=Array.isEmpty_iff.mp z
 (try clear C;try clear A;try clear z;try clear q;try clear w;try clear s;try clear k;try clear a;try clear o)
 cases H with
 |seq N m=>
  have E:=Lf h;exact E.2▸⟨m,rfl,E.1⟩
 |_=>contradiction
variable {a:Ai}{i n:Nat}{v:Ae} in
def u2 (K:Frag):Nat->Ae->Option PV
 |0,_=>Ah
 |n+1,v=>match v with
  | .int i _=>Ab (.int i)
  | .str x _=>if Pw x then Ab (.str x) else Ah
  | .ref a=>(K.lookup a).bind λ o=>(uT o).bind λ h=>(h.toList.mapM (u2 K n)).map .ba
  |_=>Ah
theorem lO {f:Ae->Option PV}(z:∀v d,f v=Ab d->Rp W X h v d):∀{k:List Ae}{o:List PV},k.mapM f=Ab o->RpL W X h k o:=by
 intro k;induction k with
 |nil=>
  intro o e;cases e;exact .nil
 |cons v k s=>
  intro o e
  replace e:=HY.symm.trans e
  obtain⟨d,A,e⟩:=AM.mp e;obtain⟨C,w,e⟩:=AM.mp e;cases e;exact .cons (z v d A) (s w)
set_option tactic.hygienic true in
theorem u1 {K:Frag}(I:K.In W.h0)(C:∀a∈X,W.h0.get? a=Ah):∀(n:Nat)(v:Ae)(d:PV),u2 K n v=Ab d->Rp W X W.h0 v d:=by
 intro n;induction n with
 |zero=>
  intro v d e
  contradiction
 |succ n s=>
  intro v d e;cases v with
  |int i t=>cases e;exact .int _ _
  |str x t=>
   obtain⟨k,e⟩:=IC e;have k:=AC.mp k;cases e;exact .str _ _ k.1 (of_decide_eq_true k.2)
  |ref a=>
   obtain⟨o,E,e⟩:=AM.mp e;obtain⟨N,H,e⟩:=AM.mp e;obtain⟨O,w,rfl⟩:=Bp.mp e;obtain⟨m,rfl,z⟩:=aY H;have A:=I a _ E;exact .ba A (λ q=>by replace A:=Eq.trans (Eq.symm (C a q)) A;contradiction) z (lO (λ v d h=>s v d h) w)
  |_=>contradiction
def vX (l:List (Int×As)):PV:=.ba (l.map λ p=>.ba [.int p.1,.str p.2])
def sU:List (List (Int×As)):=[[(40960,"l"),(49152,"s"),(32768,"-"),(24576,"b"),(16384,"d"),(8192,"c"),(4096,"p")],[(256,"r")],[(128,"w")],[(2112,"s"),(2048,"S"),(64,"x")],[(32,"r")],[(16,"w")],[(1032,"s"),(1024,"S"),(8,"x")],[(4,"r")],[(2,"w")],[(513,"t"),(512,"T"),(1,"x")]]
def Xr:PV:=.ba (sU.map vX)
def sK (x:As):Option PV:=if x="_filemode_table" then Ab Xr else Ah
def JS (h:World)(a:Ai):ClassData:=match(ob h a).data with | .cls k=>k |_=>{name:="",bases:=[],mro:=[],ns:=0,qualname:=""}
def QN (h:World)(a:Ai)(i:Nat):Option Ae:=(ob h a).slots.getD i Ah
set_option tactic.hygienic true in
theorem N9 (I:GT w h)(k:(K1 w).lookup a=Ab (ob w a))(o:(ob w a).data=.dict (n5 w a) (zS w a))(s:(n5 w a).toList.all (λ e=>match e.key with | .str _ _=>Ag |_=>Av)=Ag):h.Ns a (λ x=>Ie (n5 w a) x):=
 ⟨ob w a,n5 w a,zS w a,I _ _ k,o,(λ e z=>(by
  have:=AR.mp s e (by simpa using z);split at this
  ·rename_i n t q;exact⟨n,t,q⟩
  ·simp at this)),λ x=>rfl⟩
theorem mY {b:Bd->Option Ae}(I:GT w h)(T:Top c a b mg mb h)(s:Cn c=Ag)(z:C.gv=sK)(A:∀r,C.rw r=Ah)(E:∀x g,C.fn x=Ab g->t4 (W1 w h) k mg x g):GW w h C k mg mb where
 row:=λ r O e=>nomatch (A r).symm.trans e
 g:=T.g
 b:=T.b
 blt:=tG I T
 l9:=⟨(Ej I T _).trans rfl,PD T (by decide+kernel) rfl⟩
 l8:=by
  obtain⟨Q,⟨o,V,W,H,_⟩,_⟩:=(T.seer s).mods;exact⟨o,H⟩
 aa:=λ x d e=>by
  replace e:=(z)▸e
  unfold sK at e;split at e
  ·rename_i q;subst q;cases e;exact⟨.ref 133,(Ej I T _).trans (by kernel_rfl),λ X N=>u1 I N 5 (.ref 133) Xr (by kernel_rfl)⟩
  ·contradiction
 fn:=E
def XA:List Ae:=[.ref 45,.type "Exception",.type "BaseException",.type "object"]
theorem fY {b:Bd->Option Ae}(I:GT w h)(T:Top c a b mg mb h):Gm (W1 w h) mg "error_reply" 58 XA where
 bx:=(Ej I T _).trans rfl
 cls:=⟨(JS w 58).name,(JS w 58).qualname,57,(JS w 58).bases,(JS w 58).hasDict,(JS w 58).slotNames,(JS w 58).subclasses,(JS w 58).abstract,(JS w 58).collection,(ob w 58).dict,QN w 58 0,QN w 58 1,QN w 58 2,QN w 58 3,QN w 58 5,"Exception","Exception.__new__","Exception.__init__",[.type "Exception",.type "BaseException",.type "object"],_,"Exception",
  F.excBase_Exception,I 58 _ rfl,N9 I rfl rfl rfl,rfl,.own (I 45 {cls:=.type "type",dict:=(ob w 45).dict,data:=.cls (JS w 45),slots:=(ob w 45).slots} rfl) (N9 (a:=44) I rfl rfl rfl) rfl .base,rfl,
  .own (I 45 {cls:=.type "type",dict:=(ob w 45).dict,data:=.cls (JS w 45),slots:=(ob w 45).slots} rfl) (N9 (a:=44) I rfl rfl rfl) rfl .base,F.excStr_Exception⟩
theorem pX {b:Bd->Option Ae}(I:GT w h)(T:Top c a b mg mb h):Gm (W1 w h) mg "error_proto" 70 XA where
 bx:=(Ej I T _).trans rfl
 cls:=⟨(JS w 70).name,(JS w 70).qualname,69,(JS w 70).bases,(JS w 70).hasDict,(JS w 70).slotNames,(JS w 70).subclasses,(JS w 70).abstract,(JS w 70).collection,(ob w 70).dict,QN w 70 0,QN w 70 1,QN w 70 2,QN w 70 3,QN w 70 5,"Exception","Exception.__new__","Exception.__init__",[.type "Exception",.type "BaseException",.type "object"],_,"Exception",
  F.excBase_Exception,I 70 _ rfl,N9 I rfl rfl rfl,rfl,.own (I 45 {cls:=.type "type",dict:=(ob w 45).dict,data:=.cls (JS w 45),slots:=(ob w 45).slots} rfl) (N9 (a:=44) I rfl rfl rfl) rfl .base,rfl,
  .own (I 45 {cls:=.type "type",dict:=(ob w 45).dict,data:=.cls (JS w 45),slots:=(ob w 45).slots} rfl) (N9 (a:=44) I rfl rfl rfl) rfl .base,F.excStr_Exception⟩
def bI:List Bs:=(LY (BG P1 3) 1).b 0
def WQ (q:Nat->CE):List Bs:=XJ q bI
def rQ:Nat->CE:=Ni WQ (BG P1 3)
theorem bH:BG P1 3=WQ rQ:=rfl
def oC:Bg:=((LY ((LY (BG P1 4) 1).b 0) 0).e 0).sc
def oG:Nat->CE:=Ni (λ p=>Qq oC p λ _=>0) (BG P1 4)
theorem oB:BG P1 4=Qq oC oG (λ _=>0):=rfl
def Lj:Expr:=((((LY ((LY (BG P1 38) 1).b 0) 0).e 0).e 1).e 1).x 0
def Ut:Expr:=((LY (BG P1 38) 4).e 0).x 1
def mW:Expr:=((LY (BG P1 38) 3).e 1).x 1
def hP:Nat->CE:=Ni (λ p=>IQ "refused" Lj Ut mW p λ _=>0) (BG P1 38)
def hK:Nat->Nat:=u7 (λ k=>IQ "refused" Lj Ut mW (λ _=>default) k) (BG P1 38)
theorem bG (E H:As)(N:FuncBody)(O:Bg)(Q:Ai)(V:List (As×Ai))(h o:Ae)(s:Option Ai)(w z:Ae)(A:Ai)(W Z d:CE)(C:List Expr)(T:Ai)(x a b c:Ae):
 ∃k:Option (Array Ae)->DJ (List (As×Ae)),Tq ⟨E,H,{posonlyargs:=[],args:=[⟨"function",Ah,W⟩,⟨"sequence",Ah,Z⟩,⟨"initial",Ah,d⟩],vararg:=Ah,kwonlyargs:=[],kw_defaults:=[],kwarg:=Ah,defaults:=C},N,O,Q,V,.ref T,.none,h,o,s,w,z,A⟩ ⟨[a,b,c],[]⟩=seqItems? (.ref T) >>=k/\
  k (Ab #[x])=pure ((["function","sequence","initial"]:List As).zip [a,b,c]):=⟨_,rfl,rfl⟩
theorem Yg (s:fd.params={posonlyargs:=[],args:=[⟨"function",Ah,f⟩,⟨"sequence",Ah,g⟩,⟨"initial",Ah,i⟩],vararg:=Ah,kwonlyargs:=[],kw_defaults:=[],kwarg:=Ah,defaults:=d})(w:fd.defaults=.ref e)(hk:fd.kwdefaults=.none)
 (z:W.h0.get? e=Ab (M1 #[.ref x] n)) (h:List Ae) (o:Aq) (R:BB W W.h0 o.heap) (A:h.length=3):BindsTo o fd ⟨h,[]⟩ ((["function","sequence","initial"]:List As).zip h):=by
 obtain⟨a,b,c,rfl⟩:=vI A;cases fd;subst s;subst w;subst hk;obtain⟨k,C,E⟩:=bG _ _ _ _ _ _ _ _ _ _ _ _ f g i d e (.ref x) a b c;exact BindsTo.of_defaults rfl (R.keep z (by simp) (by simp)) rfl C E
theorem YY {b:Bd->Option Ae}(I:GT w h)(T:Top c a b mg mb h):Gw (W1 w h) 30 (Fe w 30) ["function","sequence","initial"] (BG P1 3):=
 Fm I T.nolimit rfl rfl (Yg rfl rfl rfl (I 23 _ rfl))
theorem u0 {b:Bd->Option Ae}(I:GT w h)(T:Top d a b mg mb h):XI (W1 w h) mg mb 30:=
 have c:=BQ (show((ob w 22).cls== .type "object")=Ag by kernel_rfl)
 ⟨Fe w 30,rQ,bI,(by have:=YY I T;rw[bH] at this;exact this),by kernel_rfl,by kernel_rfl,by kernel_rfl,by kernel_rfl,by kernel_rfl,by kernel_rfl,(Ej I T _).trans (by kernel_rfl),PD T (by decide+kernel) (by kernel_rfl),22,ob w 22,(Ej I T _).trans (by kernel_rfl),I 22 _ (by kernel_rfl),c▸by decide,c▸by decide,c▸nofun⟩
theorem XC {b:Bd->Option Ae}(I:GT w h)(T:Top c a b mg mb h)(hP:4≠P):h.BuiltinsAt mg P:=by
 obtain⟨H,o,k,s,z,A,C,E⟩:=T.bmain;have e:mg "__builtins__"=Ab (.ref 4):=(Ej I T _).trans rfl;cases e.symm.trans k;exact⟨4,o,e,s,by decide,hP,z,A,C,E⟩
theorem wF {b:Bd->Option Ae}(I:GT w h)(T:Top d a b mg mb h)(z:GW w h C k mg mb):UX (W1 w h) mg mb C k 21:=
 ⟨λ A s k n f c N G O Q E V=>gX I T z N G (.ref f) λ W Z K e H l g i o j=>V _ W Z H l ⟨K,e,rfl,g,⟨dX,Iv,_,Kb,sD,i,o⟩,j,O.ae H⟩⟩
theorem zU:XQ (Fe w 35).scope oC oG where
 S:=⟨rfl,rfl,rfl,rfl⟩
 seq:=rfl
 nc:=rfl
 na:=rfl
 m9:=rfl
 m7:=Lb rfl
 m6:=rfl
 nk:=rfl
theorem wG (n:Nat):Dk [.Name "sequences" (oG 23)] (.ListComp (.Name "s" (oG 24)) [⟨.Name "s" (oG 25),.Name "sequences" (oG 26),[.Name "s" (oG 27)],0⟩] oC (oG 28)) (oG 29).line (B5 (Fe w 35) n 35)=pure Ag:=rfl
theorem mU:Ly (Fe w 161).scope "refused" Lj Ut where
 st:=rfl
 mj:=rfl
 m0:=rfl
 nh:=rfl
 g1:=rfl
 g2:=rfl
 gs:=rfl
 ni:=rfl
 nl:=rfl
 x3:=.inr rfl
theorem kP (I:GT w h)(a:BB (W1 w h) h H):OldK h H:=by
 have code:∀b,b∈[16,170,185]->isCodeTable h b:=λ b Z=>by
  simp only[Ak,BH,or_false] at Z;rcases Z with rfl |rfl |rfl
  ·obtain⟨o,C,z,c,s,d,E,A,f,N,O,Q,V,_⟩:=(Pc (c:=20) (P:=16) I rfl);exact⟨20,o,C,N,O,Q,V⟩
  ·obtain⟨o,C,z,c,s,d,E,A,f,N,O,Q,V,_⟩:=(Pc (c:=172) (P:=170) I rfl);exact⟨172,o,C,N,O,Q,V⟩
  ·obtain⟨o,C,z,c,s,d,E,A,f,N,O,Q,V,_⟩:=(Pc (c:=187) (P:=185) I rfl);exact⟨187,o,C,N,O,Q,V⟩
 refine⟨λ b o e=>?_,λ b o e=>BL a ⟨o,e⟩⟩;rcases a.1 b o e with k |⟨n,_⟩ |⟨Z,C,W,rfl,k⟩
 ·exact .inl k
 ·exact Do n e
 ·exact .inr (.inl ⟨code b Z,rfl,C,W,rfl,k⟩)
theorem XU (k:Well P h v (.list b)):∃a o,v=.ref a/\h.get? a=Ab {cls:=.type "list",data:=.seq (CG o)}:=by
 cases k with
 |list e _=>exact⟨_,_,rfl,e⟩
theorem qW {X:(As->Option Ae)->AT->Prop}{d:DefRec}(B:d.name="law")(core:∀(w:World)(s:Aq)(O V:As->Option Ae)(h:List As)(k:Bd->Option Ae),GT w s.heap->(∀P∈[16,170,185],s.heap.get? P=Ab (Me #[]))->Top c h k O V s.heap->
 ∀(D:List Int)(v:Ae),Rp (W1 w s.heap) [] s.heap v (.list (D.map .int))->∀(Q:Jc)(E:Jc),(∀W p,BB (W1 w s.heap) s.heap W->Q (.bool Ag) {s with heap:=W,toks:=p})->Aw (W1 w s.heap).M callerA (call (.ref 188) [v]) Q E s):
 WalkO c l X (kmHook hk.1 hk.2.1 (λ _=>rfl) [16,170,185]).says (OpenLaw.row PySem.Challenge.rw_oy0180_02).toRowW d b λ f v=>call f v:=by
 intro w r z O V G Y fa o pm cd J dV kV ho L M hD Z R args t as A C g i j;have I:=km_in_of Y;have S:=km_tabs_of Y;have T:=G.T;have e:O "law"=Ab (.ref 188):=(Ej I T _).trans rfl;have U:=B▸Z;cases e.symm.trans U;refine Jt λ gg kk=>?_
 wrow_args A C g i j
 refine kk ?_;rename_i hL _ w1 _ u _ m _;obtain⟨_,_,x,y⟩:=XU w1;cases x
 ·obtain⟨o',n,a0,n',N⟩:=hL;obtain rfl:=A4 y n;cases N;refine core w z O V _ _ I (λ P hP=>S P (by simp only[Ak,BH,or_false] at hP ⊢;rcases hP with q |q |q<;>simp[q])) T _ _ (.list y BH ?_ (RpL.dw u)) _ _ λ W p H=>?_
  ·have:=u.length;have a1:(63:Nat)<=B2:=by decide+kernel
   simp;omega
  ·exact⟨.inl ⟨.bool Ag,.bool Ag,[],rfl,λ _=>rfl,.bool Ag,(by kernel_rfl),λ _=>⟨.nil,λ a x=>(by contradiction)⟩⟩,kP I H,rfl,.of_eq R⟩
def SS:List PV->Option PV:=g1 (uE λ m=>Ab (.int (AP m 4095)))
theorem nK {b:Bd->Option Ae}(I:GT w h)(T:Top c a b mg mb h)(o:GW w h C k mg mb):Gx (W1 w h) (k+1) 93 SS:=by
 refine Oz (Uy I T) λ args d e=>?_;obtain⟨_,rfl,e⟩:=Of e;obtain⟨m,rfl,e⟩:=Nn e;cases e;refine⟨rfl,λ A s E z B=>?_⟩
 conv in BG P1 12=>whnf
 exact Jp (He o z B (.bn (.am (.aa rfl) .int rfl)))
def RL:List PV->Option PV:=g1 (uE λ m=>Ab (.int (AP m 61440)))
theorem sY {b:Bd->Option Ae}(I:GT w h)(T:Top c a b mg mb h)(o:GW w h C k mg mb):Gx (W1 w h) (k+1) 100 RL:=by
 refine Oz (Xp I T) λ args d e=>?_;obtain⟨_,rfl,e⟩:=Of e;obtain⟨m,rfl,e⟩:=Nn e;cases e;refine⟨rfl,λ A s E z B=>?_⟩
 conv in BG P1 13=>whnf
 exact Jp (He o z B (.bn (.am (.aa rfl) .int rfl)))
theorem GP (h:x.length+y.length<=B2):GI .Add (.str x) (.str y)=Ab (.str (x++y)):=by
 show(if x.length+y.length<=B2 then Ab (PV.str (x++y)) else Ah)=_;rw[if_pos h]
theorem xH (x y:As):I9 .Eq (.str x) (.str y)=Ab (decide (x=y)):=rfl
theorem cI (x y:As):I9 .NotEq (.str x) (.str y)=Ab (!decide (x=y)):=rfl
theorem ZP (x y:Int):I9 .Eq (.int x) (.int y)=Ab (decide (x=y)):=rfl
theorem kD {x a:As}(k:Pw y=Ag)(o:Pw a=Ag)(h:(y==a)=Av)(s:x.length+(x.length+1)*a.length<=16777216)(w:Pw (KJ x y a)=Ag):
 (Pw y&&Pw a&&!(y==a)&&decide (x.length+(x.length+1)*a.length<=16777216)&&Pw (KJ x y a))=Ag:=by
 simp only[k,o,h,w,decide_eq_true s];rfl
theorem PI (x y:As):(x++y).length=x.length+y.length:=by
 show(x.cps++y.cps).size=x.cps.size+y.cps.size;simp
def jF (x:As):As:=KJ x "\"" "\"\""
def uD:Nat->As
 |0=>"" |1=>" made" |2=>" \"new\"" |3=>"" |4=>" made" |5=>" \"new\"" |_=>""
def It (x:As)(n:Nat):As:=if x=""/\n=1 then "257 made" else((("257 \"":As)++jF x)++"\"")++uD n
def LG (x:As):Bool:=Pw x&&Pw (jF x)&&decide (x.length<=1000)&&decide ((jF x).length<=3000)
def RK:List PV->Option PV:=g2 λ a b=>yA (λ x=>uE (λ i=>if LG x=Ag/\0<=i/\i<7 then Ab (.str (It x i.toNat)) else Ah) b) a
theorem sX {b:Bd->Option Ae}(I:GT w h)(T:Top c a b mg mb h)(H:GW w h C k mg mb):Gx (W1 w h) (k+1) 147 RK:=by
 refine Oz (Xo I T) λ args d e=>?_;obtain⟨_,_,rfl,e⟩:=sM e;obtain⟨x,rfl,e⟩:=WT e;obtain⟨i,rfl,e⟩:=Nn e
 ·obtain⟨⟨s,W,Z⟩,e⟩:=Lf e;subst e;unfold LG at s;simp only[AG,decide_eq_true_eq] at s;obtain⟨n,rfl⟩:∃n:Nat,i=n:=⟨i.toNat,(Dp W).symm⟩;have Q:=BO.mp Z;refine⟨rfl,λ A f J N B=>?_⟩
  conv in BG P1 36=>whnf
  have o:∀{g j l m p r t:CE}{u v:Nat},KY C (Fe w 147).scope ((["name","place"]:List As).zip ([PV.str x,PV.int n].map Dt.aa)) (.BoolOp .And [.Compare (.Name "name" g) [.Eq] [.Constant (.str "") u j] l,.Compare (.Name "place" m) [.Eq] [.Constant (.int 1) v p] r] t) (decide (x="")&&(decide ((n:Int)=1)&&Ag)):=λ{_ _ _ _ _ _ _ _ _}=>
   .all (.bu (.au (.aa (by kernel_rfl)) (.ag (d:=.str "") (by kernel_rfl)) rfl (xH _ _)) λ _=>.bu (.au (.aa (by kernel_rfl)) .int rfl (ZP _ _)) λ _=>.nil)
  by_cases z:x=""/\n=1
  ·have hc:(decide (x="")&&(decide ((n:Int)=1)&&Ag))=Ag:=by rw[z.1,z.2];rfl
   rw[hc] at o;refine Jp (GB H N B o ?_);refine D4 (He H N B (.bn (.ag ?_)));unfold It;rw[show(n:Int).toNat=n from rfl,if_pos z];kernel_rfl
  ·have hc:(decide (x="")&&(decide ((n:Int)=1)&&Ag))=Av:=by
    cases q:(decide (x="")&&(decide ((n:Int)=1)&&Ag)) with
    |false=>rfl
    |true=>
     simp only[AG,decide_eq_true_eq,and_true] at q;exact absurd ⟨q.1,JD q.2⟩ z
   rw[hc] at o;refine K5 (GB H N B o FT) ?_;have O:∀k,k<=15->5+(jF x).length+k<=B2:=λ k hk=>by rw[Ev 5,EZ];exact Aa (A9 (A9 hk 5) _) (Aa (B8 s.2 20) (by decide+kernel))
   have E:("\"":As).length=1:=by decide+kernel
   have V:(("257 \"":As)++jF x).length=5+(jF x).length:=by rw[PI,(by decide+kernel:("257 \"":As).length=5)]
   have y:((("257 \"":As)++jF x)++"\"").length=5+(jF x).length+1:=by rw[PI,V,E]
   have D:(uD n).length<=6:=by
    have:∀n<7,(uD n).length<=6:=by decide+kernel
    exact this n Q
   refine Jp (He H N B (.bn (.am (.am (.am (.ag (d:=.str "257 \"") (by kernel_rfl)) (.jr (by decide+kernel) (.aa (d:=.str x) (by kernel_rfl)) (kD (by decide+kernel) (by decide+kernel) (by decide+kernel) (by
    have L:("\"\"":As).length=2:=by decide+kernel
    exact Aa (FQ s.1.2 (Nat.mul_le_mul_right 2 (Bv s.1.2))) (AO rfl)) s.1.1.2)) (GP (O 0 (AZ _)))) (.ag (d:=.str "\"") (by kernel_rfl)) (GP (by rw[show KJ x "\"" "\"\""=jF x from rfl,V,E];exact O 1 (DQ _)))) (.sub (b:=.list [.str "",.str " made",.str " \"new\""]) (kd:=.int ((n:Int).fmod 3)) (d:=.str (uD n)) (.bn (.list (.cons (.ag (d:=.str "") (by kernel_rfl)) (.cons (.ag (d:=.str " made") (by kernel_rfl)) (.cons (.ag (d:=.str " \"new\"") (by kernel_rfl)) .nil rfl) rfl) rfl) (by decide+kernel))) (.am (.aa (d:=.int n) (by kernel_rfl)) .int rfl) (λ _ _=>rfl) ?_) ?_)))
   ·exact(show ∀n:Nat,n<7->EW (.list [.str "",.str " made",.str " \"new\""]) (.int ((n:Int).fmod 3))=Ab (.str (uD n)) from by
     repeat (refine Fg ?_ rfl)
     exact Kv) n Q
   ·have G:((("257 \"":As)++jF x)++"\"").length+(uD n).length<=B2:=by rw[y,EZ];exact O _ (Aa (A9 D 1) (AO rfl))
    refine(GP G).trans ?_;unfold It;rw[show(n:Int).toNat=n from rfl,if_neg z]
def Gh (c:Nat):As:=⟨#[c]⟩
def B6 (l:List Nat):As:=⟨l.toArray⟩
theorem F9 (a b:List Nat):B6 a++B6 b=B6 (a++b):=by
 show(⟨a.toArray++b.toArray⟩:As)=⟨(a++b).toArray⟩;simp
theorem C6 (a:List Nat):(B6 a).length=a.length:=by show a.toArray.size=_;simp
theorem aJ (x:As)(i:Int):EW (.str x) (.int i)=if QW i=Ag then((GC i x.length).bind (x.cps[·]?)).map (λ c=>PV.str ⟨#[c]⟩) else Ah:=rfl
theorem Pn {i:Nat}(h:i=a.length)(k:(a++c::b).length<=B2):EW (.str (B6 (a++c::b))) (.int (i:Int))=Ab (.str (Gh c)):=by
 subst h;have o:(B6 (a++c::b)).length=a.length+(b.length+1):=by rw[C6];simp
 have s:QW ((a.length:Nat):Int)=Ag:=by
  exact Xs (Ao (by rw[AQ];exact HE (DQ _)) k)
 have w:GC ((a.length:Nat):Int) (a.length+(b.length+1))=Ab a.length:=ME (HE (DQ _));have z:(B6 (a++c::b)).cps[a.length]? =Ab c:=by
  show(a++c::b).toArray[a.length]? =_;simp
 refine(aJ _ _).trans ?_;rw[if_pos s,o,w];simp only[Option.bind_some,z,Option.map_some];rfl
def Fq (l:List Nat):List Nat:=l.flatMap λ c=>if c=34 then[34,34] else[c]
def Js (x d:As)(i n:Int):A5:=[("resp",.aa (.str x)),("dirname",.aa (.str d)),("i",.aa (.int i)),("n",.aa (.int n))]
def Ka (x d:As)(i n:Int)(c:As):A5:=[("resp",.aa (.str x)),("dirname",.aa (.str d)),("i",.aa (.int i)),("n",.aa (.int n)),("c",.aa (.str c))]
def dO:List As:=["resp","dirname","i","n"]
def Hb:Expr×List Bs×List Bs:=((LY (BG P1 10) 5).x 0,(LY (BG P1 10) 5).b 0,(LY (BG P1 10) 5).b 1)
theorem cR (x y:Int):I9 .Lt (.int x) (.int y)=Ab (decide (x<y)):=rfl
theorem yY (x y:Int):I9 .GtE (.int x) (.int y)=Ab (decide (y<=x)):=rfl
theorem Ww (x y:Int):GI .Add (.int x) (.int y)=Ab (.int (x+y)):=rfl
theorem Qn (c:Nat):decide (Gh c="\"")=decide (c=34):=by
 have:("\"":As)=Gh 34:=rfl;rw[this];by_cases q:c=34
 ·subst q;simp
 ·rw[decide_eq_false q];refine decide_eq_false λ e=>q ?_;have:(Gh c).cps=(Gh 34).cps:=by rw[e]
  have:#[c]= #[34]:=this;simpa using this
theorem Sa (o:GW w h C k mg mb)(s:CY k A)(B:Kr w h 86 z N){a:List Nat}(E:(a++c::b).length<=B2)
 (H:F5 (W1 w h) A (Fe w 86).scope z N (execs r z) (Ka (B6 (a++c::b)) d ((a.length:Nat)+1) f (Gh c)) l):
 F5 (W1 w h) A (Fe w 86).scope z N (execs (.Assign [.Name "c" m] (.Subscript (.Name "resp" n) (.Name "i" p) q) t::.Assign [.Name "i" u] (.BinOp (.Name "i" v) .Add (.Constant (.int 1) x i) j) g::r) z) (Js (B6 (a++c::b)) d (a.length:Nat) f) l:=by
 refine Fk (By o s B (.sub (.aa rfl) (.aa rfl) (λ _ _=>rfl) (Pn rfl E)) rfl (by rfl)) ?_;refine Fk (By o s B (.am (.aa rfl) .int (Ww _ _)) rfl (by rfl)) ?_;have e:Bu (Bu (Js (B6 (a++c::b)) d (a.length:Nat) f) "c" (.aa (.str (Gh c)))) "i" (.aa (.int ((a.length:Nat)+1)))=Ka (B6 (a++c::b)) d ((a.length:Nat)+1) f (Gh c):=rfl;rw[e];exact H
theorem VM (h:List Nat)(x:Nat)(l:List Nat):((h.length:Nat):Int)<((h++x::l).length:Nat):=BO.mpr (by rw[AQ];exact HE (DQ _))
theorem lQ (h:List Nat)(x y:Nat)(l:List Nat):((h.length:Nat):Int)+1<((h++x::y::l).length:Nat):=BO.mpr (by rw[AQ];exact Nat.add_lt_add_left (IM (DQ _)) _)
theorem lU (H:GW w h C k mg mb)(O:CY k A)(B:Kr w h 86 z N)(p:a.head?≠Ab 34):∀(E o:List Nat)(d:List Nat),(o++(Fq E++34::a)).length<=B2->d.length+E.length<=B2->
 tU (W1 w h) A C (Fe w 86).scope z N Hb.1 Hb.2.1 Hb.2.2 (E.length+1) (Js (B6 (o++(Fq E++34::a))) (B6 d) (o.length:Nat) ((o++(Fq E++34::a)).length:Nat)) (.next (Js (B6 (o++(Fq E++34::a))) (B6 (d++E)) ((o++(Fq E++[34])).length:Nat) ((o++(Fq E++34::a)).length:Nat))):=by
 intro E;induction E with
 |nil=>
  intro o d Q r;have b:(o++34::a).length<=B2:=Q;refine .brk ?_ ?_
  ·conv in Hb.1=>whnf
   refine .au (.aa rfl) (.aa rfl) rfl ((cR _ _).trans ?_);exact congrArg Ab (decide_eq_true (VM o 34 a))
  ·conv in Hb.2.1=>whnf
   refine Sa H O B b ?_;have V:Js (B6 (o++(Fq []++34::a))) (B6 (d++[])) ((o++(Fq []++[34])).length:Nat) ((o++(Fq []++34::a)).length:Nat)=Js (B6 (o++34::a)) (B6 d) ((o.length:Nat)+1) ((o++34::a).length:Nat):=by
    rw[EH];have:(o++(Fq []++[34])).length=o.length+1:=by simp[Fq]
    rw[this];rfl
   rw[V];have e:Ek dO (Ka (B6 (o++34::a)) (B6 d) ((o.length:Nat)+1) ((o++34::a).length:Nat) (Gh 34))=Js (B6 (o++34::a)) (B6 d) ((o.length:Nat)+1) ((o++34::a).length:Nat):=rfl;rw[<-e];refine LD (F5.du ?_ EN);refine GB H O B (c:=Ag) (.au (.aa (d:=.str (Gh 34)) (by kernel_rfl)) (.ag (by kernel_rfl)) rfl ((xH _ _).trans (by rw[Qn];rfl))) ?_;rw[if_pos rfl];refine LD (GB H O B ?_ (by rw[if_pos rfl];exact D4 Na));cases a with
   |nil=>
    have t1:∀u:Bool,(decide (((o++[34]).length:Nat)<=((o.length:Nat):Int)+1)||u)=Ag:=λ u=>by
     rw[decide_eq_true (by simp)];rfl
    refine Eq.mp (congrArg _ (t1 Av)) (.all (.dj (.au (.aa rfl) (.aa rfl) rfl (yY _ _)) λ q=>?_));rw[decide_eq_true (by simp)] at q;cases q
   |cons t0 f=>
    have x:t0≠34:=λ q=>p (by rw[q];rfl);have y:o++34::t0::f=(o++[34])++t0::f:=by simp
    have n:EW (.str (B6 (o++34::t0::f))) (.int ((o.length:Nat)+1))=Ab (.str (Gh t0)):=by
     rw[y];have:=Pn (a:=o++[34]) (b:=f) (c:=t0) (i:=o.length+1) (by simp) (by simpa using b);exact this
    have t1:(decide (((o++34::t0::f).length:Nat)<=((o.length:Nat):Int)+1)||((!decide (Gh t0="\""))||false))=Ag:=by
     rw[Qn,decide_eq_false x];simp
    refine Eq.mp (congrArg _ t1) (.all (.dj (.au (.aa (by kernel_rfl)) (.aa (by kernel_rfl)) rfl (yY _ _)) λ q=>.dj (.au (.sub (.aa (by kernel_rfl)) (.aa (by kernel_rfl)) (λ _ _=>rfl) n) (.ag (by kernel_rfl)) rfl (cI _ _)) λ _=>.nil))
 |cons c s g=>
  intro o d Q r;have vR:(B6 d).length+(Gh c).length<=B2:=by
   rw[C6];have:(Gh c).length=1:=rfl;rw[this];exact Aa (A9 (Bv (AZ _)) _) r
  have i:=F9 d [c];have j:(d++[c]).length+s.length<=B2:=Aa (AB (by rw[AQ,EZ,Ev (BR [c])];rfl)) r;by_cases q:c=34
  ·subst q;have W:o++(Fq (34::s)++34::a)=o++34::(34::(Fq s++34::a)):=by simp[Fq]
   have V:o++34::(34::(Fq s++34::a))=(o++[34,34])++(Fq s++34::a):=by simp
   have l:o++34::(34::(Fq s++34::a))=(o++[34])++34::(Fq s++34::a):=by simp
   have e:(o++(Fq (34::s)++[34])).length=((o++[34,34])++(Fq s++[34])).length:=by simp[Fq]
   have m:=g (o++[34,34]) (d++[34]) (by rw[<-V,<-W];exact Q) j;rw[e,W];rw[W] at Q;rw[show d++34::s=(d++[34])++s by simp];rw[<-V] at m;refine .next ?_ ?_ m
   ·conv in Hb.1=>whnf
    refine .au (.aa rfl) (.aa rfl) rfl ((cR _ _).trans ?_);exact congrArg Ab (decide_eq_true (VM o 34 _))
   ·conv in Hb.2.1=>whnf
    refine Sa H O B Q ?_;have n:EW (.str (B6 (o++34::(34::(Fq s++34::a))))) (.int ((o.length:Nat)+1))=Ab (.str (Gh 34)):=by
     have:=Pn (a:=o++[34]) (i:=o.length+1) (by simp) (by rw[<-l];exact Q);rw[<-l] at this;exact this
    have v:decide (((o++34::(34::(Fq s++34::a))).length:Nat)<=((o.length:Nat):Int)+1)=Av:=decide_eq_false (My.mpr (lQ o 34 34 _));have t1:(decide (((o++34::(34::(Fq s++34::a))).length:Nat)<=((o.length:Nat):Int)+1)||((!decide (Gh 34="\""))||false))=Av:=by
     rw[v,Qn];rfl
    generalize D:o++34::(34::(Fq s++34::a))=X at n t1 v;have Z:F5 (W1 w h) A (Fe w 86).scope z N (execs ((LY Hb.2.1 2).b 0) z) (Ka (B6 X) (B6 d) ((o.length:Nat)+1) (X.length:Nat) (Gh 34)) (.next (Ka (B6 X) (B6 d) ((o.length:Nat)+1+1) (X.length:Nat) (Gh 34))):=by
     conv in (LY Hb.2.1 2).b 0=>whnf
     refine Fk (GB H O B (c:=Av) ?_ (by rw[if_neg (by simp)];exact FT)) (D4 ?_)
     ·exact Eq.mp (congrArg _ t1) (.all (.dj (.au (.aa (by kernel_rfl)) (.aa (by kernel_rfl)) rfl (yY _ _)) λ q=>.dj (.au (.sub (.aa (by kernel_rfl)) (.aa (by kernel_rfl)) (λ _ _=>rfl) n) (.ag (by kernel_rfl)) rfl (cI _ _)) λ _=>.nil))
     ·exact By H O B (.am (.aa rfl) .int (Ww _ _)) rfl (by rfl)
    refine Fk (GB H O B (c:=Ag) (.au (.aa (d:=.str (Gh 34)) (by kernel_rfl)) (.ag (by kernel_rfl)) rfl ((xH _ _).trans (by rw[Qn];rfl))) (by rw[if_pos rfl];exact Z)) (D4 ?_);have t:Ek dO (Bu (Ka (B6 X) (B6 d) ((o.length:Nat)+1+1) (X.length:Nat) (Gh 34)) "dirname" (.aa (.str (B6 (d++[34])))))=Js (B6 X) (B6 (d++[34])) ((o++[34,34]).length:Nat) (X.length:Nat):=by
     have:(((o++[34,34]).length:Nat):Int)=(o.length:Nat)+1+1:=by rw[AQ];rfl
     rw[this];rfl
    rw[<-t];exact(By H O B (.am (.aa rfl) (.aa rfl) ((GP vR).trans (by rw[i]))) rfl (by rfl)).post EN
  ·have W:o++(Fq (c::s)++34::a)=o++c::(Fq s++34::a):=by simp[Fq,q]
   have V:o++c::(Fq s++34::a)=(o++[c])++(Fq s++34::a):=by simp
   have e:(o++(Fq (c::s)++[34])).length=((o++[c])++(Fq s++[34])).length:=by simp[Fq,q]
   have m:=g (o++[c]) (d++[c]) (by rw[<-V,<-W];exact Q) j;rw[e,W];rw[W] at Q;rw[show d++c::s=(d++[c])++s by simp];rw[<-V] at m;refine .next ?_ ?_ m
   ·conv in Hb.1=>whnf
    refine .au (.aa rfl) (.aa rfl) rfl ((cR _ _).trans ?_);exact congrArg Ab (decide_eq_true (VM o c _))
   ·conv in Hb.2.1=>whnf
    refine Sa H O B Q ?_;generalize D:o++c::(Fq s++34::a)=X;refine Fk (GB H O B (.au (.aa (by kernel_rfl)) (.ag (by kernel_rfl)) rfl ((xH _ _).trans (by rw[Qn,decide_eq_false q]))) (by rw[if_neg (by simp)];exact FT)) (D4 ?_);have t:Ek dO (Bu (Ka (B6 X) (B6 d) ((o.length:Nat)+1) (X.length:Nat) (Gh c)) "dirname" (.aa (.str (B6 (d++[c])))))=Js (B6 X) (B6 (d++[c])) ((o++[c]).length:Nat) (X.length:Nat):=by
     have:(((o++[c]).length:Nat):Int)=(o.length:Nat)+1:=by simp
     rw[this];rfl
    rw[<-t];exact(By H O B (.am (.aa rfl) (.aa rfl) ((GP vR).trans (by rw[i]))) rfl (by rfl)).post EN
open PySem.Builtin PySem.Builtin.Str
theorem pM {i j n:Nat}(h:i<=j):min i n<=min j n:=Nat.le_min.mpr ⟨Aa (EJ ..) h,FP ..⟩
theorem Z8 (h:min j n-min i n=n):n=0\/i=0/\n<=j:=by
 rcases Nat.eq_zero_or_pos n with q |q
 ·exact .inl q
 ·rcases Nat.eq_zero_or_pos i with z |z
  ·subst z;exact .inr ⟨rfl,Aa (AB h.symm) (EJ ..)⟩
  ·exact absurd h (Cu (Ao (Nat.sub_lt (Ao q (Aa (AB h.symm) (J0 ..))) (Mu.mpr ⟨z,q⟩)) (FP ..)))
theorem Nw (i j n:Nat):Gy (Ab (i:Int)) (Ab (j:Int)) 1 n=Gy (Ab ((min i n:Nat):Int)) (Ab ((min j n:Nat):Int)) 1 n:=by
 have m k:min (min k n) n=min k n:=DA (FP ..);simp only[Gy,rU,if_false,UH,m,show((1:Int)>0)=True from eq_true (by decide),if_true]
theorem Nm (x:As):B6 x.cps.toList=x:=by show(⟨x.cps.toList.toArray⟩:As)=x;simp
theorem Ri {i j:Nat}(l:List Nat)(o:i<=j):JT (B6 l) (Ab (i:Int)) (Ab (j:Int))=B6 ((l.drop i).take (j-i)):=by
 have w:=C6 l;have z:Gy (Ab i) (Ab j) 1 (B6 l).length=(Ap (min j l.length-min i l.length)).map (λ k=>min i l.length+k):=by
  simp only[Nw,w,StrLaws.strSliceIndices_plain (pM o) (FP ..)]
 have A:(Gy (Ab i) (Ab j) 1 (B6 l).length).filterMap ((B6 l).cps[·]?)=(l.drop (min i l.length)).take (min j l.length-min i l.length):=by
  rw[Nw,StrLaws.sliced_plain (B6 l) (pM o) (FP ..),w];rfl
 have C:(l.drop (min i l.length)).take (min j l.length-min i l.length)=(l.drop i).take (j-i):=by
  by_cases h:i<=l.length
  ·rw[DA h];by_cases s:j<=l.length
   ·rw[DA s]
   ·have s:=G6 s;rw[G5 s,ER (AB G3),ER (G3▸Nat.sub_le_sub_right s i)]
  ·have h:=G6 h;rw[G5 h,CR (An _),CR h,List.take_nil,List.take_nil]
 unfold Txt.slice;split
 ·rename_i q
  replace q:=(z)▸q
  simp[w] at q;obtain E |⟨H,N⟩:=Z8 q
  ·have:=FM.mp E;subst this;rw[List.drop_nil,List.take_nil]
  ·skip
   subst H;rw[List.drop_zero,Nat.sub_zero,ER N]
 ·rw[A,C];rfl
theorem Vp (l:List Nat)(j:Nat):JT (B6 l) Ah (Ab (j:Int))=B6 (l.take j):=by
 have:=Ri l (j:=j) (AZ _);rw[<-this];have e:∀n:Nat,Gy Ah (Ab j) 1 n=Gy (Ab ((0:Nat):Int)) (Ab j) 1 n:=λ n=>by
  have h:=(UH 0 n).trans (congrArg _ (Nat.zero_min n));rfl
 unfold Txt.slice;rw[e]
theorem aU {i j:Nat}(l:List Nat)(h:i<=j):DV (.str (B6 l)) (Ab (i:Int)) (Ab (j:Int)) Ah=Ab (.str (B6 ((l.drop i).take (j-i)))):=by
 show(if(Ah:Option Int)=Ah then Ab (PV.str (JT (B6 l) (Ab i) (Ab j))) else Ah)=_;rw[if_pos rfl,Ri l h]
theorem OX (l:List Nat)(j:Nat):DV (.str (B6 l)) Ah (Ab (j:Int)) Ah=Ab (.str (B6 (l.take j))):=by
 show(if(Ah:Option Int)=Ah then Ab (PV.str (JT (B6 l) Ah (Ab j))) else Ah)=_;rw[if_pos rfl,Vp]
theorem O3:B6 a=B6 b↔a=b:=by
 constructor
 ·intro e;have:(B6 a).cps=(B6 b).cps:=by rw[e]
  have:=congrArg Array.toList this;simpa[B6] using this
 ·rintro rfl;rfl
theorem fZ (t:List Nat):t.length<=(Fq t).length:=by
 induction t with
 |nil=>exact An _
 |cons c r h=>
  have:Fq (c::r)=(if c=34 then[34,34] else[c])++Fq r:=rfl;rw[this];split<;>simp<;>omega
variable {c:Ai}{r:List Bs} in
def uM:List Nat->Option (List Nat)
 |[]=>Ah
 |[c]=>if c=34 then Ab [] else Ah
 |c::e::r=>if c=34 then(if e=34 then(uM r).map (34::·) else Ab []) else(uM (e::r)).map (c::·)
theorem ZZ (l t:List Nat)(k:uM l=Ab t):∃h,l=Fq t++34::h/\h.head?≠Ab 34:=by
 have A:∀n l t,l.length<=n->uM l=Ab t->∃h,l=Fq t++34::h/\h.head?≠Ab 34:=by
  intro n;induction n with
  |zero=>intro l t s k;rw[FM.mp (Nat.le_zero.mp s)] at k;contradiction
  |succ n O=>
   intro l t s k;cases l with
   |nil=>contradiction
   |cons c l=>
    have o:=Mw s;clear s;by_cases q:c=34
    ·subst q;cases l with
     |nil=>cases (if_pos rfl).symm.trans k;exact⟨[],rfl,nofun⟩
     |cons e r=>
      have k:=(if_pos rfl).symm.trans k;by_cases C:e=34
      ·subst C;obtain⟨w,E,rfl⟩:=Bp.mp ((if_pos rfl).symm.trans k);obtain⟨h,H,N⟩:=O r w (CQ o) E;exact⟨h,congrArg (λ x=>34::34::x) H,N⟩
      ·cases (if_neg C).symm.trans k
       exact⟨e::r,rfl,λ z=>C (AN z)⟩
    ·cases l with
     |nil=>exact absurd ((if_neg q).symm.trans k) nofun
     |cons e r=>
      obtain⟨w,E,rfl⟩:=Bp.mp ((if_neg q).symm.trans k);obtain⟨h,H,N⟩:=O (e::r) w o E;exact⟨h,(congrArg (c::·) H).trans (congrArg (λ x=>(x++Fq w)++34::h) (if_neg q:(if c=34 then[34,34] else[c])=[c]).symm),N⟩
 exact A l.length l t (An _) k
def WD (l:List Nat):Option (List Nat):=
 if l.take 3=[50,53,55] then(if(l.drop 3).take 2=[32,34] then uM (l.drop 5) else Ab []) else Ah
def QU:List PV->Option PV:=g1 (yA λ r=>if r.length<=4000 then(WD r.cps.toList).map (λ t=>.str (B6 t)) else Ah)
theorem Z1:("257":As)=B6 [50,53,55]:=rfl
theorem o7:(" \"":As)=B6 [32,34]:=rfl
theorem vZ {b:Bd->Option Ae}(I:GT w h)(T:Top c a b mg mb h)(o:GW w h C k mg mb):Gx (W1 w h) (k+1) 86 QU:=by
 refine o8 (Cl:=58) (SW I T) λ args d e=>?_;obtain⟨_,rfl,e⟩:=Of e;obtain⟨r,rfl,e⟩:=WT e
 ·obtain⟨W,e⟩:r.length<=4000/\(WD r.cps.toList).map (λ t=>PV.str (B6 t))=Ab d:=by
   by_cases q:r.length<=4000
   ·exact⟨q,(if_pos q).symm.trans e⟩
   ·exact absurd ((if_neg q).symm.trans e) nofun
  ·skip
   obtain⟨t,z,rfl⟩:=Bp.mp e
   (try clear e;try try clear T;try clear I)
   obtain⟨l,rfl⟩:∃l,r=B6 l:=⟨_,(Nm r).symm⟩;rw[C6] at W;have z:WD l=Ab t:=by simpa[B6] using z
   refine⟨rfl,λ A i m s B=>?_⟩
   conv in BG P1 10=>whnf
   unfold WD at z;split at z
   ·rename_i Z;have n:=Kz;have f:=aU l (i:=3) (j:=5) (Aj _ _);refine K4 o s B (.au (.slice (.aa (by kernel_rfl)) .no (.int .int) .no (OX l 3)) (.ag (d:=.str "257") (by kernel_rfl)) rfl ((cI _ _).trans ?_)) ?_
    ·rw[Z,Z1];rfl
    ·split at z
     ·rename_i N;have Q:l=[50,53,55,32,34]++l.drop 5:=by
       have O:l=l.take 3++((l.drop 3).take 2++(l.drop 3).drop 2):=by rw[E7,E7]
       simp only[Z,N,List.drop_drop] at O;exact O
      obtain⟨E,O,j⟩:=ZZ _ _ z;rw[O] at Q;have p:=fZ t;have H:([50,53,55,32,34]++(Fq t++34::E)).length<=B2:=by rw[<-Q];exact Aa W (of_decide_eq_true (_root_.id (Cy Ag)))
      have V:([]:List Nat).length+t.length<=B2:=by simp at H ⊢;omega
      refine K4 o s B (.au (.slice (.aa (by kernel_rfl)) (.int .int) (.int .int) .no f) (.ag (d:=.str " \"") (by kernel_rfl)) rfl ((cI _ _).trans ?_)) ?_
      ·rw[N,o7];rfl
      ·refine JF (By o s B (.ag (d:=.str "") (by kernel_rfl)) (by kernel_rfl) (by rfl)) ?_;refine JF (By o s B .int rfl (by rfl)) ?_;refine JF (By o s B (d:=.int l.length) (.blt rfl rfl (.cons (.aa rfl) .nil rfl) ?_) rfl (by rfl)) ?_
       ·show Ab (PV.int ((B6 l).length:Nat))=_;rw[C6]
       ·have g:=lU o s B j t [50,53,55,32,34] [] H V;rw[<-Q] at g;have u:Bu (Bu (Bu ((["resp"]:List As).zip ([PV.str (B6 l)].map Dt.aa)) "dirname" (.aa (.str ""))) "i" (.aa (.int 5))) "n" (.aa (.int l.length))=Js (B6 l) (B6 []) (([50,53,55,32,34]:List Nat).length:Nat) (l.length:Nat):=by rfl
        refine JF ((aO o s B g).pre (λ _ _ q=>q)) ?_;exact Vd (He o s B (.aa rfl))
     ·rename_i N;cases z;refine Vd (GB o s B (c:=Ag) (.au (.slice (.aa (by kernel_rfl)) (.int .int) (.int .int) .no f) (.ag (d:=.str " \"") (by kernel_rfl)) rfl ((cI _ _).trans ?_)) ?_)
      ·rw[o7,decide_eq_false (λ q=>N (O3.mp q))];rfl
      ·skip
       exact D4 (He o s B (.bn (.ag (by kernel_rfl))))
   ·contradiction
open PySem.NumText
def dg (i:Int):List Nat:=(Fs (OV i)).cps.toList
theorem rJ (i:Int):B6 (dg i)=Fs (OV i):=Nm _
theorem tA (m:Nat):dg (m:Int)=(Ih 10 m).map JY:=KIN.signs_num m
theorem s9 (m:Nat)(h:0<m):dg (-(m:Int))=45::(Ih 10 m).map JY:=by
 obtain⟨n,rfl⟩:∃n,m=n+1:=⟨m-1,(Nat.sub_add_cancel h).symm⟩;have e:OV (-((n+1:Nat):Int))="-"++Nat.repr (n+1):=rfl;unfold dg;rw[signs_ofString,String.toList_append,Dy,Nat.toList_repr];rfl
theorem Kk (m:Nat):AllDigits ((Ih 10 m).map JY):=λ c hc=>by
 obtain⟨k,h,e⟩:=AH.mp hc;rw[<-e];exact digit_range (Nat.isDigit_of_mem_toDigits (DQ _) (An _) h)
theorem RR (m:Nat):(Ih 10 m).map JY≠[]:=λ e=>by
 have h:=toDigits_len_ge 10 m;rw[List.map_eq_nil_iff.mp e] at h;exact absurd h (by decide)
theorem Qh (m:Nat)(h:m<10^10):((Ih 10 m).map JY).length<=10:=by
 rw[Al];exact toDigits_len_pow (by decide) (by decide) h
theorem Qi (i:Int)(h:i.natAbs<10^10):∃m:Nat,m<10^10/\((i=m/\dg i=(Ih 10 m).map JY)\/(i=-(m:Int)/\0<m/\dg i=45::(Ih 10 m).map JY)):=by
 refine⟨i.natAbs,h,?_⟩;by_cases q:0<=i
 ·have e:=(Int.natAbs_of_nonneg q).symm;exact .inl ⟨e,by rw[<-tA,<-e]⟩
 ·have q:=My.mp q;have e:i=-((i.natAbs:Nat):Int):=by rw[Int.ofNat_natAbs_of_nonpos (Int.le_of_lt q),Int.neg_neg]
  have p:=Int.natAbs_pos.mpr (Int.ne_of_lt q);exact .inr ⟨e,p,by rw[<-s9 _ p,<-e]⟩
theorem nZ (i:Int)(h:i.natAbs<10^10):∀c∈dg i,c=45\/(48<=c/\c<=57):=λ c hc=>by
 obtain⟨m,k,⟨_,e⟩ |⟨_,_,e⟩⟩:=Qi i h<;>replace hc:=(e)▸hc
 ·exact .inr (Kk m c hc)
 ·rcases Ak.mp hc with q |q
  ·exact .inl q
  ·exact .inr (Kk m c q)
theorem We (i:Int)(k:i.natAbs<10^10):(dg i).length<=11:=by
 obtain⟨m,h,⟨_,e⟩ |⟨_,_,e⟩⟩:=Qi i k<;>rw[e]
 ·exact BD (Qh m h)
 ·exact Bv (Qh m h)
theorem S2 (i:Int)(k:i.natAbs<10^10):M7 (B6 (dg i))=Ab i:=by
 have hc:(B6 (dg i)).cps.toList=dg i:=by rfl
 have o:(B6 (dg i)).length<=4300:=by rw[C6];have:=We i k;exact Aa this (of_decide_eq_true (_root_.id (Cy Ag)))
 obtain⟨m,s,⟨h,e⟩ |⟨h,_,e⟩⟩:=Qi i k
 ·have:=intText_digits (by rw[hc,e];exact Kk m) (by rw[hc,e];exact RR m) o;rw[this,hc,e,KIN.val_back,<-h]
 ·have:=intText_neg (by rw[hc,e]) (Kk m) (RR m) o;rw[this,KIN.val_back,<-h]
variable {r:List Bs} in
def HN (c:Nat):Nat->List Nat->List Nat
 |_,[]=>[]
 |k,x::r=>if x=c then k::HN c (k+1) r else HN c (k+1) r
theorem Ng (c:Nat):∀(a b:List Nat)(k:Nat),HN c k (a++b)=HN c k a++HN c (k+a.length) b:=by
 intro a;induction a with
 |nil=>
  intro b k;exact rfl
 |cons x r h=>
  intro b k;have e:k+(x::r).length=k+1+r.length:=by simp;exact Eq.symm (Ch k 1 (BR r))
  rw[e];show(if x=c then k::HN c (k+1) (r++b) else HN c (k+1) (r++b))=(if x=c then k::HN c (k+1) r else HN c (k+1) r)++_;rw[(h b (k+1))];split<;>rfl
theorem Ss (c:Nat):∀(a:List Nat)(k:Nat),c∉a->HN c k a=[]:=by
 intro a;induction a with
 |nil=>
  intro k h;exact rfl
 |cons x r o=>
  intro k h;have q:¬x=c:=λ q=>h (by rw[q];exact Ad);refine Eq.trans (if_neg q) ?_;exact o (k+1) λ q=>h (Af _ q)
open PySem.StrLaws in
theorem Rc (h:i<l.length):subAt (B6 l) (Gh c) i=decide (l[i]=c):=by
 have e:(B6 l).cps.extract i (i+1)= #[l[i]]:=by
  show l.toArray.extract i (i+1)=_;simp;rw[Fi h];rfl
 show((B6 l).cps.extract i (i+1)== #[c])=_;rw[e];by_cases q:l[i]=c
 ·simp[q]
 ·simp[q]
open PySem.StrLaws in
theorem bX (l:List Nat)(c o:Nat):∀(n k:Nat)(st:Array Nat×Nat),k+n=l.length+1->st.2<=k->
 ((forIn (m:=Id) (List.range' k n) st (occBody (B6 l) (Gh c) l.length o)).run.fst).toList=st.1.toList++(HN c k (l.drop k)).take (o-st.1.size):=by
 intro n;induction n with
 |zero=>
  intro k st hk w;rw[CR (CQ (AB hk.symm))];simp[HN]
 |succ n s=>
  intro k st hk w;rw[List.range'_succ,EG];simp only[occBody];by_cases h:k<l.length
  ·rw[(Fi h)];have A:HN c k (l[k]::l.drop (k+1))=if l[k]=c then k::HN c (k+1) (l.drop (k+1)) else HN c (k+1) (l.drop (k+1)):=rfl
   rw[A];split
   ·rename_i hc;have z:=hc.2;rw[Rc h] at z;rw[if_pos (of_decide_eq_true z)];have:o-st.1.size=(o-(st.1.push k).size)+1:=by rw[Array.size_push];exact(Nat.sub_one_add_one (Nat.sub_ne_zero_of_lt hc.1.1.1)).symm
    simp only[this,List.take_succ_cons];refine(s (k+1) (st.1.push k,k+1) ((Nat.succ_add_eq_add_succ k n).trans hk) (An _)).trans ?_;simp
   ·rename_i hc;refine(s (k+1) (st.1,st.2) ((Nat.succ_add_eq_add_succ k n).trans hk) (BD w)).trans ?_;by_cases q:l[k]=c
    ·have:¬st.1.size<o:=λ C=>hc ⟨⟨⟨C,w⟩,h⟩,by rw[Rc h,decide_eq_true q]⟩;rw[Nat.sub_eq_zero_of_le (B7.mp this)];rfl
    ·rw[if_neg q]
  ·rw[CR (B7.mp h)];have E:=Nat.le_zero.mp (Nat.le_of_add_le_add_left (Aa (AB (Hp hk)) (B7.mp h)));subst E;rw[if_neg (λ q=>h (q.1.2))];simp[HN]
open PySem.StrLaws in
theorem Px (l:List Nat)(c lo h:Nat)(k:lo<=l.length):occurrences (B6 l) (Gh c) lo l.length h=(HN c lo (l.drop lo)).take h:=by
 rw[occ_eq,bX l c h _ lo (#[],lo) (EF (BD k)) (An _)];rfl
theorem nG (h:HN c 0 l=i::r):Txt.find (B6 l) (Gh c)=i:=by
 unfold Txt.find;rw[C6,Px l c 0 1 (AZ _),List.drop_zero,h];rfl
theorem fT {i:Nat}{l:List Nat}{c lo:Nat}{r:List Nat}(h:lo<=l.length)(k:HN c lo (l.drop lo)=i::r):Txt.find3 (B6 l) (Gh c) lo=i:=by
 unfold Txt.find3;have:fromIndex (B6 l).length lo=lo:=by unfold fromIndex;rfl
 rw[this,C6,Px l c lo 1 h,k];rfl
theorem dQ (x y:As)(h:EC y=1):decide (EC x<EC y)=Av:=by
 refine decide_eq_false ?_;rw[h];unfold PySem.Builtin.Str.strKind;split
 ·exact EY 1
 ·split<;>omega
theorem jQ (l:List Nat)(i j:Nat):strSub (B6 l) i j=B6 ((l.drop i).take (j-i)):=by
 show(⟨l.toArray.extract i j⟩:As)=⟨((l.drop i).take (j-i)).toArray⟩;congr 1;apply Array.toList_inj.mp;simp
def Jh:List Nat:=[124,33,120,40]
theorem TA (w:m∈Jh)(z:m∉a):IL (B6 ([m,m,m]++(a++[m]))) (Gh m)=[B6 [],B6 [],B6 [],B6 a,B6 []]:=by
 have hk:EC (Gh m)=1:=by
  have:∀m∈Jh,EC (Gh m)=1:=by decide+kernel
  exact this m w
 have o:(B6 ([m,m,m]++(a++[m]))).length=a.length+4:=by rw[C6];simp
 have s:∀h,4<=h->occurrences (B6 ([m,m,m]++(a++[m]))) (Gh m) 0 (B6 ([m,m,m]++(a++[m]))).length h=[0,1,2,3+a.length]:=λ h k=>by
  rw[C6,Px _ m 0 h (AZ _),List.drop_zero,Ng,Ng,Ss m a _ z];have:HN m 0 [m,m,m]=[0,1,2]:=by simp[HN]
  rw[this];simp only[HN,if_true,D1,Ee,List.length_nil,Eg];rw[ER (by simpa using k)]
 unfold Txt.split;rw[if_neg (by
  rw[dQ _ _ hk,o];have:(Gh m).length=1:=rfl;rw[this];simp),if_neg (by rw[s _ (by rw[o];exact Aj 4 (BR a+1))];simp),s _ (by rw[o];exact Aj 4 (BR a+1)),StrLaws.partsBetween_eq]
 have A:(Gh m).length=1:=rfl;simp only[StrLaws.partsFrom,A,o,jQ];have C:(List.take (3+a.length-(2+1)) (List.drop (2+1) ([m,m,m]++(a++[m]))))=a:=by
  show List.take (3+a.length-3) (a++[m])=a;rw[show 3+a.length-3=a.length by omega,List.take_left'];rfl
 have E:List.take (a.length+4-(3+a.length+1)) (List.drop (3+a.length+1) ([m,m,m]++(a++[m])))=[]:=by
  rw[show a.length+4-(3+a.length+1)=0 by omega];rfl
 rw[C,E];rfl
def FU:List Nat:=[50,50,57,32,105,116,32,108,105,101,115,32,97,116,32]
def Jq:List Nat:=[32,40,124,124,124,55,124,41]
def Cc (m:Nat)(h:List Nat):List Nat:=FU++(40::([m,m,m]++(h++(m::41::Jq))))
theorem Vm (x y:Int):GI .Sub (.int x) (.int y)=Ab (.int (x-y)):=rfl
theorem fS (m:Nat)(h:List Nat):Mg .find (.str (B6 (Cc m h))) [.str "("]=Ab (.int 15):=by
 have e:("(":As)=Gh 40:=rfl;have k:HN 40 0 (Cc m h)=15::HN 40 16 ([m,m,m]++(h++(m::41::Jq))):=by
  unfold Cc;rw[Ng,Ss 40 FU 0 (by decide)];rfl
 show Ab (PV.int (Txt.find (B6 (Cc m h)) "("))=_;rw[e,nG k];rfl
theorem Y4 (m:Nat)(h:List Nat)(s:m∈Jh)(w:∀c∈h,c=45\/(48<=c/\c<=57)):Mg .find (.str (B6 (Cc m h))) [.str ")",.int 16]=Ab (.int ((20+h.length:Nat):Int)):=by
 have e:(")":As)=Gh 41:=rfl;have z:(41:Nat)∉[m,m,m]++(h++[m]):=by
  have k:(41:Nat)≠m:=λ q=>by rw[<-q] at s;exact absurd s (by decide)
  have o:(41:Nat)∉h:=λ q=>(w 41 q).elim (λ q=>absurd q (by decide)) λ q=>absurd q.1 (by decide);simp[k,o]
 have A:(Cc m h).drop 16=[m,m,m]++(h++[m])++41::Jq:=by simp[Cc,FU]
 have C:HN 41 16 ((Cc m h).drop 16)=(20+h.length)::HN 41 (16+([m,m,m]++(h++[m])).length+1) Jq:=by
  rw[A,Ng,Ss 41 _ 16 z];have:16+([m,m,m]++(h++[m])).length=20+h.length:=by rw[AQ,AQ,Ev h.length];exact(EZ 16 3 _).symm.trans (EZ 19 1 _).symm
  rw[this];rfl
 show Ab (PV.int (Txt.find3 (B6 (Cc m h)) ")" ((16:Nat):Int)))=_;rw[e,fT (by simp[Cc,FU]) C]
theorem rH {f:Bd->Option Ae}(I:GT w h)(T:Top g d f mg mb h)(o:GW w h C k mg mb)(W:m∈Jh){a:List Nat}(Z:∀c∈a,c=45\/(48<=c/\c<=57))(p:a.length<=20)(r:M7 (B6 a)=Ab i)(b:PV)(s:CY k A)(B:Kr w h 79 z N):
 Q5 (W1 w h) A (Fe w 79).scope z N 58 (BG P1 9) ((["resp","peer"]:List As).zip ([PV.str (B6 (Cc m a)),PV.ba [.str "peer",b]].map Dt.aa)) (.ret (.ba [.str "peer",.int i])):=by
 conv in BG P1 9=>whnf
 have y:=Kz;have j:m∉a:=λ q=>by
  have:∀m∈Jh,¬(m=45\/(48<=m/\m<=57)):=by decide
  exact this m W (Z m q)
 have E:(Cc m a).length<=B2:=by simp[Cc,FU,Jq];omega
 have t:DV (.str (B6 (Cc m a))) Ah (Ab 3) Ah=Ab (.str (B6 [50,50,57])):=OX (Cc m a) 3;have H:("229":As)=B6 [50,50,57]:=rfl;have O:Cc m a=(FU++[40])++m::([m,m]++(a++(m::41::Jq))):=by simp[Cc]
 have Q:EW (.str (B6 (Cc m a))) (.int 16)=Ab (.str (Gh m)):=by
  have:=Pn rfl (by rw[<-O];exact E);rw[<-O] at this;exact this
 have V:Cc m a=(FU++(40::([m,m,m]++a)))++m::(41::Jq):=by simp[Cc]
 have l:EW (.str (B6 (Cc m a))) (.int (((20+a.length:Nat):Int)-1))=Ab (.str (Gh m)):=by
  have:=Pn (a:=FU++(40::([m,m,m]++a))) (by simp[FU];exact Ev 19 (BR a)) (by rw[<-V];exact E);rw[<-V] at this;rw[((congrArg (λ n:Nat=>(n:Int)-1) (Nat.succ_add 19 a.length)).trans (Int.add_sub_cancel ((19+a.length:Nat):Int) 1))];exact this
 have u:DV (.str (B6 (Cc m a))) (Ab 16) (Ab ((20+a.length:Nat):Int)) Ah=Ab (.str (B6 ([m,m,m]++(a++[m])))):=by
  have:=aU (Cc m a) (i:=16) (j:=20+a.length) (Aa (by decide) (AS 20 _));refine this.trans ?_;have e:((Cc m a).drop 16).take (20+a.length-16)=[m,m,m]++(a++[m]):=by
   have:(Cc m a).drop 16=([m,m,m]++(a++[m]))++41::Jq:=by simp[Cc,FU]
   rw[this];exact List.take_left' (by simp;omega)
  rw[e]
 have v:Mg .split (.str (B6 ([m,m,m]++(a++[m])))) [.str (Gh m)]=Ab (.list [.str (B6 []),.str (B6 []),.str (B6 []),.str (B6 a),.str (B6 [])]):=by
  have x:Pw (B6 a)=Ag:=by
   unfold Pw;rw[AG];refine⟨?_,by rw[C6];exact decide_eq_true (Aa p (of_decide_eq_true (_root_.id (Cy Ag))))⟩;unfold PyData.strOk;rw[HK];intro c hc;have:c∈a:=by simpa[B6] using hc
   have:=Z c this;simp;omega
  show(if(!((Gh m).length==0)&&(IL (B6 ([m,m,m]++(a++[m]))) (Gh m)).all Pw&&decide ((IL (B6 ([m,m,m]++(a++[m]))) (Gh m)).length<=B2))=Ag then Ab (PV.list ((IL (B6 ([m,m,m]++(a++[m]))) (Gh m)).map .str)) else Ah)=_;rw[TA W j,if_pos]
  ·rfl
  ·have:(Gh m).length=1:=rfl;rw[this];simp[(by decide+kernel:Pw (B6 [])=Ag),x];decide+kernel
 refine K4 o s B (.au (.slice (.aa (by kernel_rfl)) .no (.int .int) .no t) (.ag (d:=.str "229") (by kernel_rfl)) rfl ((cI _ _).trans (by rw[H];simp))) ?_;refine JF (By o s B (.bw (by kernel_rfl) (by kernel_rfl) (.aa (by kernel_rfl)) (.cons (.ag (by kernel_rfl)) .nil rfl) (by simp) (fS m a)) (by kernel_rfl) (by rfl)) ?_;refine K4 o s B (.au (.aa rfl) .int rfl ((cR _ _).trans rfl)) ?_;refine JF (By o s B (.bw (by kernel_rfl) (by kernel_rfl) (.aa (by kernel_rfl)) (.cons (.ag (by kernel_rfl)) (.cons (.am (.aa (d:=.int 15) (by kernel_rfl)) .int rfl) .nil rfl) rfl) (by simp) (Y4 m a W Z)) (by kernel_rfl) (by rfl)) ?_;refine K4 o s B (.au (.aa rfl) .int rfl ((cR _ _).trans (by rw[decide_eq_false (IP.mpr (BE _))]))) ?_;refine K4 o s B (.au (.sub (.aa rfl) (.am (.aa rfl) .int rfl) (λ _ _=>rfl) Q) (.sub (.aa rfl) (.am (.aa rfl) .int (Vm _ _)) (λ _ _=>rfl) l) rfl ((cI _ _).trans (by simp))) ?_;refine JF (By o s B (.bw rfl rfl (.slice (.aa rfl) (.int (.am (.aa rfl) .int rfl)) (.int (.aa rfl)) .no u) (.cons (.sub (.aa rfl) (.am (.aa rfl) .int rfl) (λ _ _=>rfl) Q) .nil rfl) (by simp) v) rfl (by rfl)) ?_;refine K4 o s B (.au (.blt rfl rfl (.cons (.aa rfl) .nil rfl) rfl) .int rfl rfl) ?_;refine JF (By o s B (.sub (.aa rfl) .int (λ _ _=>rfl) rfl) rfl (by rfl)) ?_;refine JF (By o s B (d:=.int i) (.blt rfl rfl (.cons (.sub (.aa rfl) .int (λ _ _=>rfl) rfl) .nil rfl) ?_) rfl (by rfl)) ?_
 ·show(if decide ((B6 a).length<=640)=Ag then(M7 (B6 a)).map PV.int else Ah)=_;rw[if_pos (decide_eq_true (by rw[C6];exact Aa p (of_decide_eq_true (_root_.id (Cy Ag))))),r];rfl
 ·exact Vd (He o s B (.bn (.ba (.cons (.aa rfl) (.cons (.aa rfl) .nil rfl) rfl) (Aj 2 1048574))))
open Classical in
def Xi (args:List PV):Option PV:=if h:∃i:Int,i.natAbs<10^10/\∃m∈Jh,args=[.str (B6 (Cc m (dg i))),.ba [.str "peer",.int 21]] then Ab (.ba [.str "peer",.int h.choose]) else Ah
theorem jJ (h:Cc m a=Cc n b):a=b:=by
 have e:m=n:=by
  have:=congrArg (λ l:List Nat=>l.getD 16 0) h;exact this
 subst e;unfold Cc at h;simpa using h
theorem fF (o:m∈Jh)(k:i.natAbs<10^10):Xi [.str (B6 (Cc m (dg i))),.ba [.str "peer",.int 21]]=Ab (.ba [.str "peer",.int i]):=by
 have h:∃j:Int,j.natAbs<10^10/\∃n∈Jh,[PV.str (B6 (Cc m (dg i))),.ba [.str "peer",.int 21]]=[.str (B6 (Cc n (dg j))),.ba [.str "peer",.int 21]]:=⟨i,k,m,o,rfl⟩;refine(dif_pos h).trans ?_;obtain⟨s,n,_,e⟩:=h.choose_spec;injection e with e;injection e with e;have:=jJ (O3.mp e);have r:=S2 i k;rw[this,S2 _ s] at r;rw[AN r]
theorem wA {b:Bd->Option Ae}(I:GT w h)(T:Top c a b mg mb h)(z:GW w h C k mg mb):Gx (W1 w h) (k+1) 79 Xi:=by
 refine o8 (Cl:=58) (Qb I T) λ args d e=>?_;by_cases h:∃i:Int,i.natAbs<10^10/\∃m∈Jh,args=[.str (B6 (Cc m (dg i))),.ba [.str "peer",.int 21]]
 ·have e:=(dif_pos h).symm.trans e;cases e;obtain⟨o,m,E,s⟩:=h.choose_spec;generalize h.choose=j at o s ⊢;subst s;exact⟨rfl,λ A H O N B=>rH I T z E (nZ _ o) (by have:=We _ o;exact Aa this (of_decide_eq_true (_root_.id (Cy Ag)))) (S2 _ o) _ N B⟩
 ·exact absurd ((dif_neg h).symm.trans e) nofun
def Tj (k:BV)(w:Nat)(a:Ai)(args:List PV)(Cl:Ai)(x:As):Prop:=
 ∀(A:Dj)(s:Aq)(X:List Ai)(h:List Ae)(l:List E9),CY w A->A.frames=Ab l->Bb k s.heap l->Gd k s->(∀b∈X,k.h0.get? b=Ah/\∃o,s.heap.get? b=Ab o)->RpL k X s.heap h args->Rz k A (call (.ref a) h) s l Cl x
theorem uJ {b:Bd->Option Ae}(I:GT w h)(T:Top c a b mg mb h)(H:GW w h C k mg mb){l:List Nat}(N:l.take 3≠[50,53,55]):Tj (W1 w h) (k+1) 86 [.str (B6 l)] 58 (B6 l):=λ A s X E V o z St G O r=>by
 refine Z2 (x:="error_reply") (SW I T) rfl (λ A Q W o B=>?_) o z St G O r
 conv in BG P1 10=>whnf
 refine NY H o B (.au (.slice (b:=.str (B6 l)) (.aa (by kernel_rfl)) .no (.int .int) .no (OX l 3)) (.ag (d:=.str "257") (by kernel_rfl)) rfl ((cI _ _).trans ?_)) (fY I T) (by kernel_rfl) rfl (.aa (by kernel_rfl));rw[Z1,decide_eq_false (λ q=>N (O3.mp q))];rfl
theorem y5 {b:Bd->Option Ae}(I:GT w h)(T:Top c a b mg mb h)(H:GW w h C k mg mb){l:List Nat}(N:l.take 3≠[50,50,57]):Tj (W1 w h) (k+1) 79 [.str (B6 l),.ba [.str "peer",.int 21]] 58 (B6 l):=λ A s X E V o z St G O r=>by
 refine Z2 (x:="error_reply") (Qb I T) rfl (λ A Q W o B=>?_) o z St G O r
 conv in BG P1 9=>whnf
 refine NY H o B (.au (.slice (.aa (by kernel_rfl)) .no (.int .int) .no (OX l 3)) (.ag (d:=.str "229") (by kernel_rfl)) rfl ((cI _ _).trans ?_)) (fY I T) (by kernel_rfl) rfl (.aa (by kernel_rfl));rw[show("229":As)=B6 [50,50,57] by kernel_rfl,decide_eq_false (λ q=>N (O3.mp q))];rfl
def MD:List As:=["229 at 272)","229 at (|||7|x","229 at (||7|)","229 at (|||7||)","229 at (|||7|!)"]
def I! (x:As):Prop:=DV (.str x) Ah (Ab 3) Ah=Ab (.str "229")/\∃l,Mg .find (.str x) [.str "("]=Ab (.int l)/\(decide (l<0)=Ag\/decide (l<0)=Av/\∃r,Mg .find (.str x) [.str ")",.int (l+1)]=Ab (.int r)/\(decide (r<0)=Ag\/decide (r<0)=Av/\
 ∃a b,EW (.str x) (.int (l+1))=Ab (.str a)/\EW (.str x) (.int (r-1))=Ab (.str b)/\((!decide (a=b))=Ag\/(!decide (a=b))=Av/\∃y h n,DV (.str x) (Ab (l+1)) (Ab r) Ah=Ab (.str y)/\Mg .split (.str y) [.str a]=Ab (.list h)/\Q2 .len [.list h]=Ab (.int n)/\(!decide (n=5))=Ag)))
theorem yB (h:x∈MD):I! x:=by
 rcases Ak.mp h with rfl |h
 ·exact⟨by kernel_rfl,-1,by kernel_rfl,.inl rfl⟩
 rcases Ak.mp h with rfl |h
 ·exact⟨by kernel_rfl,7,by kernel_rfl,.inr ⟨rfl,-1,by kernel_rfl,.inl rfl⟩⟩
 rcases Ak.mp h with rfl |h
 ·exact⟨by kernel_rfl,7,by kernel_rfl,.inr ⟨rfl,12,by kernel_rfl,.inr ⟨rfl,"|","|",by kernel_rfl,by kernel_rfl,.inr ⟨by decide+kernel,"||7|",[.str "",.str "",.str "7",.str ""],4,by kernel_rfl,by kernel_rfl,by kernel_rfl,rfl⟩⟩⟩⟩
 rcases Ak.mp h with rfl |h
 ·exact⟨by kernel_rfl,7,by kernel_rfl,.inr ⟨rfl,14,by kernel_rfl,.inr ⟨rfl,"|","|",by kernel_rfl,by kernel_rfl,.inr ⟨by decide+kernel,"|||7||",[.str "",.str "",.str "",.str "7",.str "",.str ""],6,by kernel_rfl,by kernel_rfl,by kernel_rfl,rfl⟩⟩⟩⟩
 rcases Ak.mp h with rfl |h
 ·exact⟨by kernel_rfl,7,by kernel_rfl,.inr ⟨rfl,14,by kernel_rfl,.inr ⟨rfl,"|","!",by kernel_rfl,by kernel_rfl,.inl (by decide+kernel)⟩⟩⟩
 contradiction
theorem uK {d:Bd->Option Ae}(I:GT w h)(T:Top e c d mg mb h)(E:GW w h C k mg mb)(o:I! x):Tj (W1 w h) (k+1) 79 [.str x,.ba [.str "peer",.int 21]] 70 x:=λ A s X V M z O St G f r=>by
 refine Z2 (x:="error_proto") (Qb I T) rfl (λ A g R z B=>?_) z O St G f r;obtain⟨i,l,j,o⟩:=o
 conv in BG P1 9=>whnf
 have N:=pX I T;refine K4 E z B (.au (.slice (.aa (by kernel_rfl)) .no (.int .int) .no i) (.ag (d:=.str "229") (by kernel_rfl)) rfl (by kernel_rfl)) ?_;refine JF (By E z B (.bw (by kernel_rfl) (by kernel_rfl) (.aa (by kernel_rfl)) (.cons (.ag (by kernel_rfl)) .nil rfl) (by decide) j) (by kernel_rfl) (by rfl)) ?_;have L:∀{W:A5}{p:CE},W.lookup ("left":As)=Ab (.aa (.int l))->∀q k m,Dc C (Fe w 79).scope W (.BinOp (.Name "left" p) .Add (.Constant (.int 1) k q) m) (.int (l+1)):=λ h _ _ _=>.am (.aa h) .int rfl;rcases o with o |⟨o,r,t,H⟩
 ·exact NY E z B (.au (.aa rfl) .int rfl ((cR _ _).trans (congrArg Ab o))) N rfl rfl (.aa rfl)
 refine K4 E z B (.au (.aa rfl) .int rfl ((cR _ _).trans (congrArg Ab o))) ?_;refine JF (By E z B (.bw (by kernel_rfl) (by kernel_rfl) (.aa (by kernel_rfl)) (.cons (.ag (by kernel_rfl)) (.cons (L (by kernel_rfl) _ _ _) .nil rfl) rfl) (by decide) t) (by kernel_rfl) (by rfl)) ?_;rcases H with o |⟨o,a,b,Q,Z,H⟩
 ·exact NY E z B (.au (.aa rfl) .int rfl ((cR _ _).trans (congrArg Ab o))) N rfl rfl (.aa rfl)
 refine K4 E z B (.au (.aa rfl) .int rfl ((cR _ _).trans (congrArg Ab o))) ?_;rcases H with o |⟨o,y,S,n,u,v,D,J⟩
 ·exact NY E z B (.au (.sub (.aa rfl) (L rfl _ _ _) (λ _ _=>rfl) Q) (.sub (.aa rfl) (.am (.aa rfl) .int rfl) (λ _ _=>rfl) Z) rfl ((cI _ _).trans (congrArg Ab o))) N rfl rfl (.aa rfl)
 refine K4 E z B (.au (.sub (.aa rfl) (L rfl _ _ _) (λ _ _=>rfl) Q) (.sub (.aa rfl) (.am (.aa rfl) .int rfl) (λ _ _=>rfl) Z) rfl ((cI _ _).trans (congrArg Ab o))) ?_;refine JF (By E z B (.bw rfl rfl (.slice (.aa rfl) (.int (L rfl _ _ _)) (.int (.aa rfl)) .no u) (.cons (.sub (.aa rfl) (L rfl _ _ _) (λ _ _=>rfl) Q) .nil rfl) (by decide) v) rfl (by rfl)) ?_;exact NY E z B (.au (.blt rfl rfl (.cons (.aa rfl) .nil rfl) D) .int rfl (Eq.trans (by rfl) (congrArg Ab J))) N rfl rfl (.aa rfl)
theorem vA (h:x.natAbs<4294967296):GI .Mult (.int x) (.int y)=Ab (.int (x*y)):=by
 show(if x.natAbs<4294967296 then Ab (PV.int (x*y)) else Ah)=_;rw[if_pos h]
theorem QY (h:y≠0/\y.natAbs<1073741824):GI .FloorDiv (.int x) (.int y)=Ab (.int (x.fdiv y)):=by
 show(if y≠0/\y.natAbs<1073741824 then Ab (PV.int (x.fdiv y)) else Ah)=_;rw[if_pos h]
theorem SG (h:y≠0):GI .Mod (.int x) (.int y)=Ab (.int (x.fmod y)):=by
 show(if y≠0 then Ab (PV.int (x.fmod y)) else Ah)=_;rw[if_pos h]
theorem rF (h:0<=n/\n<=64/\x.natAbs<1048576):GI .Pow (.int x) (.int n)=Ab (.int (x^n.toNat)):=by
 show(if 0<=n/\n<=64/\x.natAbs<1048576 then Ab (PV.int (x^n.toNat)) else Ah)=_;rw[if_pos h]
theorem Og {x y:Int}(h:0<=y):x.fdiv y=x/y:=Int.fdiv_eq_ediv_of_nonneg x h
theorem MM {x y:Int}(h:0<=y):x.fmod y=x%y:=Int.fmod_eq_emod_of_nonneg x h
def PS:List Nat:=[63,112,99,63,100,63,98,63,45,63,108,63,115,63,63,63]
def xA (h:Nat)(D X:Int):List Nat:=
 [if 4<=D then 114 else 45,if D/2%2=1 then 119 else 45,
  if h=0 then[45,120,84,116].getD (D%2+X*2).toNat 0 else[45,120,83,115].getD (D%2+X*2).toNat 0]
def C7 (m:Int)(h:Nat):Int:=m/8^h%8
def JQ (m:Int)(h:Nat):Int:=m/512/2^h%2
def R7 (m:Int)(h:Nat):List Nat:=xA h (C7 m h) (JQ m h)
def Np (m:Int):List Nat:=[PS.getD (m/4096%16).toNat 0]++R7 m 2++R7 m 1++R7 m 0
def P5:List PV->Option PV:=g1 (uE λ m=>Ab (.str (B6 (Np m))))
def W7 (m:Int)(l:List Nat):A5:=[("mode",.aa (.int m)),("signs",.aa (.str (B6 l)))]
def pP (m:Int)(l:List Nat)(h:Nat):A5:=[("mode",.aa (.int m)),("signs",.aa (.str (B6 l))),("k",.aa (.int (h:Nat)))]
def dC (m:Int)(l:List Nat)(h:Nat)(D:Int):A5:=[("mode",.aa (.int m)),("signs",.aa (.str (B6 l))),("k",.aa (.int (h:Nat))),("digit",.aa (.int D))]
def yP:List As:=["mode","signs"]
def W5:Expr×List Bs×List Bs:=((LY (BG P1 39) 1).x 0,(LY (BG P1 39) 1).b 0,(LY (BG P1 39) 1).b 1)
theorem Z6 (h:n<16):EW (.str "?pc?d?b?-?l?s???") (.int (n:Nat))=Ab (.str (B6 [PS.getD n 0])):=by
 exact(show ∀n:Nat,n<16->EW (.str "?pc?d?b?-?l?s???") (.int n)=Ab (.str (B6 [PS.getD n 0])) from by
  repeat (refine Fg ?_ rfl)
  exact Kv) n h
theorem pE {D:Int}(h:0<=D)(k:D<8):EW (.str "-r") (.int (D.fdiv 4))=Ab (.str (B6 [if 4<=D then 114 else 45])):=by
 obtain⟨n,rfl,o⟩:=uO h k;exact(show ∀n:Nat,n<8->EW (.str "-r") (.int ((n:Int).fdiv 4))=Ab (.str (B6 [if 4<=(n:Int) then 114 else 45])) from by
  repeat (refine Fg ?_ rfl)
  exact Kv) n o
theorem pC {D:Int}(h:0<=D)(k:D<8):EW (.str "-w") (.int ((D.fdiv 2).fmod 2))=Ab (.str (B6 [if D/2%2=1 then 119 else 45])):=by
 obtain⟨n,rfl,o⟩:=uO h k;exact(show ∀n:Nat,n<8->EW (.str "-w") (.int (((n:Int).fdiv 2).fmod 2))=Ab (.str (B6 [if(n:Int)/2%2=1 then 119 else 45])) from by
  repeat (refine Fg ?_ rfl)
  exact Kv) n o
theorem pB (t:As)(l:List Nat)(k:t=B6 l)(o:l.length=4){D X:Int}(z:0<=X)(s:X<2):EW (.str t) (.int (D%2+X*2))=Ab (.str (B6 [l.getD (D%2+X*2).toNat 0])):=by
 subst k;obtain⟨n,w,h⟩:=uO (x:=D%2+X*2) (n:=4) (by omega) (by omega);rw[w];exact(yI (P:=λ l=>∀n:Nat,n<4->EW (.str (B6 l)) (.int n)=Ab (.str (B6 [l.getD n 0]))) (λ a b c d=>by
  repeat (refine Fg ?_ (by rfl))
  exact Kv) l o) n h
theorem J5 (f:GW w h C k mg mb)(g:CY k A)(B:Kr w h 168 z N)(m:Int)(i:j<=2)(hl:l.length<=100):
 F5 (W1 w h) A (Fe w 168).scope z N (execs W5.2.1 z) (pP m l j) (.next (W7 m (l++R7 m j))):=by
 have o:0<=C7 m j:=Gi _ (by decide);have s:C7 m j<8:=Hw _ (by decide);have E:0<=JQ m j:=Gi _ (by decide);have H:JQ m j<2:=Hw _ (by decide);have Q:(0:Int)<=8^j:=Int.le_of_lt (Int.pow_pos (BW (8-BZ 0)));have V:(0:Int)<=2^j:=Int.le_of_lt (Int.pow_pos (BW (2-BZ 0)));have u:(8:Int)^j≠0/\((8:Int)^j).natAbs<1073741824:=(by decide:∀j<3,(8:Int)^j≠0/\((8:Int)^j).natAbs<1073741824) j (CP i);have v:(2:Int)^j≠0/\((2:Int)^j).natAbs<1073741824:=(by decide:∀j<3,(2:Int)^j≠0/\((2:Int)^j).natAbs<1073741824) j (CP i)
 conv in W5.2.1=>whnf
 have y:(m.fdiv (8^j)).fmod 8=C7 m j:=by rw[Og Q,MM (BW (8+0))];rfl
 have D:((m.fdiv 512).fdiv (2^j)).fmod 2=JQ m j:=by rw[Og V,Og (BW (512+0)),MM (BW (2+0))];rfl
 refine Fk (By f g B (.am (.am (.aa rfl) (.am .int (.aa rfl) (rF ⟨BW (j+0),by omega,by decide⟩)) (QY u)) .int ((SG (by decide)).trans (congrArg (λ x=>Ab (PV.int x)) y))) rfl (by rfl)) ?_;have G:Bu (pP m l j) "digit" (.aa (.int (C7 m j)))=dC m l j (C7 m j):=rfl;rw[G];have n:5000<=B2:=by decide+kernel
 have p:GI .Add (.str (B6 l)) (.str (B6 [if 4<=C7 m j then 114 else 45]))=Ab (.str (B6 (l++[if 4<=C7 m j then 114 else 45]))):=by
  rw[GP (by rw[C6,C6];simp;omega),F9]
 have q:GI .Add (.str (B6 (l++[if 4<=C7 m j then 114 else 45]))) (.str (B6 [if C7 m j/2%2=1 then 119 else 45]))=Ab (.str (B6 ((l++[if 4<=C7 m j then 114 else 45])++[if C7 m j/2%2=1 then 119 else 45]))):=by
  rw[GP (by rw[C6,C6];simp;omega),F9]
 have r:∀c,GI .Add (.str (B6 ((l++[if 4<=C7 m j then 114 else 45])++[if C7 m j/2%2=1 then 119 else 45]))) (.str (B6 [c]))=Ab (.str (B6 (((l++[if 4<=C7 m j then 114 else 45])++[if C7 m j/2%2=1 then 119 else 45])++[c]))):=λ c=>by
  rw[GP (by rw[C6,C6];simp;omega),F9]
 have O:∀{I V J L M R S Q T W Z a b d e p16:CE}{U Y k3 k4 k5:Nat},Dc C (Fe w 168).scope (dC m l j (C7 m j)) (.BinOp (.BinOp (.Name "digit" I) .Mod (.Constant (.int 2) U V) J) .Add (.BinOp (.BinOp (.BinOp (.BinOp (.Name "mode" L) .FloorDiv (.Constant (.int 512) Y M) R) .FloorDiv (.BinOp (.Constant (.int 2) k3 S) .Pow (.Name "k" Q) T) W) .Mod (.Constant (.int 2) k4 Z) a) .Mult (.Constant (.int 2) k5 b) d) e) (.int (C7 m j%2+JQ m j*2)):=λ{_ _ _ _ _ _ _ _ _ _ _ _ _ _ _ _ _ _ _ _ _}=>
  .am (.am (.aa (d:=.int (C7 m j)) rfl) .int (SG (by decide))) (.am (.am (.am (.am (.aa (d:=.int m) rfl) .int (QY (by decide))) (.am .int (.aa (d:=.int (j:Nat)) rfl) (rF ⟨BW (j+0),by omega,by decide⟩)) (QY v)) .int ((SG (by decide)).trans (congrArg (λ x=>Ab (PV.int x)) D))) .int (vA (tR (Hv (by decide) E) (Int.lt_trans H (by decide))))) ((Ww _ _).trans (congrArg (λ x=>Ab (PV.int x)) (by rw[MM (BW (2+0))])))
 have e2:Ek yP (Bu (dC m l j (C7 m j)) "signs" (.aa (.str (B6 (l++R7 m j)))))=W7 m (l++R7 m j):=rfl;rw[<-e2];refine D4 ((By f g B ?_ rfl (by rfl)).post EN);by_cases t:j=0
 ·subst t;refine .am (.am (.am (.aa (by kernel_rfl)) (.sub (.bn (.ag (by kernel_rfl))) (.am (.aa (by kernel_rfl)) .int (QY (by decide))) (λ _ _=>rfl) (pE o s)) p) (.sub (.bn (.ag (by kernel_rfl))) (.am (.am (.aa (by kernel_rfl)) .int (QY (by decide))) .int (SG (by decide))) (λ _ _=>rfl) (pC o s)) q) (.sub (b:=.str "-xTt") (.bn (.ja (.au (.aa (d:=.int 0) (by kernel_rfl)) .int rfl ((ZP _ _).trans rfl)) (.ag (by kernel_rfl)))) (O (p16:=default)) (λ _ _=>rfl) (pB _ [45,120,84,116] (by kernel_rfl) rfl E H)) ((r _).trans ?_);rw[BY,BY];rfl
 ·refine .am (.am (.am (.aa (by kernel_rfl)) (.sub (.bn (.ag (by kernel_rfl))) (.am (.aa (by kernel_rfl)) .int (QY (by decide))) (λ _ _=>rfl) (pE o s)) p) (.sub (.bn (.ag (by kernel_rfl))) (.am (.am (.aa (by kernel_rfl)) .int (QY (by decide))) .int (SG (by decide))) (λ _ _=>rfl) (pC o s)) q) (.sub (b:=.str "-xSs") (.bn (.ja (.au (.aa (d:=.int j) (by kernel_rfl)) .int rfl ((ZP _ _).trans (by rw[decide_eq_false (by omega)]))) (.ag (by kernel_rfl)))) (O (p16:=default)) (λ _ _=>rfl) (pB _ [45,120,83,115] (by kernel_rfl) rfl E H)) ((r _).trans ?_);unfold R7 xA;rw[if_neg t,BY,BY];rfl
theorem Zd {b:Bd->Option Ae}(I:GT w h)(T:Top c a b mg mb h)(o:GW w h C k mg mb):Gx (W1 w h) (k+1) 168 P5:=by
 refine Oz (Qa I T) λ args d e=>?_;obtain⟨_,rfl,e⟩:=Of e;obtain⟨m,rfl,e⟩:=Nn e
 ·cases e
  refine⟨rfl,λ A z H s B=>?_⟩
  conv in BG P1 39=>whnf
  have hk:((m.fdiv 4096).fmod 16)=((m/4096%16).toNat:Nat):=by rw[Og (BW (4096+0)),MM (BW (16+0))];exact(Dp (Gi _ (by decide))).symm
  refine K5 (By o s B (.sub (.bn (.ag (by kernel_rfl))) (.am (.am (.aa (by kernel_rfl)) .int (QY (by decide))) .int ((SG (by decide)).trans (congrArg (λ x=>Ab (PV.int x)) hk))) (λ _ _=>rfl) (Z6 (yE _ (by decide)))) (by kernel_rfl) (by rfl)) ?_;have E:Bu ((["mode"]:List As).zip ([PV.int m].map Dt.aa)) "signs" (.aa (.str (B6 [PS.getD (m/4096%16).toNat 0])))=W7 m [PS.getD (m/4096%16).toNat 0]:=rfl;rw[E];refine K5 (J6 o s B (fl:=.next (W7 m (Np m))) (.ba (.ba (.cons .int (.cons .int (.cons .int .nil rfl) rfl) rfl) (by decide+kernel)) rfl) ?_) ?_
  ·refine .next rfl (J5 o s B m (by omega) (by simp)) ?_;refine .next rfl (J5 o s B m (by omega) (by simp[R7,xA])) ?_;refine .next rfl (J5 o s B m (by omega) (by simp[R7,xA])) ?_;exact .nil FT
  ·exact Jp (He o s B (.aa rfl))
theorem XZ (H:∀x k,ρ'.lookup x=Ab k->∃e,k=.aa e/\(O.lookup x=Ab (.aa e)\/O.lookup x=Ab (.own e)))(c:Th W A V z N b ρ' d):Th W A V z N b O d:=.mk λ Z X s Q E S f=>by
 refine c.go Z Z s Q E ⟨S.F.re S.F.bb (λ _ h=>h) (λ a h=>S.F.alive a (S.F.zx a h)) (λ _ _=>rfl) (λ x k w=>?_) (λ x y d e w=>?_),S.le,S.tk,λ a h C=>absurd h C,S.fc⟩ f
 ·obtain⟨e,rfl,q |q⟩:=H x k w
  ·exact⟨_,q,λ v _ r=>Rp.ai S.F.zx r⟩
  ·refine⟨_,q,λ v _ r=>?_⟩;obtain⟨a,rfl,h,C,o⟩:=r;exact o.rp C S.F.zx
 ·obtain⟨_,q,_⟩:=H x _ w
  contradiction
theorem Os (a b:Nat):a&&& b=2*(a/2&&& b/2)+(a%2)*(b%2):=by
 have h:(a&&& b)%2=(a%2)*(b%2):=by
  have:=Nat.and_mod_two_pow (a:=a) (b:=b) (n:=1);refine this.trans ?_;rcases GR a with e |e<;>rcases GR b with q |q<;>rw[e,q]<;>rfl
 rw[<-Nat.and_div_two,<-h,Nat.div_add_mod]
theorem Qs (n c:Nat):AP (NW n) (c:Int)=(c:Int)-((c&&& n:Nat):Int):=by
 have e:(Gn (NW n)).toNat=n:=by
  show((((n+1:Nat):Int)-1)).toNat=n;simp only[Int.natCast_add,Int.natCast_one,Int.add_sub_cancel];rfl
 rw[<-congrArg (λ z:Nat=>c-((c&&& z:Nat):Int)) e];rfl
theorem bC (h X n r:Int):2*h+r-(2*X+r*n)=2*(h-X)+(1-n)*r:=by grind
theorem lB (n:Nat):NW n%2=1-((n%2:Nat):Int):=by
 show Int.subNatNat 2 (n%2+1)=_;rcases GR n with e |e<;>rw[e]<;>rfl
theorem HB (m:Int)(c:Nat):AP m (c:Int)=2*AP (m/2) ((c/2:Nat):Int)+m%2*((c%2:Nat):Int):=by
 cases m with
 |ofNat n=>
  show(((n&&& c:Nat)):Int)=2*(((n/2&&& c/2:Nat)):Int)+((n%2*(c%2):Nat):Int);rw[Os n c];rfl
 |negSucc n=>
  rw[Qs,show NW n/2=NW (n/2) from rfl,Qs,Os c n,lB];refine Eq.trans ?_ (bC _ _ _ _);show c-_=((2*(c/2)+c%2:Nat):Int)-_;rw[Nat.div_add_mod];rfl
theorem NJ:∀(k:Nat)(m:Int),AP m ((2^k:Nat):Int)=m/((2^k:Nat):Int)%2*((2^k:Nat):Int):=by
 intro k;induction k with
 |zero=>
  intro m;rw[HB,bitAnd_zero,Int.ediv_one,Int.mul_zero,Int.zero_add]
 |succ k h=>
  intro m;rw[HB,KZ,LV _ (Jl),Nat.mul_mod_right,h,Hs,Ck (by decide:(0:Int)<=2),Int.natCast_zero,Int.mul_zero,Mz];exact KO ..
theorem Td (j:Nat):∀(k:Nat)(m:Int),AP m ((2^k*(2*2^j+1):Nat):Int)=m/((2^k*(2*2^j):Nat):Int)%2*((2^k*(2*2^j):Nat):Int)+m/((2^k:Nat):Int)%2*((2^k:Nat):Int):=by
 intro k;induction k with
 |zero=>
  intro m;simp only[Nat.pow_zero,Nat.one_mul];rw[HB,Nat.mul_add_div Jl,Nat.mul_add_mod,Nat.add_zero,NJ j,Hs,Ck (by decide:(0:Int)<=2),Int.ediv_one];congr 1;exact KO ..
 |succ k h=>
  intro m;have e:∀x:Nat,2^(k+1)*x=2*(2^k*x):=λ x=>by rw[KZ,K0]
  rw[e,e,HB,LV _ (Jl),Nat.mul_mod_right,h,KZ,Hs,Hs,Ck (by decide:(0:Int)<=2),Ck (by decide:(0:Int)<=2),Int.natCast_zero,Int.mul_zero,Mz,Int.mul_add];congr 1<;>exact KO ..
theorem lF (m:Int)(p:Nat):m%((2*p:Nat):Int)=2*(m/2%(p:Int))+m%2:=by
 simp only[Int.emod_def,Int.emod_def,Int.emod_def,Hs,show((2:Nat):Int)=2 from rfl,((Ck (by decide)).symm:m/(2*p)=m/2/p),Int.mul_sub,I2];generalize p*(m/2/p)=z;omega
theorem UE (h:0<p):(2*p-1)/2=p-1/\(2*p-1)%2=1:=by
 obtain⟨q,rfl⟩:∃q,p=q+1:=⟨p-1,(Nat.sub_add_cancel h).symm⟩;exact⟨Nat.mul_add_div Jl q 1,Nat.mul_add_mod 2 q 1⟩
theorem US:∀(k:Nat)(m:Int),AP m ((2^k-1:Nat):Int)=m%((2^k:Nat):Int):=by
 intro k;induction k with
 |zero=>
  intro m;rw[bitAnd_zero,Int.emod_one]
 |succ k h=>
  intro m;have:=Nat.two_pow_pos k;rw[HB,KZ,lF,(UE this).1,(UE this).2,h];rw[Int.mul_one]
theorem Zz (c:Nat):∀(k:Nat)(m:Int),AP m ((2^k*c:Nat):Int)=AP (m/((2^k:Nat):Int)) (c:Int)*((2^k:Nat):Int):=by
 intro k;induction k with
 |zero=>
  intro m;rw[Nat.pow_zero,Nat.one_mul,Int.ediv_one,Int.mul_one]
 |succ k h=>
  intro m;rw[KZ,K0,HB,LV _ (Jl),Nat.mul_mod_right,h,Hs,Ck (by decide:(0:Int)<=2),Int.natCast_zero,Int.mul_zero,Mz];exact KO ..
theorem oX (m:Int):AP m 61440=m/4096%16*4096:=(Zz 15 12 m).trans (congrArg (·*(4096:Int)) (US 4 (m/4096)))
theorem iM (m:Int):AP m 4095=m%4096:=US 12 m
def HM:List (List (Int×Nat)):=[[(40960,108),(49152,115),(32768,45),(24576,98),(16384,100),(8192,99),(4096,112)],[(256,114)],[(128,119)],[(2112,115),(2048,83),(64,120)],[(32,114)],[(16,119)],[(1032,115),(1024,83),(8,120)],[(4,114)],[(2,119)],[(513,116),(512,84),(1,120)]]
def wC (p:Int×Nat):PV:=.ba [.int p.1,.str (Gh p.2)]
def Ye (r:List (Int×Nat)):PV:=.ba (r.map wC)
theorem fQ:Xr=.ba (HM.map Ye):=rfl
variable {c:Ai}{r:List Bs} in
def KE (q:Int->Bool)(d:Nat):List (Int×Nat)->Nat
 |[]=>d
 |(b,c)::r=>if q b then c else KE q d r
theorem TN (q:Int->Bool)(d:Nat):KE q d []=d:=rfl
theorem Yj (q:Int->Bool)(d:Nat)(b:Int)(c:Nat)(r:List (Int×Nat)):KE q d ((b,c)::r)=if q b then c else KE q d r:=rfl
def Lh (m:Int)(i:Nat)(b:Int):Bool:=if i=0 then decide (AP m 61440=b) else decide (AP m b=b)
def DN (m:Int)(i:Nat)(r:List (Int×Nat)):Nat:=KE (Lh m i) (if i=0 then 63 else 45) r
variable {i:Nat}{a:List Ai}{r:List Bs} in
def Gq (m:Int):Nat->List (List (Int×Nat))->List Nat
 |_,[]=>[]
 |i,r::a=>DN m i r::Gq m (i+1) a
def Tl (l:List Nat):List PV:=l.map λ c=>.str (Gh c)
def RA (m:Int)(l:List Nat):A5:=[("mode",.aa (.int m)),("perm",.own (.list (Tl l)))]
def JO (m:Int)(l:List Nat)(i:Nat)(r:List (Int×Nat)):A5:=[("mode",.aa (.int m)),("perm",.own (.list (Tl l))),("index",.aa (.int (i:Nat))),("table",.aa (Ye r))]
def PM (m:Int)(l:List Nat)(i:Nat)(r:List (Int×Nat))(b:Int)(c:Nat):A5:=[("mode",.aa (.int m)),("perm",.own (.list (Tl l))),("index",.aa (.int (i:Nat))),("table",.aa (Ye r)),("bit",.aa (.int b)),("char",.aa (.str (Gh c)))]
def yR:List As:=["mode","perm"]
def vN:List As:=["mode","perm","index","table"]
def Kj:Expr×List Bs:=((LY (BG P1 34) 1).x 0,(LY (BG P1 34) 1).b 0)
def Y1:Expr×List Bs×List Bs:=((LY Kj.2 0).x 0,(LY Kj.2 0).b 0,(LY Kj.2 0).b 1)
theorem Sk (l:List Nat)(c:Nat):Tl l++[.str (Gh c)]=Tl (l++[c]):=by simp[Tl]
theorem vV (E:GW w h C k mg mb)(H:CY k A)(B:Kr w h 140 z N)(j:C.fn "S_IFMT"=Ab RL)(m:Int)(i:Nat)(o:List (Int×Nat))(d:l.length<100):∀r:List (Int×Nat),
 H8 (W1 w h) A (Fe w 140).scope z N Y1.1 Y1.2.1 Y1.2.2 (r.map wC) (JO m l i o) (.next (JO m (l++[KE (Lh m i) (if i=0 then 63 else 45) r]) i o)):=by
 intro r;induction r with
 |nil=>
  have W:(Tl l).length<B2:=by
   have:5000<=B2:=by decide+kernel
   simp[Tl];exact Ao d (of_decide_eq_true (_root_.id (Cy Ag)))
  refine .nil ?_
  conv in Y1.2.2=>whnf
  refine D4 (GB E H B (c:=decide (((i:Nat):Int)=0)) (.au (.aa (d:=.int (i:Nat)) rfl) .int rfl (ZP _ _)) ?_);by_cases O:i=0
  ·rw[decide_eq_true (by omega),if_pos rfl];have e:JO m (l++[KE (Lh m i) (if i=0 then 63 else 45) []]) i o=Bu (JO m l i o) "perm" (.own (.list (Tl l++[.str (Gh 63)]))):=by
    rw[Sk];rw(occs:=.all) [TN];rw[if_pos O];rfl
   rw[e];exact D4 (N0 E H B (by kernel_rfl) (by kernel_rfl) (.ag (d:=.str (Gh 63)) (by kernel_rfl)) W)
  ·rw[decide_eq_false (by omega),if_neg (by simp)];have e:JO m (l++[KE (Lh m i) (if i=0 then 63 else 45) []]) i o=Bu (JO m l i o) "perm" (.own (.list (Tl l++[.str (Gh 45)]))):=by
    rw[Sk];rw(occs:=.all) [TN];rw[if_neg O];rfl
   rw[e];exact D4 (N0 E H B (by kernel_rfl) (by kernel_rfl) (.ag (d:=.str (Gh 45)) (by kernel_rfl)) W)
 |cons n r Z=>
  obtain⟨b,c⟩:=n;have W:(Tl l).length<B2:=by
   have:5000<=B2:=by decide+kernel
   simp[Tl];exact Ao d (of_decide_eq_true (_root_.id (Cy Ag)))
  have p:=Z;have V:∀{q t f a u:CE}{Q:CE},(Q.endLine==f.line)=Ag->F5 (W1 w h) A (Fe w 140).scope z N (execs [.Expr (.Call (.Attribute (.Name "perm" q) "append" Q) [.Name "char" t] [] f) a,.Break u] z) (PM m l i o b c) (.brk (JO m (l++[c]) i o)):=λ{_ _ _ _ _ _} v=>by
   have e:JO m (l++[c]) i o=Ek vN (Bu (PM m l i o b c) "perm" (.own (.list (Tl l++[.str (Gh c)])))):=by rw[Sk];rfl
   rw[e];exact F5.du (Fk (N0 E H B (by rw[v];rfl) rfl (.aa (d:=.str (Gh c)) rfl) W) (D4 Na)) EN
  have no:F5 (W1 w h) A (Fe w 140).scope z N (execs [] z) (PM m l i o b c) (.next (JO m l i o)):=by
   have e:JO m l i o=Ek vN (PM m l i o b c):=rfl;rw[e];exact FT.post EN
  have g:∀{x y D:CE},Dc C (Fe w 140).scope (PM m l i o b c) (.Call (.Name "S_IFMT" x) [.Name "mode" y] [] D) (.int (AP m 61440)):=λ{_ _ _}=>.fn rfl j (.cons (.aa (d:=.int m) rfl) .nil rfl) rfl;by_cases s:Lh m i b=Ag
  ·have e:KE (Lh m i) (if i=0 then 63 else 45) ((b,c)::r)=c:=by rw(occs:=.all) [Yj];rw[if_pos s]
   rw[e];refine .brk (ρb:=PM m l i o b c) rfl ?_
   conv in Y1.2.1=>whnf
   refine LD (GB E H B (c:=decide (((i:Nat):Int)=0)) (.au (.aa (d:=.int (i:Nat)) rfl) .int rfl (ZP _ _)) ?_);unfold Lh at s;by_cases O:i=0
   ·rw[if_pos O] at s;rw[decide_eq_true (by omega),if_pos rfl];refine LD (GB E H B (c:=Ag) (.au g (.aa (d:=.int b) rfl) rfl ((ZP _ _).trans (congrArg Ab s))) ?_);rw[if_pos rfl];exact V rfl
   ·rw[if_neg O] at s;rw[decide_eq_false (by omega),if_neg (by simp)];refine LD (GB E H B (c:=Ag) (.au (.am (.aa (d:=.int m) rfl) (.aa (d:=.int b) rfl) (d:=.int (AP m b)) rfl) (.aa (d:=.int b) rfl) rfl ((ZP _ _).trans (congrArg Ab s))) ?_);rw[if_pos rfl];exact V rfl
  ·have e:KE (Lh m i) (if i=0 then 63 else 45) ((b,c)::r)=KE (Lh m i) (if i=0 then 63 else 45) r:=by
    show(if Lh m i b=Ag then c else _)=_;rw[if_neg s]
   rw[e];refine .next (ρb:=PM m l i o b c) rfl ?_ p
   conv in Y1.2.1=>whnf
   refine D4 (GB E H B (c:=decide (((i:Nat):Int)=0)) (.au (.aa (d:=.int (i:Nat)) rfl) .int rfl (ZP _ _)) ?_);have s:Lh m i b=Av:=by simpa using s
   unfold Lh at s;by_cases O:i=0
   ·rw[if_pos O] at s;rw[decide_eq_true (by omega),if_pos rfl];refine D4 (GB E H B (c:=Av) (.au g (.aa (d:=.int b) rfl) rfl ((ZP _ _).trans (congrArg Ab s))) ?_);rw[if_neg (by simp)];exact no
   ·rw[if_neg O] at s;rw[decide_eq_false (by omega),if_neg (by simp)];refine D4 (GB E H B (c:=Av) (.au (.am (.aa (d:=.int m) rfl) (.aa (d:=.int b) rfl) (d:=.int (AP m b)) rfl) (.aa (d:=.int b) rfl) rfl ((ZP _ _).trans (congrArg Ab s))) ?_);rw[if_neg (by simp)];exact no
theorem sT (o:GW w h C k mg mb)(s:CY k A)(B:Kr w h 140 z N)(E:C.fn "S_IFMT"=Ab RL)(m:Int)(i:Nat)(r:List (Int×Nat))(H:l.length<100):
 F5 (W1 w h) A (Fe w 140).scope z N (execs Kj.2 z) (JO m l i r) (.next (RA m (l++[DN m i r]))):=by
 have e:RA m (l++[DN m i r])=Ek yR (JO m (l++[DN m i r]) i r):=rfl;rw[e];have:=vV o s B E m i r H r
 conv in Kj.2=>whnf
 exact D4 ((J6 o s B (.ba (.aa rfl) rfl) this).post EN)
theorem YW (l:List Nat):Txt.join "" (l.map Gh)=B6 l:=by
 have k:∀l(a:List Nat),(l.map Gh).foldl (λ h p=>h++("":As).cps++p.cps) a.toArray=(a++l).toArray:=by
  intro l;induction l with
  |nil=>intro a;simp
  |cons c r o=>
   intro a;show(r.map Gh).foldl _ (a.toArray++("":As).cps++(Gh c).cps)=_;have e:a.toArray++("":As).cps++(Gh c).cps=(a++[c]).toArray:=by
    have:("":As).cps= #[]:=rfl;rw[this];show a.toArray++ #[]++ #[c]=_;simp
   rw[e,o];simp
 cases l with
 |nil=>rfl
 |cons c r=>
  show(⟨(r.map Gh).foldl (λ h p=>h++("":As).cps++p.cps) (Gh c).cps⟩:As)=_;have:=k r [c];have e:(Gh c).cps=[c].toArray:=rfl;rw[e,this];rfl
theorem X6:∀l:List Nat,Hd (Tl l)=Ab (l.map Gh):=by
 intro l;induction l with
 |nil=>
  exact rfl
 |cons c r h=>
  have k:=h;unfold Hd at k ⊢;rw[HY,k];rfl
theorem dY (x:As)(h:List PV):Mg .join (.str x) [.list h]=dZ x h:=rfl
theorem VT (l:List Nat)(h:l.length<=100):JoinOk "" (l.map Gh)=Ag:=by
 have k:∀(l:List Nat) n,(l.map Gh).foldl (λ a x=>a+x.length+("":As).length) n=n+l.length:=by
  intro l;induction l with
  |nil=>intro n;rfl
  |cons c r o=>
   intro n;rw[o];have:(Gh c).length=1:=rfl;have s:("":As).length=0:=rfl;rw[this,s];simp;exact Ch n 1 (BR r)
 unfold JoinOk;rw[List.foldl_toArray,k];have:∀n≤100,tooLong n=Av:=by decide+kernel
 rw[Ct,this _ h];rfl
def Q! (l:List Nat):Prop:=∀c∈l,c<1114112
theorem kQ (h:Q! l)(k:l.length<=1000):Pw (B6 l)=Ag:=by
 have o:=Kz;unfold Pw;rw[AG];refine⟨?_,by rw[C6];exact decide_eq_true (Aa k (of_decide_eq_true (_root_.id (Cy Ag))))⟩;unfold PyData.strOk;rw[HK];intro c hc;have:c∈l:=by simpa[B6] using hc
 simpa using h c this
theorem bU (q:Int->Bool)(d:Nat):∀r:List (Int×Nat),KE q d r=d\/∃p:Int×Nat,p∈r/\KE q d r=p.2:=by
 intro r;induction r with
 |nil=>
  exact .inl rfl
 |cons k r h=>
  obtain⟨b,c⟩:=k;show(if q b=Ag then c else KE q d r)=d\/∃p:Int×Nat,p∈_/\(if q b=Ag then c else KE q d r)=p.2;split
  ·exact .inr ⟨_,Ad,rfl⟩
  ·rcases h with e |⟨p,o,e⟩
   ·exact .inl e
   ·exact .inr ⟨p,Af _ o,e⟩
theorem Zb (m:Int):∀(k:List (List (Int×Nat)))(i:Nat),(∀r∈k,∀p∈r,p.2<1000)->∀c∈Gq m i k,c<1000:=by
 intro k;induction k with
 |nil=>
  intro i h c hc;exact nomatch hc
 |cons r k o=>
  intro i h c hc;rcases Ak.mp hc with e |e
  ·rw[e];unfold DN;rcases bU (Lh m i) (if i=0 then 63 else 45) r with q |⟨p,s,q⟩
   ·rw[q];split<;>omega
   ·rw[q];exact h r Ad p s
  ·exact o (i+1) (λ r w=>h r (Af _ w)) c e
theorem V7 (m:Int):∀(h:List (List (Int×Nat)))(i:Nat),(Gq m i h).length=h.length:=by
 intro h;induction h with
 |nil=>
  intro _;exact rfl
 |cons r h k=>
  intro i;exact congrArg (·+1) (k (i+1))
def Xj:List PV->Option PV:=g1 (uE λ m=>Ab (.str (B6 (Gq m 0 HM))))
theorem vW (O:GW w h C k mg mb)(Q:CY k A)(B:Kr w h 140 z N)(V:C.fn "S_IFMT"=Ab RL)(m:Int)(W:∀l i r,GH (Fe w 140).scope t (.ba [.int (i:Nat),Ye r]) (RA m l)=Ab (JO m l i r)):∀(o:List (List (Int×Nat)))(i:Nat)(l:List Nat),l.length+o.length<=100->
 H8 (W1 w h) A (Fe w 140).scope z N t Kj.2 [] (Qg i (o.map Ye)) (RA m l) (.next (RA m (l++Gq m i o))):=by
 intro o;induction o with
 |nil=>
  intro i l s;exact .nil ((EH l).symm▸FT)
 |cons r o E=>
  intro i l s;have H:=E (i+1) (l++[DN m i r]) (by simp at s ⊢;omega);rw[BY] at H;exact .next (W l i r) (sT O Q B V m i r (by simp at s;omega)) H
theorem s4 {b:Bd->Option Ae}(I:GT w h)(T:Top f a b mg mb h)(s:GW w h C k mg mb)(N:C.fn "S_IFMT"=Ab RL)(O:C.gv=sK):Gx (W1 w h) (k+1) 140 Xj:=by
 refine Oz (OB I T) λ args d e=>?_;obtain⟨_,rfl,e⟩:=Of e;obtain⟨m,rfl,e⟩:=Nn e
 ·cases e
  refine⟨rfl,λ A Q g z B=>?_⟩;have V:=Kz;have E:mg "enumerate"=Ah/\mb "enumerate"=Ab (.type "enumerate"):=⟨(Ej I T _).trans rfl,PD T (by decide+kernel) rfl⟩;have H:=vW s z B N m (t:=Kj.1) (λ l i r=>rfl) HM 0 [] (by decide);rw[D1] at H
  conv in BG P1 34=>whnf
  refine R8 s z B (d':=.list []) (.list .nil (AZ _)) rfl ?_ (by rfl);refine K5 (ρ1:=RA m (Gq m 0 HM)) (fO s z B E rfl (ds:=HM.map Ye) (.name ?_) (by rw[Al];exact Aa (by decide) V) H) ?_
  ·have:Rs C (Fe w 140).scope (Bu ((["mode"]:List As).zip ([PV.int m].map Dt.aa)) "perm" (.own (.list []))) "_filemode_table"=C.gv "_filemode_table":=rfl;rw[this,O];show Ab Xr=_;rw[fQ]
  ·refine XZ (ρ':=[("perm",.aa (.list (Tl (Gq m 0 HM))))]) (λ x W Z=>?_) (Jp (He s z B (.bn (.bw (b:=.str "") (mf:=.join) (by kernel_rfl) (by kernel_rfl) (.ag (by kernel_rfl)) (.cons (.aa (d:=.list (Tl (Gq m 0 HM))) (by kernel_rfl)) .nil rfl) (by simp) ?_))))
   ·have o:(if(x=="perm")=Ag then Ab (Dt.aa (.list (Tl (Gq m 0 HM)))) else Ah)=Ab W:=by
     rw[<-Z];show _=C9 x [("perm",Dt.aa (.list (Tl (Gq m 0 HM))))];rw[List.lookup_cons];cases (x==("perm":As))<;>rfl
    split at o
    ·rename_i q;cases o;have:x="perm":=by simpa using q
     subst this;exact⟨_,rfl,.inr rfl⟩
    ·cases o
   ·have j:(Gq m 0 HM).length=10:=V7 m HM 0;rw[dY,dZ];rw[X6,Option.bind_some,YW,VT _ (Aj (BR (Gq m 0 HM)) 90),kQ (λ c hc=>by have:=Zb m HM 0 (by decide) c hc;exact Ao this (of_decide_eq_true (_root_.id (Cy Ag)))) (Aj (BR (Gq m 0 HM)) 990)];rfl
theorem yW (m b:Int):Lh m 0 b=decide (m/4096%16*4096=b):=by unfold Lh;rw[if_pos rfl,oX]
theorem vQ (m:Int)(i:Nat)(b:Int)(h:i≠0):Lh m i b=decide (AP m b=b):=by unfold Lh;rw[if_neg h]
theorem mE (m:Int):DN m 0 [(40960,108),(49152,115),(32768,45),(24576,98),(16384,100),(8192,99),(4096,112)]=PS.getD (m/4096%16).toNat 0:=by
 obtain⟨n,k,h⟩:=uO (x:=m/4096%16) (Gi _ (by decide)) (Hw _ (by decide));unfold DN;simp only[KE,yW,k,if_pos];have:∀n:Nat,n<16->(if decide ((n:Int)*4096=40960)=Ag then 108 else if decide ((n:Int)*4096=49152)=Ag then 115 else if decide ((n:Int)*4096=32768)=Ag then 45 else if decide ((n:Int)*4096=24576)=Ag then 98 else if decide ((n:Int)*4096=16384)=Ag then 100 else if decide ((n:Int)*4096=8192)=Ag then 99 else if decide ((n:Int)*4096=4096)=Ag then 112 else 63)=PS.getD ((n:Int).toNat) 0:=by decide
 exact this n h
theorem N7 (m:Int)(i:Nat)(h:i≠0)(b:Int)(c:Nat)(p:Prop) [Decidable p] (k:AP m b=b↔p):DN m i [(b,c)]=if p then c else 45:=by
 unfold DN;simp only[KE,vQ m i b h,if_neg h];by_cases q:p
 ·rw[if_pos q,if_pos (decide_eq_true (k.mpr q))]
 ·rw[if_neg q,if_neg (λ z=>q (k.mp (of_decide_eq_true z)))]
theorem Pi (m:Int)(i:Nat)(s:i≠0)(h k o:Int)(w z A:Nat)(D X:Int)(C:D=0\/D=1)(E:X=0\/X=1)(H:AP m h=h↔(D=1/\X=1))(N:AP m k=k↔X=1)(O:AP m o=o↔D=1):
 DN m i [(h,w),(k,z),(o,A)]=[45,A,z,w].getD (D+X*2).toNat 0:=by
 unfold DN;simp only[KE,vQ m i _ s,if_neg s];rcases C with rfl |rfl<;>rcases E with rfl |rfl<;>simp[H,N,O]
theorem iD (a:Int):a%2=0\/a%2=1:=Int.emod_two_eq a
theorem uC (a b:Int)(h:b≠0):a%2*b=b↔a%2=1:=by
 rcases iD a with e |e<;>rw[e]
 ·rw[Int.zero_mul];exact⟨λ q=>absurd q.symm h,λ q=>absurd q (by decide)⟩
 ·rw[Int.one_mul];exact⟨λ _=>rfl,λ _=>rfl⟩
theorem wD (a:Int):a/2%2=a%8/2%2/\a/4%2=a%8/4%2:=by
 have e:=Int.emod_add_mul_ediv a 8;generalize a%8=r at e ⊢;generalize a/8=q at e;subst e;have h:r+8*q=r+(2*q)*4:=congrArg (r+·) ((I2 2 4 q).trans (by rw[Int.mul_comm 4 q,I2]))
 constructor
 ·rw[(congrArg (r+·) ((I2 4 2 q).trans (by rw[Int.mul_comm 2 q,I2])):r+8*q=r+(4*q)*2),Int.add_mul_ediv_right _ _ (by decide),I2 2 2 q,J3]
 ·rw[h,Int.add_mul_ediv_right _ _ (by decide),J3]
theorem xU (a b:Int)(h:b≠0):a/4%2*b=b↔4<=a%8:=(uC _ b h).trans (by
 rw[(wD a).2];obtain⟨m,e,k⟩:=uO (n:=8) (Gi _ (by decide)) (Hw _ (by decide));rw[e];exact(by decide:∀m:Nat,m<8->((m:Int)/4%2=1↔4<=(m:Int))) m k)
theorem xV (a b:Int)(h:b≠0):a/2%2*b=b↔a%8/2%2=1:=(uC _ b h).trans (by rw[(wD a).1])
theorem pL (a:Int):a%8%2=a%2:=Int.emod_emod_of_dvd a (by decide)
theorem xW (a b:Int)(h:b≠0):a%2*b=b↔a%8%2=1:=by rw[pL];exact uC a b h
theorem xS (x y b c:Int)(h:b≠0)(hc:c≠0)(k:b+c≠0):x%2*b+y%2*c=b+c↔(y%8%2=1/\x%2=1):=by
 rw[pL];rcases iD x with e |e<;>rcases iD y with f |f<;>rw[e,f]<;>simp only[Int.zero_mul,Int.one_mul,Int.zero_add,Mz]<;>skip<;>first |omega |simp
theorem Ko (h:Nat)(m a b c:Int)(k:0<=a)(hc:c=((2^h:Nat):Int))(o:a*b=c):AP m c=m/a/b%2*c:=by
 rw[Ck k,o,hc];exact NJ h m
theorem oP (m:Int):AP m 256=256↔4<=C7 m 2:=by
 rw[Ko 8 m 64 4 256 (by decide) rfl rfl];exact xU (m/64) 256 (by decide)
theorem tI (m:Int):AP m 32=32↔4<=C7 m 1:=by
 rw[Ko 5 m 8 4 32 (by decide) rfl rfl];exact xU (m/8) 32 (by decide)
theorem wP (m:Int):AP m 4=4↔4<=C7 m 0:=by
 rw[Ko 2 m 1 4 4 (by decide) rfl rfl];exact xU (m/1) 4 (by decide)
theorem oQ (m:Int):AP m 128=128↔C7 m 2/2%2=1:=by
 rw[Ko 7 m 64 2 128 (by decide) rfl rfl];exact xV (m/64) 128 (by decide)
theorem tJ (m:Int):AP m 16=16↔C7 m 1/2%2=1:=by
 rw[Ko 4 m 8 2 16 (by decide) rfl rfl];exact xV (m/8) 16 (by decide)
theorem wQ (m:Int):AP m 2=2↔C7 m 0/2%2=1:=by
 rw[Ko 1 m 1 2 2 (by decide) rfl rfl];exact xV (m/1) 2 (by decide)
theorem tH (m:Int):AP m 64=64↔C7 m 2%2=1:=by
 rw[NJ 6 m];exact xW (m/64) 64 (by decide)
theorem wO (m:Int):AP m 8=8↔C7 m 1%2=1:=by
 rw[NJ 3 m];exact xW (m/8) 8 (by decide)
theorem wR (m:Int):AP m 1=1↔C7 m 0%2=1:=by
 rw[NJ 0 m];exact xW (m/1) 1 (by decide)
theorem iA (m:Int):AP m 2048=2048↔JQ m 2=1:=by
 rw[Ko 11 m 512 4 2048 (by decide) rfl rfl];exact uC (m/512/4) 2048 (by decide)
theorem iC (m:Int):AP m 1024=1024↔JQ m 1=1:=by
 rw[Ko 10 m 512 2 1024 (by decide) rfl rfl];exact uC (m/512/2) 1024 (by decide)
theorem oO (m:Int):AP m 512=512↔JQ m 0=1:=by
 rw[Ko 9 m 512 1 512 (by decide) rfl rfl];exact uC (m/512/1) 512 (by decide)
theorem hW (m:Int):AP m 2112=2112↔(C7 m 2%2=1/\JQ m 2=1):=by
 rw[show AP m 2112=m/512/4%2*2048+m/64%2*64 by rw[(Ck (by decide))];exact Td 4 6 m];exact xS (m/512/4) (m/64) 2048 64 (by decide) (by decide) (by decide)
theorem iB (m:Int):AP m 1032=1032↔(C7 m 1%2=1/\JQ m 1=1):=by
 rw[show AP m 1032=m/512/2%2*1024+m/8%2*8 by rw[(Ck (by decide))];exact Td 6 3 m];exact xS (m/512/2) (m/8) 1024 8 (by decide) (by decide) (by decide)
theorem oM (m:Int):AP m 513=513↔(C7 m 0%2=1/\JQ m 0=1):=by
 rw[show AP m 513=m/512/1%2*512+m/1%2*1 by rw[(Ck (by decide))];exact Td 8 0 m];exact xS (m/512/1) (m/1) 512 1 (by decide) (by decide) (by decide)
theorem Za (m:Int):Gq m 0 HM=Np m:=by
 have h:∀k,C7 m k%2=0\/C7 m k%2=1:=λ k=>Int.emod_two_eq _;have o:∀k,JQ m k=0\/JQ m k=1:=λ k=>Int.emod_two_eq _;have e:Gq m 0 HM=[DN m 0 [(40960,108),(49152,115),(32768,45),(24576,98),(16384,100),(8192,99),(4096,112)],DN m 1 [(256,114)],DN m 2 [(128,119)],DN m 3 [(2112,115),(2048,83),(64,120)],DN m 4 [(32,114)],DN m 5 [(16,119)],DN m 6 [(1032,115),(1024,83),(8,120)],DN m 7 [(4,114)],DN m 8 [(2,119)],DN m 9 [(513,116),(512,84),(1,120)]]:=rfl;rw[e,mE,N7 m 1 (by decide) _ _ _ (oP m),N7 m 2 (by decide) _ _ _ (oQ m),Pi m 3 (by decide) _ _ _ _ _ _ _ _ (h 2) (o 2) (hW m) (iA m) (tH m),
  N7 m 4 (by decide) _ _ _ (tI m),N7 m 5 (by decide) _ _ _ (tJ m),Pi m 6 (by decide) _ _ _ _ _ _ _ _ (h 1) (o 1) (iB m) (iC m) (wO m),
  N7 m 7 (by decide) _ _ _ (wP m),N7 m 8 (by decide) _ _ _ (wQ m),Pi m 9 (by decide) _ _ _ _ _ _ _ _ (h 0) (o 0) (oM m) (oO m) (wR m)]
 rfl
theorem NZ (h:List PV)(i:Int):EW (.list h) (.int i)=if QW i=Ag then(GC i h.length).bind (h[·]?) else Ah:=rfl
theorem Hc (o:a.length<=B2)(h:a[i]? =Ab d):EW (.list a) (.int (i:Nat))=Ab d:=by
 have k:=(Co.mp h).1;have s:QW (i:Int)=Ag:=Xs (Ao k o);have w:GC (i:Int) a.length=Ab i:=ME k;refine(NZ a i).trans ?_;rw[if_pos s,w];exact h
def Gp:List As:=["a\"b","","z","\"","\"\"","zz"]
def rV:List Nat:=[124,33,120,40,124,33]
def Bj (l:List As):PV:=.list (l.map .str)
structure Ti (mo:List Int)(so:List (List As)):Prop where
 ma:mo.length=6
 nf:∀p∈mo,p.natAbs<1000000000
 lh:so.length=6
 mu:∀l∈so,l.length<=9
def WI (h:List Int)(k:List (List As)):List PV:=[Bj Gp,.list (h.map .int),.list (k.map Bj)]
def uB (p:Nat):As:=It (It (Gp.getD p "") p) (p+1)
def Pk (h:List Int)(k:List (List As))(p:Nat):List PV:=.str (uB p)::((k.getD p []).map .str++[.str (B6 (Cc (rV.getD p 0) (dg (h.getD p 0))))])
def Tw (h:List Int)(k:List (List As)):List PV:=.str "226 all told"::(Ap 6).flatMap (Pk h k)
def PL (h:List Int)(k:List (List As))(o:List PV):A5:=[("names",.aa (Bj Gp)),("modes",.aa (.list (h.map .int))),("spoiled",.aa (.list (k.map Bj))),("talk",.own (.list o))]
def yO:List As:=["names","modes","spoiled","talk"]
def o9 (i:Nat):List Bs:=(LY (BG P1 37) i).b 0
theorem yD (h:m∈Jh):GI .Mult (.str (Gh m)) (.int 3)=Ab (.str (B6 [m,m,m])):=by
 unfold Jh at h;simp only[Ak,BH,or_false] at h;rcases h with rfl |rfl |rfl |rfl<;>kernel_rfl
theorem lL (h:a<6):EW (.str "|!x(|!") (.int (a:Nat))=Ab (.str (Gh (rV.getD a 0))):=
 NK (P:=λ a=>EW (.str "|!x(|!") (.int (a:Nat))=Ab (.str (Gh (rV.getD a 0)))) rfl rfl rfl rfl rfl rfl a h
theorem W0 (h:a<6):rV.getD a 0∈Jh:=by
 have:∀a<6,rV.getD a 0∈Jh:=by decide
 exact this a h
theorem qU (h:p<6):RK [.str (Gp.getD p ""),.int (p:Nat)]=Ab (.str (It (Gp.getD p "") p)):=by
 have:∀s<6,LG (Gp.getD s "")=Ag:=by decide+kernel
 show(if LG (Gp.getD p "")=Ag/\0<=(p:Int)/\(p:Int)<7 then Ab (PV.str (It (Gp.getD p "") (p:Int).toNat)) else Ah)=_;rw[if_pos ⟨this p h,BE _,BO.mpr (Ao h (by decide))⟩];rfl
theorem qT (h:p<6):RK [.str (It (Gp.getD p "") p),.int ((p:Nat)+1)]=Ab (.str (uB p)):=by
 have:∀s<6,LG (It (Gp.getD s "") s)=Ag:=by decide+kernel
 show(if LG (It (Gp.getD p "") p)=Ag/\0<=(p:Int)+1/\(p:Int)+1<7 then Ab (PV.str (It (It (Gp.getD p "") p) ((p:Int)+1).toNat)) else Ah)=_;rw[if_pos ⟨this p h,BE (p+1),(BO).mpr (IM h)⟩];rfl
theorem Ki {i:Nat}{a:Type}{l:List a}{d:a}(h:i<l.length):l[i]? =Ab (l.getD i d):=by
 rw[Am,AA h];rfl
theorem getD_mem {i:Nat}{a:Type}{l:List a}{d:a}(h:i<l.length):l.getD i d∈l:=by
 rw[Am,AA h];exact Dg h
open Classical in
def JK (a:List PV)(r:PV):List PV->Option PV:=λ args=>if args=a then Ab r else Ah
section
theorem qJ (r:GW w h C k mg mb)(u:CY k A)(B:Kr w h 154 z N)(M:C.fn "_law_said"=Ab RK)(O:Ti a b)(S:∀s(p:Nat),GH (Fe w 154).scope t (.int p) (PL a b s)=Ab (Bu (PL a b s) "place" (.aa (.int p)))):∀(V:List Nat)(s:List PV),(∀p∈V,p<6)->s.length+11*V.length<=100->
 H8 (W1 w h) A (Fe w 154).scope z N t (o9 1) [] (V.map λ(i:Nat)=>.int (0+(i:Int)*1)) (PL a b s) (.next (PL a b (s++V.flatMap (Pk a b)))):=by
 intro V;induction V with
 |nil=>
  intro s v e;rw[List.flatMap_nil,EH];exact .nil FT
 |cons p V y=>
  intro s v e;have d:=Kz;have E:=v p Ad;have W:=O.mu _ (getD_mem (d:=[]) (by rw[O.lh];exact E));have Q:(Pk a b p).length<=11:=by
   unfold Pk;rw[Ee,AQ,Al,MU];exact Bv (Bv W)
  have D:=y (s++Pk a b p) (λ q T=>v q (Af _ T)) (by rw[AQ,EZ];exact Aa (A9 (Aa (B8 Q _) (AB (by rw[Ee,Nat.mul_succ,Ev]))) _) e);rw[BY] at D;have f:(a.getD p 0).natAbs<1000000000:=O.nf _ (getD_mem (by rw[O.ma];exact E));have U:(0+(p:Int)*1)=(p:Int):=zW _;show H8 _ _ _ _ _ _ _ _ (.int (0+(p:Int)*1)::_) _ _;rw[U];refine .next (S s p) ?_ D;have g:EW (.list (a.map .int)) (.int (p:Nat))=Ab (.int (a.getD p 0)):=Hc (by rw[Al,O.ma];exact Aa (by decide) d) (by rw[Bo,Ki (d:=0) (by rw[O.ma];exact E)];rfl);have j:EW (.list (b.map Bj)) (.int (p:Nat))=Ab (Bj (b.getD p [])):=Hc (by rw[Al,O.lh];exact Aa (by decide) d) (by rw[Bo,Ki (d:=[]) (by rw[O.lh];exact E)];rfl);have name:EW (Bj Gp) (.int (p:Nat))=Ab (.str (Gp.getD p "")):=Hc (by rw[Al];exact Aa (by decide) d) (by rw[Bo,Ki (d:=("":As)) E];rfl);have R:Pk a b p=.str (uB p)::((b.getD p []).map .str++[.str (B6 (Cc (rV.getD p 0) (dg (a.getD p 0))))]):=rfl;have Y:=W0 E;have G:=lL E;have s1:=qU E;have s2:=qT E
  conv in o9 1=>whnf
  rw[R];clear R D Q;generalize b.getD p []=Z at*;generalize a0:a.getD p 0=o at*;have l:("229 it lies at (":As)=B6 (FU++[40]):=rfl;have n:(") (|||7|)":As)=B6 (41::Jq):=rfl;have c:=We o (Cw f (by decide));have I:Q2 .str [.int o]=Ab (.str (B6 (dg o))):=by
   show(if o.natAbs<1000000000 then Ab (PV.str (Fs (OV o))) else Ah)=_;rw[if_pos f,rJ]
  generalize rV.getD p 0=m at*;generalize Gp.getD p ""=x at*;generalize uB p=H at*;refine Fk (By r u B (.sub (.bn (.ag (by kernel_rfl))) (.aa (by kernel_rfl)) (λ _ _=>rfl) G) (by kernel_rfl) (by rfl)) ?_;have a1:GI .Add (.str "229 it lies at (") (.str (B6 [m,m,m]))=Ab (.str (B6 ((FU++[40])++[m,m,m]))):=by
   rw[l,GP (by rw[C6,C6];exact AO rfl),F9]
  have a2:GI .Add (.str (B6 ((FU++[40])++[m,m,m]))) (.str (B6 (dg o)))=Ab (.str (B6 (((FU++[40])++[m,m,m])++dg o))):=by
   rw[GP (by rw[C6,C6];exact Aa (A9 c _) (AO rfl)),F9]
  have a3:GI .Add (.str (B6 (((FU++[40])++[m,m,m])++dg o))) (.str (Gh m))=Ab (.str (B6 ((((FU++[40])++[m,m,m])++dg o)++[m]))):=by
   have:Gh m=B6 [m]:=rfl;rw[this,GP (by rw[C6,C6,AQ];exact Aa (B8 (A9 c _) _) (AO rfl)),F9]
  have a4:GI .Add (.str (B6 ((((FU++[40])++[m,m,m])++dg o)++[m]))) (.str ") (|||7|)")=Ab (.str (B6 (Cc m (dg o)))):=by
   rw[n,GP (by rw[C6,C6,AQ,AQ];exact Aa (B8 (B8 (A9 c _) _) _) (AO rfl)),F9];have:((((FU++[40])++[m,m,m])++dg o)++[m])++(41::Jq)=Cc m (dg o):=by simp only[Cc,BY,Eg,D1]
   rw[this]
  have J:(s++[PV.str H]).length+(Z.map PV.str).length<=B2:=by rw[AQ,Al];exact Aa (FQ (Bv (Ii e)) W) (Aa (by decide) d)
  have L:((s++[PV.str H])++Z.map PV.str).length<B2:=by rw[AQ,AQ,Al];exact Az (FQ (Bv (Ii e)) W) (Ao (by decide) d)
  refine Fk (N0 (xs:=s) (d:=.str H) r u B rfl rfl (.fn rfl M (.cons (.fn rfl M (.cons (.sub (b:=Bj Gp) (.aa rfl) (.aa (d:=.int (p:Nat)) rfl) (λ _ _=>rfl) name) (.cons (.aa (d:=.int (p:Nat)) rfl) .nil rfl) rfl) s1) (.cons (.am (.aa (d:=.int (p:Nat)) rfl) .int (Ww _ _)) .nil rfl) rfl) s2) (Az (Ii e) (Ao (by decide) d))) ?_;refine Fk (qQ r u B rfl rfl (.sub (.aa rfl) (.aa rfl) (λ _ _=>rfl) j) J) ?_;have e9:PL a b (s++(.str H::(Z.map .str++[.str (B6 (Cc m (dg o)))])))=Ek yO (Bu (Bu (Bu (Bu (Bu (PL a b s) "place" (.aa (.int p))) "mark" (.aa (.str (Gh m)))) "talk" (.own (.list (s++[.str H])))) "talk" (.own (.list ((s++[.str H])++Z.map .str)))) "talk" (.own (.list (((s++[.str H])++Z.map .str)++[.str (B6 (Cc m (dg o)))])))):=by
   rw[show s++(PV.str H::(Z.map .str++[.str (B6 (Cc m (dg o)))]))=((s++[.str H])++Z.map .str)++[.str (B6 (Cc m (dg o)))] by simp];rfl
  rw[e9];exact D4 ((N0 r u B (by kernel_rfl) (by kernel_rfl) (.am (.am (.am (.am (.ag (by kernel_rfl)) (.am (.aa (by kernel_rfl)) .int (yD Y)) a1) (.blt (by kernel_rfl) (by kernel_rfl) (.cons (.sub (.aa (by kernel_rfl)) (.aa (by kernel_rfl)) (λ _ _=>rfl) g) .nil rfl) I) a2) (.aa (by kernel_rfl)) a3) (.ag (by kernel_rfl)) a4) L).post EN)
theorem sW {f:Bd->Option Ae}(I:GT w h)(T:Top g c f mg mb h)(o:GW w h C k mg mb)(z:C.fn "_law_said"=Ab RK)(E:Ti a b):Gx (W1 w h) (k+1) 154 (JK (WI a b) (.list (Tw a b))):=by
 refine Oz (Xn I T) λ args d e=>?_;unfold JK at e;split at e
 ·rename_i H;subst H;cases e;refine⟨rfl,λ A N V s B=>?_⟩
  conv in BG P1 37=>whnf
  refine R8 o s B (d':=.list [.str "226 all told"]) (.list (.cons (.ag (by kernel_rfl)) .nil rfl) (by decide+kernel)) (by kernel_rfl) ?_ (by rfl);have O:Bu ((["names","modes","spoiled"]:List As).zip ((WI a b).map Dt.aa)) "talk" (.own (.list [.str "226 all told"]))=PL a b [.str "226 all told"]:=rfl;rw[O];refine K5 (J6 o s B (.range (ds:=[.int 6]) rfl (.cons .int .nil rfl) rfl) ((λ q=>qJ o s B z E (t:=.Name "place" q) (λ W p=>rfl) (Ap 6) [.str "226 all told"] (λ p Q=>Au.mp Q) (AO rfl)) _)) ?_;exact Jp (He o s B (.own rfl))
 ·cases e
end
theorem T6 (n:Nat):∀h:List As,lvlL (n+1) (h.map PV.str)=Ag:=by
 intro h;induction h with
 |nil=>
  exact rfl
 |cons s r k=>
  show(To (n+1) (PV.str s)&&lvlL (n+1) (r.map PV.str))=Ag;rw[k];rfl
theorem Wb (h:List As):NU (Bj h) (.list [])=Ab h.isEmpty:=by
 cases h with
 |nil=>rfl
 |cons s r=>
  unfold NU;rw[if_pos]
  ·rfl
  ·show(lvlL 5 ((s::r).map PV.str)&&Ag)=Ag;rw[T6 4];rfl
theorem Xd (x:As)(h:List As):YS (.str x) (Bj h)=Ab (h.any λ y=>y==x):=by
 unfold YS Bj;show(if(To 6 (.str x)&&lvlL 6 (h.map PV.str))=Ag then Ab ((toPyL (h.map PV.str)).any λ y=>Dn y (Iz (.str x))) else Ah)=_;rw[T6 5,if_pos (by rfl)];congr 1;induction h with
 |nil=>rfl
 |cons s r k=>
  show(Dn (.str s) (.str x)||(toPyL (r.map PV.str)).any λ y=>Dn y (Iz (.str x)))=((s==x)||r.any λ y=>y==x);rw[k];rfl
def bR (p:As×As):PV:=.ba [.str p.1,.str p.2]
def Hi (l:List (As×As)):PV:=.list (l.map bR)
def ZW (h:List (As×As))(left:List As):List As:=(h.filter λ p=>left.any (·==p.1)).map (·.2)
def Ox (h:List (As×As))(left:List As):List As:=(left.filter λ n=>!(ZW h left).any (·==n)).take 2
def W6 (h:List (As×As))(left:List As):List As:=left.filter λ n=>!(Ox h left).any (·==n)
def Kw (h:List (As×As))(p:List PV×List As):List PV×List As:=(if(Ox h p.2).isEmpty then p.1 else p.1++[Bj (Ox h p.2)],W6 h p.2)
def Rf (p:List PV×List As):PV:=.ba [.list p.1,Bj p.2]
theorem Po:∀h:List As,Hd (h.map .str)=Ab h:=by
 intro h;induction h with
 |nil=>rfl
 |cons s r k=>
  unfold Hd at k ⊢;rw[Bl,HY,k];rfl
open Classical in
def RM (k:List (As×As))(args:List PV):Option PV:=if h:∃p:List PV×List As,args=[Rf p,Hi k]/\p.1.length<=100/\p.2.length<=100 then Ab (Rf (Kw k h.choose)) else Ah
theorem jU (o:Rf p=Rf q):p=q:=by
 have h:=H6 (PV.ba.inj o);have k:=congrArg Hd (PV.list.inj (H6 h.2).1);rw[Po,Po] at k;exact Prod.ext (PV.list.inj h.1) (AN k)
theorem mS {p:List PV×List As}(k:p.1.length<=100)(o:p.2.length<=100):RM nx [Rf p,Hi nx]=Ab (Rf (Kw nx p)):=by
 have h:∃q:List PV×List As,[Rf p,Hi nx]=[Rf q,Hi nx]/\q.1.length<=100/\q.2.length<=100:=⟨p,rfl,k,o⟩;exact(dif_pos h).trans (congrArg (λ q=>Ab (Rf (Kw nx q))) (jU (H6 h.choose_spec.1).1).symm)
theorem fB (e:RM a args=Ab d):∃p:List PV×List As,args=[Rf p,Hi a]/\p.1.length<=100/\p.2.length<=100/\d=Rf (Kw a p):=by
 unfold RM at e;split at e
 ·rename_i h;have s:=h.choose_spec;exact⟨_,s.1,s.2.1,s.2.2,(AN e).symm⟩
 ·contradiction
theorem Py (x:As)(h:List As):I9 .NotIn (.str x) (Bj h)=Ab (!h.any λ y=>y==x):=by
 show(YS (.str x) (Bj h)).map (!·)=_
 rw[Xd];rfl
section
theorem sZ {c:Bd->Option Ae}{a:List (As×As)}(I:GT w h)(T:Top f b c mg mb h)(N:GW w h C k mg mb)(j:a.length<=100):Gx (W1 w h) (k+1) 178 (RM a):=by
 refine Oz (Xq I T) λ args d e=>?_;obtain⟨⟨V,left⟩,rfl,W,z,rfl⟩:=fB e;refine⟨rfl,λ A l v O B=>?_⟩;have g:=Kz;have Q:100<=B2:=Aa (by decide) g;have W:=W;have z:=z;obtain⟨s,E⟩:∃s,s=ZW a left:=⟨_,rfl⟩;obtain⟨o,H⟩:∃o,o=Ox a left:=⟨_,rfl⟩;have m:Rf (Kw a (V,left))=.ba [.list (if o.isEmpty then V else V++[Bj o]),.list ((left.filter λ n=>!o.any (·==n)).map PV.str)]:=by rw[H];rfl
 have r:Bj s=.list ((a.filter λ p=>left.any (·==p.1)).map λ p=>PV.str p.2):=by rw[E];exact congrArg PV.list Be
 have t:Bj o=.list (((left.filter λ n=>!s.any (·==n)).map PV.str).take 2):=by rw[H,E,<-Hm];rfl
 have Z:I9 .NotEq (Bj o) (.list [])=Ab (!o.isEmpty):=by
  show(NU _ _).map (!·)=_
  rw[Wb];rfl
 have u:∀(y:As)(i:List As),((left.filter λ n=>!i.any (·==n)).map PV.str).length<=B2:=λ _ i=>by rw[Al];exact Aa (AX ..) (Aa z Q)
 rw[m]
 conv in BG P1 41=>whnf
 refine K5 (Pq N O B (.aa rfl) rfl rfl rfl rfl) ?_;refine K5 (DU N O B (d:=Bj s) (by
  rw[r];exact .T (l:=a) (g:=bR) (λ p=>left.any (·==p.1)) (λ p=>PV.str p.2) (.list (.aa rfl) rfl) rfl rfl (λ p _=>⟨[("b",.aa (.str p.2)),("a",.aa (.str p.1)),("left",.aa (Bj left))],rfl,.bq (.cq (.aa rfl) (.aa rfl) rfl (.inl rfl) (Xd p.1 left)),λ _=>.aa rfl⟩) (Aa j Q)) rfl) ?_
 refine K5 (By N O B (x:="free") (d:=Bj o) (by
  rw[t];exact .slice (l:=Ah) (u:=Ab 2) (t:=Ah) (.bn (EE.ev<| .T (l:=left) (λ n=>!s.any (·==n)) PV.str (.list (.aa rfl) rfl) rfl rfl (λ n _=>⟨[("name",.aa (.str n)),("waiting",.aa (Bj s))],rfl,.bq (.cq (.aa rfl) (.aa rfl) rfl (.inr rfl) (Py n s)),λ _=>.aa rfl⟩) (Aa z Q))) .no (.int .int) .no (N2 _ 2 (u default s))) rfl (by rfl)) ?_
 refine Jp (He N O B (.bn (.ba (.cons (.ja (.au (.aa rfl) (.list .nil (AZ _)) rfl Z) ?_) (.cons (EE.ev (.T (l:=left) (λ n=>!o.any (·==n)) PV.str (.list (.aa rfl) rfl) rfl rfl (λ n _=>⟨[("name",.aa (.str n)),("free",.aa (Bj o))],rfl,.bq (.cq (.aa rfl) (.aa rfl) rfl (.inr rfl) (Py n o)),λ _=>.aa rfl⟩) (Aa z Q))) .nil rfl) rfl) (Aj _ _))))
 cases q:o.isEmpty with
 |true=>exact .aa rfl
 |false=>exact .am (.aa rfl) (.list (.cons (.aa rfl) .nil rfl) (Aj _ _)) ((if_pos (Aa (Bv W) (Aa (by decide) g))).trans rfl)
end
def DY (l:List Int):PV:=.list (l.map .int)
def Bh (l:List Nat):PV:=.list (l.map λ n=>.int (n:Nat))
def pK (p:Nat×Nat):PV:=.ba [.int p.1,.int p.2]
def IA (l:List (Nat×Nat)):PV:=.list (l.map pK)
theorem rG (h:Nat):((2:Int)^h)=((2^h:Nat):Int):=by push_cast;rfl
theorem oR (c h:Nat):((c:Int).fdiv (2^h)).fmod 2=((c/2^h%2:Nat):Int):=by
 rw[rG,Og (BE _),MM (BW (2+0))];rfl
theorem TL (h:Nat)(k:h<12):GI .Pow (.int 2) (.int (h:Nat))=Ab (.int ((2^h:Nat):Int)):=by
 rw[rF ⟨BW (h+0),Fv.mpr (Aa (AY k) (by decide)),AO rfl⟩,show(h:Int).toNat=h from rfl,rG]
theorem Hj (e:a=Ek ks ρ1)(h:F5 W A V z N t O (.next ρ1)):F5 W A V z N t O (.next a):=e▸h.post EN
theorem Kd (l:List Int):Hy (l.map PV.int)=Ab l:=by
 unfold Hy;rw[Yv (g:=λ d=>match d with | .int i=>i |_=>0) λ x h=>?_,Be]
 ·congr 1;exact List.map_id l
 ·obtain⟨i,_,rfl⟩:=AH.mp h;rfl
theorem oW (a b:Nat):GI .BitAnd (.int (a:Nat)) (.int (b:Nat))=Ab (.int ((a&&& b:Nat):Int)):=by
 show Ab (PV.int (AP a b))=_;rw[bitAnd_pp (BW (a+0)) (BW (b+0))];rfl
theorem Sv (a b:Nat):GI .BitOr (.int (a:Nat)) (.int (b:Nat))=Ab (.int ((a|||b:Nat):Int)):=by
 show Ab (PV.int (Gn (AP (Gn a) (Gn b))))=_;have h:∀a:Nat,¬0<=Gn a:=λ a=>My.mpr (Int.sub_one_lt_of_le (Int.neg_nonpos_of_nonneg (BE a)));rw[bitAnd_nn (h _) (h _)];have e:∀x:Int,Gn (Gn x)=x:=λ x=>by show -(-x-1)-1=x;rw[Int.neg_sub,Int.sub_neg,Int.add_comm,Int.add_sub_cancel]
 rw[e,e,e];rfl
theorem vC (a b:Int):Q2 .min [.int a,.int b]=Ab (.int (if b<a then b else a)):=rfl
def Dw (h:List (Nat×Nat))(k:Nat):Nat:=((h.filter λ p=>p.2==k).map λ p=>2^p.1).sum
def FV (h:List (Nat×Nat)):List Nat:=(Ap 6).map (Dw h)
def Ud (h:List (Nat×Nat))(t:List Nat):A5:=[("pairs",.aa (IA h)),("needs",.aa (Bh (FV h))),("fewest",.own (Bh t))]
def RB (h:List (Nat×Nat))(t:List Nat)(d:Nat)(k:List Nat):A5:=[("pairs",.aa (IA h)),("needs",.aa (Bh (FV h))),("fewest",.own (Bh t)),("done",.aa (.int (d:Nat))),("free",.aa (Bh k))]
def Mj (h:List (Nat×Nat))(t:List Nat)(d:Nat)(k:List Nat)(i:Nat):A5:=[("pairs",.aa (IA h)),("needs",.aa (Bh (FV h))),("fewest",.own (Bh t)),("done",.aa (.int (d:Nat))),("free",.aa (Bh k)),("place",.aa (.int (i:Nat)))]
def F! :List As:=["pairs","needs","fewest"]
def yS:List As:=["pairs","needs","fewest","done","free"]
def yQ:List As:=["pairs","needs","fewest","done","free","place"]
def Xl:List Bs:=(LY (BG P1 42) 2).b 0
def y4:List Bs:=(LY Xl 0).b 0
def sN:List Bs:=(LY y4 1).b 0
def sO:List Bs:=(LY sN 0).b 0
def qK (h:List Nat)(d:Nat)(k:Nat):Bool:=d/2^k%2==0&&(d&&& h.getD k 0)==h.getD k 0
theorem Yn (h:List (Nat×Nat))(hk:k<6):(FV h).getD k 0=Dw h k:=by
 unfold FV;simp[Am,hk]
theorem sQ (h:List (Nat×Nat))(d:Nat):Ew (Dw h) d=((Ap 6).filter (qK (FV h) d)).map (2^·):=by
 have:∀k∈Ap 6,(d/2^k%2==0&&(d&&& Dw h k)==Dw h k)=qK (FV h) d k:=λ k hk=>by
  unfold qK;rw[Yn h (Au.mp hk)]
 unfold Ew;exact congrArg _ (Cs this)
section
theorem Se {l:List Nat}(h:l.length<=1000)(k:i<l.length):EW (Bh l) (.int (i:Nat))=Ab (.int ((l.getD i 0:Nat):Int)):=by
 have o:=Kz;exact Hc (by rw[Al];exact Aa h (of_decide_eq_true (_root_.id (Cy Ag)))) (by rw[Bo,Ki (d:=0) k];rfl)
theorem jK {i:Nat}(Q:GW w h C k mg mb)(V:CY k A)(B:Kr w h 183 z N){t:List Nat}(E:t.length=64)(W:a.length<=6)(Z:i<a.length)(f:d<64)(g:d|||a.getD i 0|||c<64):
 F5 (W1 w h) A (Fe w 183).scope z N (execs sO z) (Bu (Mj b t d a i) "other" (.aa (.int (c:Nat)))) (.next (Mj b (EX d (d|||a.getD i 0|||c) t) d a i)):=by
 obtain⟨n,H⟩:∃n,n=d|||a.getD i 0|||c:=⟨_,rfl⟩
 have o:t.length<=1000:=Aa (AB E) (by decide);have s:n<t.length:=Ao (H▸g) (AB E.symm);have j:=Se (l:=t) (i:=d) o (Ao f (AB E.symm))
 conv in sO=>whnf
 refine Fk (By Q V B (x:="new") (d:=.int (n:Nat)) (.am (.am (.aa (d:=.int (d:Nat)) rfl) (.sub (b:=Bh a) (.aa rfl) (.aa (d:=.int (i:Nat)) rfl) (λ _ _=>rfl) (Se (l:=a) (i:=i) (Aa W (of_decide_eq_true (_root_.id (Cy Ag)))) Z)) (Sv _ _)) (.aa rfl) (by rw[H];exact Sv _ _)) rfl (by rfl)) ?_;rw[<-H];have em:Q2 .min [.int ((t.getD n 0:Nat):Int),.int ((t.getD d 0:Nat)+1)]=Ab (.int ((min (t.getD n 0) (t.getD d 0+1):Nat):Int)):=by
  have e:(if((t.getD d 0:Nat):Int)+1<((t.getD n 0:Nat):Int) then((t.getD d 0:Nat):Int)+1 else((t.getD n 0:Nat):Int))=((min (t.getD n 0) (t.getD d 0+1):Nat):Int):=by
   split
   ·rename_i h;rw[G5 (AY ((BO).mp h))];rfl
   ·rename_i h;rw[DA (Bz λ q=>h ((BO).mpr q))]
  rw[vC,e]
 have st:qS (Bh t) (.int n) (.int ((min (t.getD n 0) (t.getD d 0+1):Nat):Int))=Ab (Bh (EX d n t)):=by
  show(if 0<=(n:Int)/\(n:Int)<(t.map λ n=>PV.int (n:Nat)).length then Ab (PV.list ((t.map λ n=>PV.int (n:Nat)).set (n:Int).toNat _)) else Ah)=_;rw[if_pos ⟨BW (n+0),by rw[Al];exact BO.mpr s⟩];unfold Bh EX;rw[List.map_set];rfl
 have l:∀O,Mj b O d a i=Ek yQ (Bu (Bu (Bu (Mj b t d a i) "other" (.aa (.int c))) "new" (.aa (.int n))) "fewest" (.own (Bh O))):=λ O=>rfl;exact Hj (l _) (D4 (WM Q V B rfl (.blt rfl rfl (.cons (.sub (.own rfl) (.aa rfl) (λ _ _=>rfl) (Se o s)) (.cons (.am (.sub (.own rfl) (.aa rfl) (λ _ _=>rfl) j) .int rfl) .nil rfl) rfl) em) (.aa rfl) st (by rfl)))
theorem lS {i:Nat}(O:GW w h C k mg mb)(Q:CY k A)(B:Kr w h 183 z N)(V:a.length<=6)(W:i<a.length)(Z:d<64)(s:∀t x,GH (Fe w 183).scope tg x (Mj prs t d a i)=Ab (Bu (Mj prs t d a i) "other" (.aa x))):∀(l t:List Nat),t.length=64->(∀o∈l,d|||a.getD i 0|||o<64)->
 H8 (W1 w h) A (Fe w 183).scope z N tg sO [] (l.map λ n=>PV.int (n:Nat)) (Mj prs t d a i) (.next (Mj prs (l.foldl (λ t o=>EX d (d|||a.getD i 0|||o) t) t) d a i)):=by
 intro l;induction l with
 |nil=>exact λ _ _ _=>.nil FT
 |cons o l b=>exact λ t E H=>.next (s t _) (jK O Q B E V W Z (H o Ad)) (b _ (OZ.trans E) λ x c=>H x (Af _ c))
theorem TJ:∀(l t:List Nat),(l.foldl (λ t o=>EX d (d|||v|||o) t) t).length=t.length:=by
 intro l;induction l with
 |nil=>exact λ _=>rfl
 |cons o l h=>exact λ t=>(h _).trans OZ
theorem lR {a:List Nat}(H:GW w h C k mg mb)(O:CY k A)(B:Kr w h 183 z N)(Q:a.length<=6)(V:d<64)(s:∀v∈a,v<64)(E:∀t x,GH (Fe w 183).scope c x (RB b t d a)=Ab (Bu (RB b t d a) "place" (.aa x))):∀(l t:List Nat),t.length=64->(∀i∈l,i<a.length)->
 H8 (W1 w h) A (Fe w 183).scope z N c sN [] (l.map λ n=>PV.int (n:Nat)) (RB b t d a) (.next (RB b (l.foldl (λ t i=>(a.drop i).foldl (λ t o=>EX d (d|||a.getD i 0|||o) t) t) t) d a)):=by
 intro l;induction l with
 |nil=>exact λ _ _ _=>.nil FT
 |cons i l f=>
  intro t W Z;have e:=Z i Ad;refine .next (E t _) ?_ (f _ ((TJ ..).trans W) λ x g=>Z x (Af _ g))
  conv in sN=>whnf
  rw[(rfl:Bu (RB b t d a) "place" (.aa (.int (i:Nat)))=Mj b t d a i)];refine Hj (ks:=yS) (ρ1:=Mj b ((a.drop i).foldl (λ t o=>EX d (d|||a.getD i 0|||o) t) t) d a i) rfl (D4 (J6 H O B (.list (.slice (b:=Bh a) (l:=Ab (i:Int)) (u:=Ah) (t:=Ah) (.aa rfl) (.int (.aa rfl)) .no .no (Om _ i (by rw[Al];exact Aa Q (of_decide_eq_true (_root_.id (Cy Ag)))))) rfl) ?_));rw[<-List.map_drop];exact(λ q=>lS (prs:=b) H O B Q e V (tg:=.Name "other" q) (λ t x=>rfl) (a.drop i) t W (λ o j=>Gs (n:=6) (Gs (n:=6) V (s _ (getD_mem e))) (s o (NN j)))) _
end
section
theorem nR (a b:Nat):I9 .Eq (.int (a:Nat)) (.int (b:Nat))=Ab (a==b):=
 (ZP _ _).trans (congrArg Ab (BJ.mpr (decide_eq_true_iff.trans (K2.trans beq_iff_eq.symm))))
theorem nV (d i:Nat)(h:i<12):GI .FloorDiv (.int (d:Nat)) (.int ((2^i:Nat):Int))=Ab (.int ((d:Int).fdiv (2^i))):=by
 have:=(by decide:∀i<12,0<2^i/\2^i<=4096) i h;exact(QY ⟨λ q=>Dz this.1 (Int.ofNat_eq_zero.mp q),(Az this.2 (by decide):2^i<1073741824)⟩).trans (by rw[rG])
theorem S8 (k:Dc C V O b (.int (d:Nat)))(o:Dc C V O c (.int (i:Nat)))(h:i<12):
 Dc C V O (.BinOp (.BinOp b .FloorDiv (.BinOp (.Constant (.int 2) e f) .Pow c g) j) .Mod (.Constant (.int 2) a l) m) (.int ((d/2^i%2:Nat):Int)):=by
 refine .am (.am k (.am .int o (TL i h)) (nV d i h)) .int ?_;rw[<-oR];exact SG (by decide)
theorem jL (H:GW w h C k mg mb)(O:CY k A)(B:Kr w h 183 z N){t:List Nat}(V:t.length=64)(Z:d<64):
 F5 (W1 w h) A (Fe w 183).scope z N (execs Xl z) (Bu (Ud a t) "done" (.aa (.int (d:Nat)))) (.next (Ud a (GO (Dw a) t d))):=by
 have g:=Kz
 conv in Xl=>whnf
 refine D4 (GB H O B (.au (.sub (.own rfl) (.aa rfl) (λ _ _=>rfl) (Se (Aa (AB V) (by decide)) (Ao Z (AB V.symm)))) .int rfl (cR _ _)) ?_);unfold GO;by_cases Q:t.getD d 0<7
 ·rw[decide_eq_true (BO.mpr Q),if_pos rfl,if_pos Q];have E:(Ew (Dw a) d).length<=6:=by
   rw[Al];exact Aa (AX _ _) (An _)
  have W:∀v∈Ew (Dw a) d,v<64:=λ v f=>by
   obtain⟨i,o,rfl⟩:=AH.mp f;have:=Au.mp (Ax.mp o).1;exact I4 (An _) this
  have s:(Bh (Ew (Dw a) d))=.list (((Ap 6).filter (qK (FV a) d)).map λ i=>PV.int ((2^i:Nat):Int)):=by
   rw[sQ];unfold Bh;rw[Be];rfl
  refine Fk (DU H O B (d:=Bh (Ew (Dw a) d)) (by
   rw[s];refine .T _ _ (.bf rfl .int rfl (Aj _ _)) rfl rfl (λ i o=>?_) (Aj _ _);have o:=Au.mp o;have b:=Se (l:=FV a) (by simp[FV]) o;refine⟨[("k",.aa (.int i)),("needs",.aa (Bh (FV a))),("done",.aa (.int d))],rfl,.bq ?_,λ _=>.am .int (.aa rfl) (TL i (Ao o (of_decide_eq_true (_root_.id (Cy Ag)))))⟩;have e:qK (FV a) d i=((d/2^i%2==0)&&(((d&&& (FV a).getD i 0)==(FV a).getD i 0)&&Ag)):=by unfold qK;rw[EU]
   rw[e];exact .all (.bu (.au (S8 (.aa rfl) (.aa rfl) (Ao o (of_decide_eq_true (_root_.id (Cy Ag))))) .int rfl (nR _ _)) λ _=>.bu (.au (.am (.aa rfl) (.sub (.aa rfl) (.aa rfl) (λ _ _=>rfl) b) (oW _ _)) (.sub (.aa rfl) (.aa rfl) (λ _ _=>rfl) b) rfl (nR _ _)) λ _=>.nil)) rfl) ?_
  rw[(rfl:Bu (Bu (Ud a t) "done" (.aa (.int d))) "free" (.aa (Bh (Ew (Dw a) d)))=RB a t d (Ew (Dw a) d))];generalize Ew (Dw a) d=c at*;refine Hj (ks:=F!) rfl (D4 (J6 H O B (.bf rfl (.blt rfl rfl (.cons (.aa rfl) .nil rfl) (by show Ab (PV.int ((c.map λ n=>PV.int (n:Nat)).length:Nat))=_;rw[Al])) rfl (Az E (by decide))) ((λ q=>lR H O B E Z W (λ t x=>rfl) (Ap c.length) t V (λ i o=>Au.mp o)) _)))
 ·rw[decide_eq_false λ q=>Q (BO.mp q),if_neg BI,if_neg Q];exact Hj (ks:=F!) rfl FT
theorem Zc {t:List Nat}:(Qd d a t).length=t.length:=by
 unfold Qd;exact Hz (P:=λ x:List Nat=>x.length=t.length) _ _ rfl λ x i _ h=>(TJ ..).trans h
theorem Tz {a:Nat->Nat}{t:List Nat}:(GO a t d).length=t.length:=by
 unfold GO;split
 ·exact Zc
 ·rfl
theorem lT (O:GW w h C k mg mb)(Q:CY k A)(B:Kr w h 183 z N)(o:∀t x,GH (Fe w 183).scope tg x (Ud prs t)=Ab (Bu (Ud prs t) "done" (.aa x))):∀(l t:List Nat),t.length=64->(∀i∈l,i<64)->
 H8 (W1 w h) A (Fe w 183).scope z N tg Xl [] (l.map λ n=>PV.int (n:Nat)) (Ud prs t) (.next (Ud prs (l.foldl (GO (Dw prs)) t))):=by
 intro l;induction l with
 |nil=>
  intro t s E;exact .nil FT
 |cons i l H=>
  intro t s E;exact .next (o t _) (jL O Q B s (E i Ad)) (H _ (Tz.trans s) λ x V=>E x (Af _ V))
def sP:Bs:=(BG P1 42).getD 0 (.Pass default)
theorem Z5:∀l:List (Nat×Nat),((l.map λ p=>((2^p.1:Nat):Int)).sum)=(((l.map λ p=>2^p.1).sum:Nat):Int):=by
 intro l;induction l with
 |nil=>
  exact rfl
 |cons a l h=>
  simp only[Bl,Bl,IN,IN,h];push_cast;rfl
theorem uP (h:List (Nat×Nat))(i:Nat):Q2 .sum [.list ((h.filter λ p=>p.2==i).map λ p=>PV.int ((2^p.1:Nat):Int))]=Ab (.int ((Dw h i:Nat):Int)):=by
 have em:(h.filter λ p=>p.2==i).map (λ p=>PV.int ((2^p.1:Nat):Int))=((h.filter λ p=>p.2==i).map λ p=>((2^p.1:Nat):Int)).map PV.int:=by rw[Be];rfl
 rw[em];show(Hy _).map _=_;rw[Kd];show Ab (PV.int _)=_;rw[Z5];rfl
theorem cG {a:List (Nat×Nat)}(E:GW w h C k mg mb)(H:CY k A)(B:Kr w h 183 z N)(O:a.length<=100)(Q:∀p∈a,p.1<6/\p.2<6):F5 (W1 w h) A (Fe w 183).scope z N (exec sP z) [("pairs",.aa (IA a))] (.next (Bu [("pairs",.aa (IA a))] "needs" (.aa (Bh (FV a))))):=by
 have V:=Kz;have W:Bh (FV a)=.list ((Ap 6).map λ k=>.int (Dw a k:Int)):=by delta Bh FV;exact congrArg _ (Be)
 rw[W]
 conv in sP=>whnf
 refine DU E H B (.M _ (.bf rfl .int rfl (Aj _ _)) rfl rfl (λ i s=>?_) (Aa (AO rfl) V)) rfl;have s:=Au.mp s;refine⟨[("k",.aa (.int i)),("pairs",.aa (IA a))],rfl,?_⟩;refine .blt rfl rfl (.cons ?_ .nil rfl) (uP a i);refine EE.ev<| .T (λ p=>p.2==i) (λ p=>PV.int ((2^p.1:Nat):Int)) (.list (.aa rfl) rfl) rfl rfl (λ p o=>?_) (Aa O (of_decide_eq_true (_root_.id (Cy Ag))));obtain⟨Z,b⟩:=Q p o;exact⟨[("b",.aa (.int (p.2:Nat))),("a",.aa (.int (p.1:Nat))),("k",.aa (.int i))],rfl,.bq (.au (.aa rfl) (.aa rfl) rfl (nR _ _)),λ _=>.am .int (.aa rfl) (TL p.1 (Ao Z (of_decide_eq_true (_root_.id (Cy Ag)))))⟩
theorem fX {c:Bd->Option Ae}{a:List (Nat×Nat)}(I:GT w h)(T:Top f b c mg mb h)(o:GW w h C k mg mb)(E:a.length<=100)(H:∀p∈a,p.1<6/\p.2<6):Gx (W1 w h) (k+1) 183 (JK [IA a] (.int (((Gj (Dw a) 64).getD 63 0:Nat):Int))):=by
 refine Oz (RO I T) λ args d e=>?_;unfold JK at e;split at e
 ·rename_i N;subst N;cases e;refine⟨rfl,λ A O l s B=>?_⟩;have Q:=λ q=>lT (prs:=a) o s B (tg:=.Name "done" q) (λ t x=>by kernel_rfl) (Ap 64) (0::Bi 63 7) (by rw[Ee,MV]) (λ i V=>Au.mp V);have z:(Gj (Dw a) 64).length=64:=Hz (P:=λ x:List Nat=>x.length=64) _ _ (by rw[Ee,MV]) λ x i _ W=>Tz.trans W;have Z:(Ap 64).foldl (GO (Dw a)) (0::Bi 63 7)=Gj (Dw a) 64:=rfl;have g:=Se (l:=Gj (Dw a) 64) (i:=63) (Aa (AB z) (by decide)) (Ao (by decide) (AB z.symm));clear Z;generalize Gj (Dw a) 64=j at*;rw[(by kernel_rfl:BG P1 42=sP::(BG P1 42).drop 1)];refine K5 (cG o s B E H) ?_
  conv in BG P1 42=>whnf
  refine R8 o s B (d':=Bh (0::Bi 63 7)) (.am (.list (.cons .int .nil rfl) (by decide+kernel)) (.am (d:=.list (Bi 63 (.int 7))) (.list (.cons .int .nil rfl) (by decide+kernel)) .int (by kernel_rfl)) (by kernel_rfl)) (by kernel_rfl) ?_ (by rfl);rw[(by kernel_rfl:Bu (Bu [("pairs",Dt.aa (IA a))] "needs" (.aa (Bh (FV a)))) "fewest" (.own (Bh (0::Bi 63 7)))=Ud a (0::Bi 63 7))];generalize (0::Bi 63 7:List Nat)=t0 at*;refine K5 (J6 o s B (.bf (by kernel_rfl) .int rfl (Aj _ _)) (Q _)) ?_;exact Jp (He o s B (.bn (.sub (.own (by kernel_rfl)) .int (λ _ _=>rfl) g)))
 ·contradiction
end
structure ZB where
 mo:List Int
 so:List (List As)
 nx:List (As×As)
 prs:List (Nat×Nat)
variable {tk:Nat}{p6:CE}{nl:List (Nat×Nat)} in
structure qC (D:ZB):Prop where
 tk:Ti D.mo D.so
 nl:D.nx.length<=100
 pl:D.prs.length<=100
 p6:∀p∈D.prs,p.1<6/\p.2<6
def C0:GK:=⟨λ _=>Ah,sK,λ _=>Ah⟩
def C1:GK:=⟨λ x=>if x="S_IFMT" then Ab RL else if x="_law_said" then Ab RK else Ah,sK,λ _=>Ah⟩
def YZ (D:ZB)(x:As):Option (List PV->Option PV):=
 if x="parse257" then Ab QU else if x="parse229" then Ab Xi else if x="S_IMODE" then Ab SS else if x="filemode" then Ab Xj else if x="_law_talk" then Ab (JK (WI D.mo D.so) (.list (Tw D.mo D.so)))
 else if x="_law_listing" then Ab P5 else if x="_law_hour" then Ab (RM D.nx) else if x="_law_fewest" then Ab (JK [IA D.prs] (.int (((Gj (Dw D.prs) 64).getD 63 0:Nat):Int))) else Ah
def CL (D:ZB):GK:=⟨YZ D,sK,λ _=>Ah⟩
def FA (h:World)(k:AT)(o:As->Option Ae)(s:Nat)(x:As)(g:List PV->Option PV):Prop:=t4 (W1 h k) s o x g
theorem Ll (s:Gw (W1 w h) a fd d b)(z:mg x=Ab (.ref a)){g:List PV->Option PV}(c:Gx (W1 w h) k a g):FA w h mg k x g:=by
 obtain⟨o,A,C,E,H⟩:=s.obj;exact⟨a,o,fd,z,A,C,E,H,c⟩
theorem Le {f g:List PV->Option PV}{r:Option (List PV->Option PV)}(e:(if x=y then Ab f else r)=Ab g)(o:FA w h mg k y f)(s:r=Ab g->FA w h mg k x g):FA w h mg k x g:=by
 by_cases q:x=y
 ·rw[if_pos q] at e;exact q▸AN e▸o
 ·rw[if_neg q] at e;exact s e
theorem ZO {b:Bd->Option Ae}(I:GT w h)(T:Top c a b mg mb h)(o:Cn c=Ag):E2 (W1 w h) C0 k mg mb:=mY I T o rfl (by exact λ _=>rfl) λ x g e=>nomatch e
theorem V? {b:Bd->Option Ae}(I:GT w h)(T:Top c a b mg mb h)(o:Cn c=Ag):E2 (W1 w h) C1 (k+1) mg mb:=mY I T o rfl (by exact λ _=>rfl) λ x g e=>by
 have s:E2 (W1 w h) C0 k mg mb:=ZO I T o;exact Le e (Ll (Xp I T) ((Ej I T _).trans rfl) (sY I T s)) λ e=>Le e (Ll (Xo I T) ((Ej I T _).trans rfl) (sX I T s)) λ e=>nomatch e
theorem yX {b:Bd->Option Ae}(I:GT w h)(T:Top c a b mg mb h)(o:Cn c=Ag)(z:qC D):E2 (W1 w h) (CL D) (k+2) mg mb:=mY I T o rfl (by exact λ _=>rfl) λ x g e=>by
 have s:E2 (W1 w h) C0 (k+1) mg mb:=ZO I T o;have A:E2 (W1 w h) C1 (k+1) mg mb:=V? I T o;refine Le e (Ll (SW I T) ((Ej I T _).trans rfl) (vZ I T s)) λ e=>?_;refine Le e (Ll (Qb I T) ((Ej I T _).trans rfl) (wA I T s)) λ e=>?_;refine Le e (Ll (Uy I T) ((Ej I T _).trans rfl) (nK I T s)) λ e=>?_;refine Le e (Ll (OB I T) ((Ej I T _).trans rfl) (s4 I T A rfl rfl)) λ e=>?_;refine Le e (Ll (Xn I T) ((Ej I T _).trans rfl) (sW I T A rfl z.tk)) λ e=>?_;refine Le e (Ll (Qa I T) ((Ej I T _).trans rfl) (Zd I T s)) λ e=>?_;refine Le e (Ll (Xq I T) ((Ej I T _).trans rfl) (sZ I T s z.nl)) λ e=>?_;exact Le e (Ll (RO I T) ((Ej I T _).trans rfl) (fX I T s z.pl z.p6)) λ e=>nomatch e
class inductive NM {σ α:Type} (R:σ->α->σ->Prop):List α->σ->σ->Prop
 |nil {ua}:NM R [] ua ua
 |cons {ux us0 ua ub uc}:R ua ux ub->NM R us0 ub uc->NM R (ux::us0) ua uc
theorem NM.bq {a b:Type}{R:a->b->a->Prop}{x:b}{c t:a}(h:R c x t):NM R [x] c t:=.cons h .nil
theorem NM.append {b c:Type}{R:b->c->b->Prop}{d e:List c}{f t u:b}(a:NM R d f t)(h:NM R e t u):NM R (d++e) f u:=by
 induction a with
 |nil=>exact h
 |cons a _ k=>exact .cons a (k h)
theorem NM.fn {c g:Type}{R:c->g->c->Prop}{d:List g}{b t:c}(h:NM R d b t):∃f:Nat->c,f 0=b/\f d.length=t/\∀i x,d[i]? =Ab x->R (f i) x (f (i+1)):=by
 induction h with
 |@nil b=>exact⟨λ _=>b,rfl,rfl,λ i x e=>absurd (KB.symm.trans e) nofun⟩
 |@cons y d b t u a _ k=>
  obtain⟨f,o,s,w⟩:=k;exact⟨λ n=>n.rec b λ n _=>f n,rfl,s,λ i x=>i.casesOn (λ e=>by cases e;show R b _ (f 0);rw[o];exact a) λ i=>w i x⟩
section
def HR (k:World)(o:AT)(D:ZB)(s:Nat)(h:List (As×PV)×List PV×List PV)(x:PV)(t:List (As×PV)×List PV×List PV):Prop:=
 ∃r,x=.str r/\UV (W1 k o) (CL D) s (Fe k 161).scope hP hK Lj Ut mW 58 70 r h.1 h.2.1 h.2.2 t.1 t.2.1 t.2.2
theorem RW (h:O.lookup x=Ab (.aa d)):U0 C V O [.Name x q] [d]:=.cons (.aa h) .nil rfl
theorem fH (k:QU [.str r]=Ab (.str a))(e:QU [.str a]=Ab d):Pf (CL D) (Fe w 161).scope "reply" r Lj "parse257" d:=λ s o h=>by
 conv in Lj=>whnf
 exact .fn (by rw[h];rfl) rfl (.cons (.fn (by rw[h];rfl) rfl (RW o) k) .nil rfl) e
theorem tM {Cl a:Ai}{d g:CE}{b:List E9}{c:As}(h:E2 W C k mg mb)(F:FI W V z Z X s.heap O)(G:Gd W s){f:As}{e:Expr}(w:CX V f=Ag)(H:Cm e=Ag)(N:mg f=Ab (.ref a))(l:W.h0.get? a=Ab o)(m:o.data=.func fd)
 (i:Rz W A (eval e z) s b Cl c):Rz W A (eval (.Call (.Name f g) [e] [] d) z) s b Cl c:=λ Q E j=>by
 refine B4 (CH h F G w (.inl N) ?_);rw[Bk d z [e] (by simp[H])];exact Cj (o:=o) (fd:=fd) (Bf (AE (i _ _ j)))
theorem XF (h:O.lookup ("words":As)=Ab (.aa (.str a))):U0 C V O [.Name "words" (hP 23),.Tuple [.Constant (.str "peer") (hK 2) (hP 24),.Constant (.int 21) (hK 3) (hP 25)] (hK 4) (hP 26)] [.str a,.ba [.str "peer",.int 21]]:=
 .cons (.aa h) (.cons (.ba (.cons (.ag (by kernel_rfl)) (.cons .int .nil rfl) rfl) (by decide+kernel)) .nil rfl) rfl
theorem fJ (e:Xi [.str r,.ba [.str "peer",.int 21]]=Ab d):Pf (CL D) (Fe w 161).scope "words" r (NH hP hK) "parse229" d:=λ o h k=>
 .fn (by rw[k];rfl) rfl (XF h) e
theorem N3 {c:Bd->Option Ae}(I:GT w h)(T:Top d a c mg mb h)(C:Cn d=Ag){l:List Nat}(f:l.take 3≠[50,53,55]):HW (W1 w h) (k+1) (Fe w 161).scope "reply" (B6 l) Lj "parse257" 58 (B6 l):=λ A g Q Z X s r i W V St B S j t=>by
 obtain⟨o,e,H,m,n⟩:=(SW I T).obj
 conv in Lj=>whnf
 refine tM (ZO (k:=k) I T C) S.F (S.gd B) rfl rfl ((Ej I T _).trans rfl) e H ?_;refine UL (ZO I T C) W S.F (S.gd B) rfl (RW j) ((Ej I T _).trans rfl) e H m n λ N E p z O q=>?_;exact uJ I T (ZO I T C) f A {s with heap:=N,toks:=E} X p i W V (St.bg z) ((S.gd B).step z O) (λ b Q=>⟨(S.F.alive b Q).1,BL z (S.F.alive b Q).2⟩) q
theorem Rk {c:Bd->Option Ae}(I:GT w h)(T:Top f a c mg mb h)(E:Cn f=Ag)(e:∀W:E2 (W1 w h) C0 k mg mb,Tj (W1 w h) (k+1) 79 [.str r,.ba [.str "peer",.int 21]] d r):HW (W1 w h) (k+1) (Fe w 161).scope "words" r (NH hP hK) "parse229" d r:=λ A i O Z X s u j g Q St B S l v=>by
 have W:E2 (W1 w h) C0 k mg mb:=ZO I T E;obtain⟨o,m,V,n,p⟩:=(Qb I T).obj;refine UL (ZO I T E) g S.F (S.gd B) rfl (XF l) ((Ej I T _).trans rfl) m V n p λ H C q z N t=>?_;exact e W A {s with heap:=H,toks:=C} X q j g Q (St.bg z) ((S.gd B).step z N) (λ b O=>⟨(S.F.alive b O).1,BL z (S.F.alive b O).2⟩) t
theorem eV {a:List PV}(o:QU [.str r]=Ab (.str b))(e:QU [.str b]=Ab d)(s:a.length+1<=B2):HR w h D k (c,a,f) (.str r) (c,a++[d],f):=
 ⟨r,rfl,.ca d (fH o e) s⟩
theorem sJ {d:List PV}{b:Bd->Option Ae}(I:GT w h)(T:Top f a b mg mb h)(o:Cn f=Ag)(s:d.length+1<=B2):HR w h D (k+1) (g,c,d) (.str "226 all told") (g,c,d++[.str "no 226 all told"]):=
 ⟨_,rfl,.jq "226 all told" "226 all told" "no 226 all told" (by
   have e:("226 all told":As)=B6 (RZ "226 all told").toList:=(Nm _).symm;have:=N3 (k:=k) I T o (l:=(RZ "226 all told").toList) (by decide+kernel);rwa[<-e] at this) (by
   have:=Rk (k:=k) I T o λ z=>y5 I T z (l:=(RZ "226 all told").toList) (by decide+kernel);rwa[<-((Nm _).symm)] at this) rfl s⟩
theorem sI {d:List PV}{b:Bd->Option Ae}(I:GT w h)(T:Top e a b mg mb h)(o:Cn e=Ag)(s:r∈MD)(z:d.length+1<=B2):HR w h D (k+1) (f,c,d) (.str r) (f,c,d++[.str r]):=
 ⟨r,rfl,.ju r r (by
   have:=N3 (k:=k) I T o ((by decide+kernel:∀r∈MD,r.cps.toList.take 3≠[50,53,55]) r s);exact(((Nm _).symm:r=B6 r.cps.toList))▸this) (Rk I T o λ A=>uK I T A (yB s)) z⟩
theorem Z9 (h:List PV)(x:PV)(o:h.length<1000):EW (.list (h++[x])) (.int (-1))=Ab x:=by
 have k:GC (-1) (h++[x]).length=Ab h.length:=by
  unfold seqIndex?;simp;rw[(by rw[Int.add_comm h.length,Int.neg_add_cancel_left]:(-1:Int)+(h.length+1)=h.length)];exact⟨⟨BE _,Int.lt_add_one_iff.mpr (Int.le_refl _)⟩,rfl⟩
 refine(NZ (h++[x]) (-1)).trans ?_;rw[if_pos (by decide+kernel),k];simp
theorem eW {d:List (As×PV)}{c:Bd->Option Ae}(I:GT w h)(T:Top e b c mg mb h)(s:Cn e=Ag)(z:m∈Jh){i:Int}(A:i.natAbs<10^10){a:List PV}(C:d.length+1<=B2)(E:a.length<1000):
 HR w h D (k+1) (d,a++[.str n],f) (.str (B6 (Cc m (dg i)))) (Fb d n (.ba [.str "peer",.int i]),a++[.str n],f):=
 ⟨_,rfl,.jz (B6 (Cc m (dg i))) _ n (a++[.str n]) (N3 I T s (by
    have:(Cc m (dg i)).take 3=[50,50,57]:=by rfl
    rw[this];decide)) (fJ (fF z A)) (λ H o=>by
    conv in mW=>whnf
    exact .sub (.aa o) (.neg .int) (λ _ _=>rfl) (Z9 a _ E)) (λ H o=>by
    conv in Ut=>whnf
    exact .aa o) C⟩
end
def nm (i:Nat):As:=Gp.getD i ""
def Fa:List Nat:=[256,8,1024,2,32]
def U2 (h:List Nat)(k:Nat):Nat:=h.getD k 0
def Wg (h:List Nat):Nat:=(((Ap 12).filter λ k=>!Fa.any (·==2^k)&&U2 h 6/2^k%2==1).map (2^·)).sum
def Fy (h:List Nat)(k:Nat):Nat:=Wg h+(((Ap 5).filter λ j=>U2 h k/2^j%2==1).map λ j=>Fa.getD j 0).sum
def Er (h:List Nat)(k:Nat):Int:=(Fy h k:Int)+4096*(((U2 h k/32%24:Nat):Int)-8)
def NT (h:List Nat):List Int:=(Ap 6).map (Er h)
def Sx:List (List As):=[["229 at 272)"],["229 at (|||7|x"],["229 at (||7|)","229 at (|||7||)"],["229 at (|||7|!)"]]
def UP (h:List Nat)(k:Nat):Bool:=U2 h 6/4096/2^k%2==1
def QM (h:List Nat):List (List As):=((Ap 4).map λ k=>if UP h k then Sx.getD k [] else[])++[[],[]]
theorem WJ:∀(l:List Nat)(m:Nat),(∀x∈l,x<=m)->l.sum<=m*l.length:=by
 intro l;induction l with
 |nil=>
  intro m _;exact An _
 |cons a l k=>
  intro m h;have:=k m λ x o=>h x (Af _ o);rw[IN];exact Aa (FQ (h a Ad) this) (AB (Ev m _))
theorem tD (h:List Nat):Wg h<=24576:=by
 refine Aa (WJ _ 2048 λ x o=>?_) ?_
 ·obtain⟨k,hk,rfl⟩:=AH.mp o;have:=Au.mp (Ax.mp hk).1;exact I5 (Bq _) (A7 ‹_›:k<=11)
 ·rw[Al];have:=AX (λ k=>!Fa.any (·==2^k)&&U2 h 6/2^k%2==1) (Ap 12)
  exact FL 2048 (Aa this (AB CM))
theorem gK (h:List Nat)(k:Nat):Fy h k<=30000:=by
 have:(((Ap 5).filter λ j=>U2 h k/2^j%2==1).map λ j=>Fa.getD j 0).sum<=1024*5:=by
  refine Aa (WJ _ 1024 λ x o=>?_) ?_
  ·obtain⟨j,s,rfl⟩:=AH.mp o;have:=Au.mp (Ax.mp s).1;exact(by decide:∀j<5,Fa.getD j 0<=1024) j this
  ·rw[Al];have:=AX (λ j=>U2 h k/2^j%2==1) (Ap 5);exact FL 1024 (Aa this (AB CM))
 exact Aa (FQ (tD h) this) (by decide)
theorem WX (h:List Nat)(k:Nat):(Er h k).natAbs<1000000:=by
 have:=gK h k;exact Az (Int.natAbs_add_le _ _) (Az (FQ this (Aa (AB (Int.natAbs_mul _ _)) (FL 4096 (Aa (Int.natAbs_sub_le _ _) (B8 (A7 (Nat.mod_lt _ (by decide))) 8))))) (by decide:30000+4096*31<1000000))
theorem pJ (s:List Nat):∀l∈QM s,l.length<=9/\∀t∈l,t∈MD:=λ l w=>by
 rcases AL.mp w with h |h
 ·skip
  obtain⟨k,hk,rfl⟩:=AH.mp h;split
  ·exact(by decide+kernel:∀k<4,(Sx.getD k []).length<=9/\∀t∈Sx.getD k [],t∈MD) k (Au.mp hk)
  ·exact⟨AZ _,λ t o=>nomatch o⟩
 ·have:l=[]:=by simpa using h
  subst this;exact⟨AZ _,λ t o=>nomatch o⟩
theorem OW (h:List Nat):Ti (NT h) (QM h) where
 ma:=by rfl
 nf:=λ p o=>by
  obtain⟨k,_,rfl⟩:=AH.mp o;have:=WX h k;exact Ao this (of_decide_eq_true (_root_.id (Cy Ag)))
 lh:=by rfl
 mu:=λ l s=>(pJ h l s).1
def Fd (i:Int):PV:=.ba [.str "peer",.int i]
def S6 (h:List Int)(k:List (As×PV))(p:Nat):List (As×PV):=Fb k (nm p) (Fd (h.getD p 0))
theorem jZ (h:p<6):QU [.str (uB p)]=Ab (.str (It (nm p) p))/\QU [.str (It (nm p) p)]=Ab (.str (nm p)):=
 NK (P:=λ p=>QU [.str (uB p)]=Ab (.str (It (nm p) p))/\QU [.str (It (nm p) p)]=Ab (.str (nm p))) ⟨by kernel_rfl,by kernel_rfl⟩ ⟨by kernel_rfl,by kernel_rfl⟩ ⟨by kernel_rfl,by kernel_rfl⟩ ⟨by kernel_rfl,by kernel_rfl⟩ ⟨by kernel_rfl,by kernel_rfl⟩ ⟨by kernel_rfl,by kernel_rfl⟩ p h
section
variable {a:List As}{b:Bd->Option Ae}{c:FD}{D:ZB} in
theorem kB (I:GT w h)(T:Top c a b mg mb h)(o:Cn c=Ag):∀(l:List As),(∀t∈l,t∈MD)->∀{es:List (As×PV)}{hs ss:List PV},ss.length+l.length<=1000->NM (HR w h D (k+1)) (l.map .str) (es,hs,ss) (es,hs,ss++l.map .str):=by
 intro l;induction l with
 |nil=>
  intro _ es hs ss _;rw[List.map_nil,EH];exact .nil
 |cons t l s=>
  intro z es hs ss A;have:=s (λ x C=>z x (Af _ C)) (es:=es) (hs:=hs) (ss:=ss++[.str t]) (by rw[AQ];exact Aa (AB (Ch _ 1 _)) A);simp only[BY] at this;exact .cons (sI I T o (z t Ad) (Aa (Bv (Aa (AS _ _) A)) (Aa (by decide) (by decide+kernel:5000<=B2)))) this
theorem Yd {c:Bd->Option Ae}(I:GT w h)(T:Top d b c mg mb h)(z:Cn d=Ag){mo:List Int}{a:List (List As)}(Q:∀p,(mo.getD p 0).natAbs<1000000)(V:∀p<6,(a.getD p []).length<=9/\∀t∈a.getD p [],t∈MD):∀(o:List Nat),(∀p∈o,p<6)->∀{es:List (As×PV)}{hs ss:List PV},es.length+o.length<=100->hs.length+o.length<=100->ss.length+9*o.length<=500->
 NM (HR w h D (k+1)) (o.flatMap (Pk mo a)) (es,hs,ss) (o.foldl (S6 mo) es,hs++o.map (λ p=>.str (nm p)),ss++(o.flatMap λ p=>a.getD p []).map .str):=by
 intro o;induction o with
 |nil=>
  intro _ es hs ss _ _ _;simp;exact .nil
 |cons p o C=>
  intro A es hs ss z1 z2 E;have H:=Kz;have s:=A p Ad;obtain⟨N,W⟩:=V p s;obtain⟨Z,e⟩:=jZ s;simp only[Ee] at z1 z2 E;have O:=C (λ q f=>A q (Af _ f)) (es:=S6 mo es p) (hs:=hs++[.str (nm p)]) (ss:=ss++(a.getD p []).map .str) (by
   exact Aa (B8 (HG ..) _) (Aa (AB (Ch _ 1 _)) z1)) (by rw[AQ];exact Aa (AB (Ch _ 1 _)) z2) (by rw[AQ,Al];exact Aa (B8 (A9 N _) _) (Aa (AB (Ch _ 9 _)) E))
  rw[BY,BY,<-Dy] at O;refine .append ?_ O;refine .cons (eV Z e (Aa (Aa (A9 (Aj 1 _) _) z2) (Aa (by decide) H))) (.append (kB I T z _ W (Aa (A9 (Aa N (Aj 9 (9*o.length))) _) (Aa E (by decide)))) (.bq ?_));exact eW I T z (W0 s) (by have:=Q p;exact Ao this (of_decide_eq_true (_root_.id (Cy Ag)))) (Aa (Aa (A9 (Aj 1 _) _) z1) (Aa (by decide) H)) (Az (Aa (AS _ _) z2) (by decide))
theorem bA {c:Bd->Option Ae}(I:GT w h)(T:Top d b c mg mb h)(o:Cn d=Ag):
 NM (HR w h D (k+1)) (Tw (NT a) (QM a)) ([],[],[]) ((Ap 6).foldl (S6 (NT a)) [],(Ap 6).map (λ p=>.str (nm p)),.str "no 226 all told"::((QM a).flatten).map .str):=by
 have z:=Kz;have O:=OW a;have e:=Yd (D:=D) (k:=k) I T o (mo:=NT a) (λ p=>?_) (λ p s=>pJ a _ (getD_mem s)) (Ap 6) (λ p s=>Au.mp s) (es:=[]) (hs:=[]) (ss:=[.str "no 226 all told"]) (AO rfl) (AO rfl) (AO rfl)
 ·exact .cons (sJ I T o (Aj _ _)) e
 ·rw[Am];cases q:(NT a)[p]? with
  |none=>simp
  |some x=>
   obtain⟨j,_,rfl⟩:=AH.mp (Cq q);exact WX a j
end
def bW:List Int:=[519,386,169,577,273,292,64076]
def TQ (h:List Int)(k:Nat):List Int:=(KW (Cd (Ab (k:Int)) Ah (Ab 7) h.length).1 (Cd (Ab (k:Int)) Ah (Ab 7) h.length).2.1 (Cd (Ab (k:Int)) Ah (Ab 7) h.length).2.2).filterMap (h[·]?)
def numAt (k:List Int)(h:Nat):Nat:=(((TQ k h).sum+bW.getD h 0)%1572864).toNat
def Op (h:List Int):List Nat:=(Ap 7).map (numAt h)
theorem Yk (h:List Int)(k:Nat):(KW (Cd (Ab (k:Int)) Ah (Ab 7) h.length).1 (Cd (Ab (k:Int)) Ah (Ab 7) h.length).2.1 (Cd (Ab (k:Int)) Ah (Ab 7) h.length).2.2).length<=h.length+7:=by
 simp only[KW,Cd];simp only[Option.getD_some,Option.getD_none,rU,if_false,UH,show((7:Int)>0)=True from eq_true (by decide),if_true];generalize min k h.length=m;simp;split
 ·rename_i q;exact Cx (Int.ediv_le_self _ (Int.le_sub_one_of_lt (Int.add_pos_of_nonneg_of_pos (I7 (Fv.mpr (AY q))) (by decide)))) (Cx (Int.sub_le_self _ (by decide)) (Int.add_le_add_right (Int.sub_le_self _ (BE m)) 7))
 ·exact BE (h.length+7)
theorem TP (k:a.length<=1000)(h:Nat):DV (DY a) (Ab (h:Int)) Ah (Ab 7)=Ab (DY (TQ a h)):=by
 have e:Mf (a.map PV.int) (Ab h) Ah (Ab 7)=(TQ a h).map .int:=by
  delta Mf TQ
  rw[Al,List.map_filterMap];congr 1
  funext i
  exact(Bo)
 have o:((TQ a h).map PV.int).length<=B2:=by
  rw[Al];have:=Yk a h;exact Aa (List.length_filterMap_le (a[·]?) (KW (Cd (Ab (h:Int)) Ah (Ab 7) a.length).1 (Cd (Ab (h:Int)) Ah (Ab 7) a.length).2.1 (Cd (Ab (h:Int)) Ah (Ab 7) a.length).2.2)) (Aa this (Aa (B8 k 7) (Aa (AO rfl) (by decide+kernel:5000<=B2))))
 simp only[DY,DV];simp only[e];rw[O9 ⟨by decide,o⟩]
def Y0 (h:List Int):A5:=[("script",.aa (DY h))]
def Y2 (h k:List Int):A5:=[("script",.aa (DY h)),("taken",.aa (DY k)),("own",.aa (DY bW))]
def Y5 (h:List Nat):A5:=[("numbers",.aa (Bh h)),("names",.aa (Bj Gp)),("units",.aa (Bh Fa))]
theorem Tx (h:i<l.length)(k:l.length<=5000):EW (DY l) (.int (i:Nat))=Ab (.int (l.getD i 0)):=by
 exact Hc (by rw[Al];exact Aa k (by decide+kernel)) (by rw[Bo,Ki (d:=0) h];rfl)
noncomputable abbrev QG (k:World)(o:AT)(s:Dj)(h:E9)(w:AT):=F5 (W1 k o) s (Fe k 188).scope h w
theorem v0 (o:GW w h C k mg mb)(s:CY k A)(B:Kr w h 188 z N)(E:a.length<=B2):QG w h A z N (exec (E3 0) z) (Y0 a) (.next (Bu (Y0 a) "taken" (.aa (DY (a.take 60))))):=by
 have H:=Kz
 conv in E3 0=>whnf
 have e:DV (DY a) Ah (Ab ((60:Nat):Int)) Ah=Ab (DY (a.take 60)):=by
  unfold DY;rw[N2 _ _ (by rw[Al];exact E),Hm]
 exact By o s B (.slice (.aa rfl) .no (.int .int) .no e) rfl (by rfl)
theorem v1 (o:GW w h C k mg mb)(s:CY k A)(B:Kr w h 188 z N):QG w h A z N (exec (E3 1) z) O (.next (Bu O "own" (.aa (DY bW)))):=by
 have E:=Kz
 conv in E3 1=>whnf
 exact By o s B (.list (.cons .int (.cons .int (.cons .int (.cons .int (.cons .int (.cons .int (.cons .int .nil rfl) rfl) rfl) rfl) rfl) rfl) rfl) (Aj 7 1048569)) rfl (by rfl)
theorem v2 (s:GW w h C k mg mb)(E:CY k A)(B:Kr w h 188 z N)(H:a.length<=100):QG w h A z N (exec (E3 2) z) (Y2 b a) (.next (Bu (Y2 b a) "numbers" (.aa (Bh (Op a))))):=by
 have O:=Kz;have e:Bh (Op a)=.list ((Ap 7).map λ i=>PV.int (numAt a i:Int)):=by delta Bh Op;exact congrArg _ (Be)
 rw[e]
 conv in E3 2=>whnf
 refine DU s E B (.M _ (.bf rfl .int rfl (Aj (BZ 7) 92)) rfl rfl (λ i o=>?_) (Aj 7 1048569)) rfl;have o:=Au.mp o;refine⟨[("k",.aa (.int i)),("taken",.aa (DY a)),("own",.aa (DY bW))],rfl,?_⟩;rw[(Dp (Gi _ (by decide))),<-MM (by decide)];refine .am (.am (.blt rfl rfl (.cons (.slice (.aa rfl) (.int (.aa rfl)) .no (.int .int) (TP (Aa H (of_decide_eq_true (_root_.id (Cy Ag)))) i)) .nil rfl) (by
  show(Hy _).map _=_;rw[Kd];rfl)) (.sub (.aa rfl) (.aa rfl) (λ _ _=>rfl) (Tx o (AO rfl))) (Ww _ _)) .int (SG (by decide))
theorem v3 (o:GW w h C k mg mb)(s:CY k A)(B:Kr w h 188 z N):QG w h A z N (exec (E3 3) z) O (.next (Bu O "names" (.aa (Bj Gp)))):=by
 have E:=Kz
 conv in E3 3=>whnf
 exact By o s B (.list (.cons (.ag (by kernel_rfl)) (.cons (.ag (by kernel_rfl)) (.cons (.ag (by kernel_rfl)) (.cons (.ag (by kernel_rfl)) (.cons (.ag (by kernel_rfl)) (.cons (.ag (by kernel_rfl)) .nil rfl) rfl) rfl) rfl) rfl) rfl) (Aj 6 1048570)) (by kernel_rfl) (by rfl)
theorem v4 (o:GW w h C k mg mb)(s:CY k A)(B:Kr w h 188 z N):QG w h A z N (exec (E3 4) z) O (.next (Bu O "units" (.aa (Bh Fa)))):=by
 have E:=Kz
 conv in E3 4=>whnf
 exact By o s B (.list (.cons .int (.cons .int (.cons .int (.cons .int (.cons .int .nil rfl) rfl) rfl) rfl) rfl) (Aj 5 1048571)) rfl (by rfl)
theorem bZ (h:List Int):(Op h).length=7:=by simp[Op]
theorem T7 (n:Nat):∀l:List Nat,lvlL (n+1) (l.map λ n=>PV.int (n:Nat))=Ag:=by
 intro l;induction l with
 |nil=>
  exact rfl
 |cons s r h=>
  have k:=h;refine k.trans ?_;rfl
theorem Xe (x:Nat)(l:List Nat):YS (.int (x:Nat)) (Bh l)=Ab (l.any λ y=>y==x):=by
 simp only[YS,Bh];rw[T7 5,if_pos (by rfl)];congr 1;induction l with
 |nil=>rfl
 |cons s r h=>
  show(Dn (.int s) (.int x)||(toPyL (r.map λ n=>PV.int (n:Nat))).any λ y=>Dn y (Iz (.int x)))=((s==x)||r.any λ y=>y==x);congr 1;exact BJ.mpr (beq_iff_eq.trans (K2.trans beq_iff_eq.symm))
theorem VE (x:Nat)(l:List Nat):I9 .NotIn (.int (x:Nat)) (Bh l)=Ab (!l.any λ y=>y==x):=by
 show(YS (.int x) (Bh l)).map (!·)=_
 rw[Xe];rfl
theorem Xw (a c:Nat)(h:0<c)(k:c<1000000):GI .FloorDiv (.int (a:Nat)) (.int ((c:Nat):Int))=Ab (.int ((a/c:Nat):Int)):=by
 rw[QY ⟨λ q=>Dz h (Int.ofNat_eq_zero.mp q),by exact Ao k (of_decide_eq_true (_root_.id (Cy Ag)))⟩,Og (BW (c+0))];rfl
theorem lE (a c:Nat)(h:0<c):GI .Mod (.int (a:Nat)) (.int ((c:Nat):Int))=Ab (.int ((a%c:Nat):Int)):=by
 rw[SG λ q=>Dz h (Int.ofNat_eq_zero.mp q),MM (BW (c+0))];rfl
theorem oY (a b:Nat):GI .Add (.int (a:Nat)) (.int ((b:Nat):Int))=Ab (.int ((a+b:Nat):Int)):=by
 rw[Ww];rfl
theorem Rb (l:List Nat):Q2 .sum [.list (l.map λ n=>PV.int (n:Nat))]=Ab (.int ((l.sum:Nat):Int)):=by
 have e:l.map (λ n=>PV.int (n:Nat))=(l.map λ n=>((n:Nat):Int)).map PV.int:=by rw[Be];rfl
 rw[e];show(Hy _).map _=_;rw[Kd];show Ab (PV.int _)=_;congr 2;induction l with
 |nil=>rfl
 |cons a l h=>simp only[Bl,IN,IN,h (by rw[Be];rfl)];push_cast;rfl
def Dx (h:List Nat):List Nat:=(Ap 6).map (Fy h)
def Y6 (h:List Nat):A5:=[("numbers",.aa (Bh h)),("names",.aa (Bj Gp)),("units",.aa (Bh Fa)),("common",.aa (.int (Wg h:Nat)))]
def Y7 (h:List Nat):A5:=[("numbers",.aa (Bh h)),("names",.aa (Bj Gp)),("drawn",.aa (Bh (Dx h)))]
def Y8 (h:List Nat):A5:=[("numbers",.aa (Bh h)),("names",.aa (Bj Gp)),("drawn",.aa (Bh (Dx h))),("modes",.aa (DY (NT h)))]
def Y9 (h:List Nat):A5:=[("numbers",.aa (Bh h)),("names",.aa (Bj Gp)),("drawn",.aa (Bh (Dx h))),("modes",.aa (DY (NT h))),("odd",.aa (.list (Sx.map Bj)))]
theorem Sc {i:Nat}(h:a.length=7)(k:i<7):EW (Bh a) (.int (i:Nat))=Ab (.int ((U2 a i:Nat):Int)):=Se (Aa (AB h) (AO rfl)) (Ao k (AB h.symm))
theorem v5 (s:GW w h C k mg mb)(E:CY k A)(B:Kr w h 188 z N)(H:a.length=7):QG w h A z N (exec (E3 5) z) (Y5 a) (.next (Bu (Y5 a) "common" (.aa (.int (Wg a:Nat))))):=by
 have Q:=Kz;have O:=Sc H (An (BZ 6))
 conv in E3 5=>whnf
 refine By s E B (.blt rfl rfl (.cons (EE.ev<| .T _ _ (.bf rfl .int rfl (Aj (BZ 12) 87)) rfl rfl (λ i o=>?_) (Aj 12 1048564)) .nil rfl) (by
  have e:(((Ap 12).filter λ k=>!Fa.any (·==2^k)&&U2 a 6/2^k%2==1).map λ k=>PV.int ((2^k:Nat):Int))=(((Ap 12).filter λ k=>!Fa.any (·==2^k)&&U2 a 6/2^k%2==1).map (2^·)).map λ n=>PV.int (n:Nat):=by rw[Be];rfl
  rw[e];exact Rb _)) rfl (by rfl)
 have o:=Au.mp o;refine⟨[("k",.aa (.int i)),("numbers",.aa (Bh a)),("units",.aa (Bh Fa))],rfl,.bq ?_,λ _=>.am .int (.aa rfl) (TL i o)⟩;rw[(by rw[EU]:(!Fa.any (·==2^i)&&U2 a 6/2^i%2==1)=((!Fa.any λ y=>y==2^i)&&((U2 a 6/2^i%2==1)&&Ag)))]
 exact .all (.bu (.cq (.am .int (.aa rfl) (TL i o)) (.aa rfl) rfl (.inr rfl) (VE _ _)) λ _=>.bu (.au (S8 (.sub (.aa rfl) .int (λ _ _=>rfl) O) (.aa rfl) o) .int rfl (nR _ _)) λ _=>.nil)
theorem v6 (E:GW w h C k mg mb)(H:CY k A)(B:Kr w h 188 z N)(O:a.length=7):QG w h A z N (exec (E3 6) z) (Y6 a) (.next (Y7 a)):=by
 have Q:=Kz;have e:Bh (Dx a)=.list ((Ap 6).map λ i=>PV.int (Fy a i:Int)):=by delta Bh Dx;exact congrArg _ (Be)
 refine Hj (ks:=["numbers","names","drawn"]) (ρ1:=Bu (Y6 a) "drawn" (.aa (Bh (Dx a)))) rfl ?_;rw[e]
 conv in E3 6=>whnf
 refine DU E H B (.M _ (.bf rfl .int rfl (Aj (BZ 6) 93)) rfl rfl (λ i s=>?_) (Aj 6 1048570)) rfl;have s:=Au.mp s;refine⟨[("k",.aa (.int i)),("numbers",.aa (Bh a)),("units",.aa (Bh Fa)),("common",.aa (.int (Wg a:Nat)))],rfl,?_⟩;refine .am (.aa rfl) (.blt rfl rfl (.cons (EE.ev<| .T _ _ (.bf rfl .int rfl (by omega)) rfl rfl (λ j o=>?_) (by rw[CM];omega)) .nil rfl) (by
  have e:(((Ap 5).filter λ j=>U2 a i/2^j%2==1).map λ j=>PV.int ((Fa.getD j 0:Nat):Int))=(((Ap 5).filter λ j=>U2 a i/2^j%2==1).map λ j=>Fa.getD j 0).map λ n=>PV.int (n:Nat):=by rw[Be];rfl
  rw[e];exact Rb _)) (oY _ _)
 have o:=Au.mp o;refine⟨[("j",.aa (.int j)),("k",.aa (.int i)),("numbers",.aa (Bh a)),("units",.aa (Bh Fa))],rfl,.bq ?_,λ _=>.sub (.aa rfl) (.aa rfl) (λ _ _=>rfl) (Se (by decide) o)⟩;exact .au (S8 (.sub (.aa rfl) (.aa rfl) (λ _ _=>rfl) (Sc O (Nat.le.step s))) (.aa rfl) (Ao o (of_decide_eq_true (_root_.id (Cy Ag))))) .int rfl (nR _ _)
def cT (l:List (List As)):PV:=.list (l.map Bj)
def wX (h:List Nat):A5:=[("numbers",.aa (Bh h)),("names",.aa (Bj Gp)),("drawn",.aa (Bh (Dx h))),("modes",.aa (DY (NT h))),("spoiled",.aa (cT (QM h)))]
theorem gZ (a b:List PV)(h:a.length+b.length<=B2):GI .Add (.list a) (.list b)=Ab (.list (a++b)):=by
 show(if a.length+b.length<=B2 then Ab (PV.list (a++b)) else Ah)=_;rw[if_pos h]
theorem v7 (s:GW w h C k mg mb)(E:CY k A)(B:Kr w h 188 z N)(H:a.length=7):QG w h A z N (exec (E3 7) z) (Y7 a) (.next (Bu (Y7 a) "modes" (.aa (DY (NT a))))):=by
 have V:=Kz;have e:DY (NT a)=.list ((Ap 6).map λ i=>PV.int (Er a i)):=by delta DY NT;exact congrArg _ (Be)
 rw[e]
 conv in E3 7=>whnf
 refine DU s E B (.M _ (.bf rfl .int rfl (Aj (BZ 6) 93)) rfl rfl (λ i o=>?_) (Aj 6 1048570)) rfl;have o:=Au.mp o;have O:=Sc H (Nat.le.step o);have Q:EW (Bh (Dx a)) (.int i)=Ab (.int (Fy a i:Int)):=by
  have:=Se (l:=Dx a) (by simp[Dx]) o;refine this.trans ?_;unfold Dx;simp[Am,o]
 refine⟨[("k",.aa (.int i)),("numbers",.aa (Bh a)),("drawn",.aa (Bh (Dx a)))],rfl,?_⟩;exact .am (.sub (.aa rfl) (.aa rfl) (λ _ _=>rfl) Q) (.am .int (.am (.am (.am (.sub (.aa rfl) (.aa rfl) (λ _ _=>rfl) O) .int (Xw _ 32 (Aj _ _) (Aj _ _))) .int (lE _ 24 (Aj _ _))) .int (Vm _ _)) (vA (AO rfl))) (Ww _ _)
theorem v8 (o:GW w h C k mg mb)(s:CY k A)(B:Kr w h 188 z N):QG w h A z N (exec (E3 8) z) O (.next (Bu O "odd" (.aa (cT Sx)))):=by
 have E:=Kz
 conv in E3 8=>whnf
 exact By o s B (.list (.cons (.list (.cons (.ag (by kernel_rfl)) .nil rfl) (by exact Aj 1 1048575)) (.cons (.list (.cons (.ag (by kernel_rfl)) .nil rfl) (by exact Aj 1 1048575)) (.cons (.list (.cons (.ag (by kernel_rfl)) (.cons (.ag (by kernel_rfl)) .nil rfl) rfl) (by exact Aj 2 1048574)) (.cons (.list (.cons (.ag (by kernel_rfl)) .nil rfl) (by exact Aj 1 1048575)) .nil rfl) rfl) rfl) rfl) (by exact Aj 4 1048572)) (by kernel_rfl) (by rfl)
theorem v9 {a:List Nat}(s:GW w h C k mg mb)(E:CY k A)(B:Kr w h 188 z N)(H:a.length=7):QG w h A z N (exec (E3 9) z) (Y9 a) (.next (Bu (Y9 a) "spoiled" (.aa (cT (QM a))))):=by
 have Q:=Kz;have O:=Sc H (An (BZ 6));have e:cT (QM a)=.list (((Ap 4).map λ k=>Bj (if UP a k then Sx.getD k [] else[]))++[Bj [],Bj []]):=by delta cT QM;rfl
 conv in E3 9=>whnf
 refine By s E B (.am (a:=.list ((Ap 4).map λ k=>Bj (if UP a k then Sx.getD k [] else[]))) (EE.ev<| .M _ (.bf rfl .int rfl (Aj (BZ 4) 95)) rfl rfl (λ i o=>?_) (Aj 4 1048572)) (.list (.cons (.list .nil (Aj 0 1048576)) (.cons (.list .nil (Aj 0 1048576)) .nil rfl) rfl) (Aj 2 1048574)) ?_) rfl (by rfl)
 ·have o:=Au.mp o;refine⟨[("k",.aa (.int i)),("numbers",.aa (Bh a)),("odd",.aa (cT Sx))],rfl,?_⟩;refine .ja (b':=UP a i) (.au (S8 (.am (.sub (.aa rfl) .int (λ _ _=>rfl) O) .int (Xw _ 4096 (Aj (BZ 0) 4095) (Aj (BZ 4096) 995903))) (.aa rfl) (Ao o (of_decide_eq_true (_root_.id (Cy Ag))))) .int rfl (nR _ _)) ?_;cases UP a i with
  |true=>exact .sub (.aa rfl) (.aa rfl) (λ _ _=>rfl) (Hc (Aj 4 1048572) (by rw[Bo,Ki (d:=[]) o];rfl))
  |false=>exact .list .nil (Aj 0 1048576)
 ·exact gZ _ _ (Aj (4+2) 1048570)
structure LE (w:World)(h:AT)(A:Dj)(ah:E9)(hb:AT):Prop where
 B:Kr w h 188 ah hb
 hA:CY 12 A
 O:ZG (W1 w h) A ah hb []
 wr:∀b∈AW ah,Ec (Fe w 188).scope ah b
 he:∃n,ah=B5 (Fe w 188) n 188
structure U7 (w:World)(h:AT)(A:Dj)(ah:E9)(hb:AT)(sts:List Bs)(ρ:A5):Prop where
 go:∀(s:Aq)(Q:FG->Aq->Prop)(E:Jc),XS (W1 w h) (Fe w 188).scope ah hb (AW ah) (AW ah) s ρ->(∀h' tk,BB (W1 w h) hb h'->s.toks<=tk->Q (.ret (.bool Ag)) {s with heap:=h',toks:=tk})->Aw (W1 w h).M A (execs sts ah) Q E s
theorem Ht {r:List Bs}{st:Bs}{a:A5}(c:QG w h A z N (exec st z) O (.next a))(d:U7 w h A z N r a):U7 w h A z N (st::r) O:=.mk λ s Q E S e=>
 Ay (c.go _ _ s _ _ S λ C k H f V=>d.go {s with heap:=C,toks:=k} Q E H λ W o b Z=>e W o b (Aa V Z))
theorem Pj (e:a=Ek b O)(k:U7 w h A z N r a):U7 w h A z N r O:=.mk λ s Q E S o=>k.go s Q E (S.aw (e▸EN)) o
theorem qI {r:List Bs}{st:Bs}(V:QG w h A z N (exec st z) O (.ret (.bool Ag))):U7 w h A z N (st::r) O:=.mk λ s Q E S W=>
 Ay (V.go _ _ s _ _ S λ v o k H C Z=>by have e:v=.bool Ag:=Z.aj;subst e;exact W o k H C)
theorem fN (o:(fd.scope.names.map (·.1)).Nodup)(n a:Nat):∀b∈AW (B5 fd n a),Ec fd.scope (B5 fd n a) b:=λ b w=>by
 rcases Ak.mp w with q |q
 ·exact .inl q
 ·skip
  obtain⟨⟨x,c⟩,z,rfl⟩:=AH.mp q;have s:=Mq fd.scope.names (n+1) [] o (λ p h=>nomatch h) (λ p h=>nomatch h) (x,c) z;refine .inr ⟨x,?_,s⟩;cases e:decide (fd.scope.names.lookup x=Ab .cell) with
  |true=>exact of_decide_eq_true (e)
  |false=>
   have:=(Ds x fd.scope.names (n+1) [] o).1 (by exact of_decide_eq_false (e));have k:(CF (n+1) fd.scope.names []).lookup x=Ab c:=s;rw[this] at k;contradiction
def cF (h:A5):Bool:=h.all λ p=>match p.2 with | .own _=>Av |_=>Ag
theorem SP (k:cF O=Ag):∀y d,O.lookup y≠Ab (.own d):=λ y d q=>by
 have:∀l:A5,cF l=Ag->l.lookup y=Ab (.own d)->False:=by
  intro l;induction l with
  |nil=>intro _ q;cases q
  |cons p l o=>
   intro h q;obtain⟨x,s⟩:=p;unfold cF at h;rw[Dv,AG] at h;rw[List.lookup_cons] at q;split at q
   ·cases q;exact absurd h.1 (by simp)
   ·exact o h.2 q
 exact this O k q
theorem t0 (s:GW w h C k mg mb)(L:LE w h A z N)(hk:k<=12)(Q:a.length<=B2)(V:U7 w h A z N r (wX (Op (a.take 60)))):
 U7 w h A z N (E3 0::E3 1::E3 2::E3 3::E3 4::E3 5::E3 6::E3 7::E3 8::E3 9::r) (Y0 a):=by
 have E:=L.hA.ai hk;have B:=L.B;have W:(a.take 60).length<=100:=by rw[Dd];omega
 refine Ht (v0 s E B Q) (Ht (v1 s E B) ?_);have H:=bZ (a.take 60);generalize a.take 60=O at*;refine Pj (by kernel_rfl:Y2 a O=Ek ["script","taken","own"] (Bu (Bu (Y0 a) "taken" (.aa (DY O))) "own" (.aa (DY bW)))) (Ht (v2 s E B W) ?_);generalize Op O=o at*;refine Ht (v3 s E B) (Ht (v4 s E B) ?_);refine Pj (by kernel_rfl:Y5 o=Ek ["numbers","names","units"] (Bu (Bu (Bu (Y2 a O) "numbers" (.aa (Bh o))) "names" (.aa (Bj Gp))) "units" (.aa (Bh Fa)))) (Ht (v5 s E B H) ?_);refine Pj (by kernel_rfl:Y6 o=Ek ["numbers","names","units","common"] (Bu (Y5 o) "common" (.aa (.int (Wg o:Nat))))) (Ht (v6 s E B H) (Ht (v7 s E B H) ?_));refine Pj (by kernel_rfl:Y8 o=Ek ["numbers","names","drawn","modes"] (Bu (Y7 o) "modes" (.aa (DY (NT o))))) (Ht (v8 s E B) ?_);refine Pj (by kernel_rfl:Y9 o=Ek ["numbers","names","drawn","modes","odd"] (Bu (Y8 o) "odd" (.aa (cT Sx)))) (Ht (v9 s E B H) ?_);exact Pj (by kernel_rfl:wX o=Ek ["numbers","names","drawn","modes","spoiled"] (Bu (Y9 o) "spoiled" (.aa (cT (QM o))))) V
def Lr (h:List Nat):List (As×PV):=(Ap 6).map λ k=>(nm k,Fd (Er h k))
theorem vB (h:i<6):(NT a).getD i 0=Er a i:=by
 unfold NT;rw[Am,Bo,List.getElem?_range h];rfl
theorem oL:(Ap 6).foldl (S6 (NT a)) []=Lr a:=by
 kernel_rfl
theorem Zu:NF (Lr a) (Lr a)=Ab Ag:=by
 have h:∀i:Int,NU (Fd i) (Fd i)=Ab Ag:=λ i=>by
  show Ab (decide (("peer":As)="peer")&&((i==i)&&Ag))=_;simp
 unfold NF Lr;have:Nx ((Ap 6).map λ k=>(nm k,Fd (Er a k))) ((Ap 6).map λ k=>(nm k,Fd (Er a k)))=Ab Ag:=by
  generalize Er a=f;show Nx [(nm 0,Fd (f 0)),(nm 1,Fd (f 1)),(nm 2,Fd (f 2)),(nm 3,Fd (f 3)),(nm 4,Fd (f 4)),(nm 5,Fd (f 5))] [(nm 0,Fd (f 0)),(nm 1,Fd (f 1)),(nm 2,Fd (f 2)),(nm 3,Fd (f 3)),(nm 4,Fd (f 4)),(nm 5,Fd (f 5))]=_;generalize f 0=s;generalize f 1=w;generalize f 2=z;generalize f 3=A;generalize f 4=C;generalize f 5=E;have step:∀o n d r e,o.find? (λ e=>e.1=n)=Ab e->NU d e.2=Ab Ag->Nx o r=Ab Ag->Nx o ((n,d)::r)=Ab Ag:=λ o n d r e H N O=>by
   rw[PX];rw[H];show(NU d e.2).bind _=_;rw[N,O];rfl
  refine step _ _ _ _ (nm 0,Fd s) rfl (h s) (step _ _ _ _ (nm 1,Fd w) rfl (h w) (step _ _ _ _ (nm 2,Fd z) rfl (h z) (step _ _ _ _ (nm 3,Fd A) rfl (h A) (step _ _ _ _ (nm 4,Fd C) rfl (h C) (step _ _ _ _ (nm 5,Fd E) rfl (h E) rfl)))))
 rw[this];simp
theorem lP:∀{k:List PV},(∀x∈k,To (n+1) x=Ag)->lvlL (n+1) k=Ag:=by
 intro k;induction k with
 |nil=>exact λ _=>rfl
 |cons x k o=>
  intro h;show(To (n+1) x&&lvlL (n+1) k)=Ag;rw[h x Ad,o λ y s=>h y (Af _ s)];rfl
theorem Zg:∀{k:List PV},(∀x∈k,Dn (Iz x) (Iz x)=Ag)->PyData.eqvAll (toPyL k) (toPyL k)=Ag:=by
 intro k;induction k with
 |nil=>exact λ _=>rfl
 |cons x k o=>
  intro h;show(Dn (Iz x) (Iz x)&&PyData.eqvAll (toPyL k) (toPyL k))=Ag;rw[h x Ad,o λ y s=>h y (Af _ s)];rfl
theorem gC (h:∀x∈a,Dn (Iz x) (Iz x)=Ag):Dn (Iz (.list a)) (Iz (.list a))=Ag:=by
 show Dn (.list (toPyL a)) (.list (toPyL a))=Ag;rw[Dn];exact Zg h
theorem Xv (h:∀x∈a,To 5 x=Ag)(k:∀x∈a,Dn (Iz x) (Iz x)=Ag):NU (.list a) (.list a)=Ab Ag:=by
 unfold NU;have:To 6 (.list a)=Ag:=lP h;rw[this,if_pos (rfl),gC k]
theorem gA (x:As):Dn (Iz (.str x)) (Iz (.str x))=Ag:=by
 show decide (x=x)=Ag;simp
theorem gD (x:Int):Dn (Iz (.int x)) (Iz (.int x))=Ag:=by
 show(x==x)=Ag;simp
theorem NC (l:List As):NU (Bj l) (Bj l)=Ab Ag:=
 Xv (λ x h=>by obtain⟨y,_,rfl⟩:=AH.mp h;rfl) λ x h=>by obtain⟨y,_,rfl⟩:=AH.mp h;exact gA y
theorem nQ (l:List Int):NU (DY l) (DY l)=Ab Ag:=
 Xv (λ x h=>by obtain⟨y,_,rfl⟩:=AH.mp h;rfl) λ x h=>by obtain⟨y,_,rfl⟩:=AH.mp h;exact gD y
def OL (h:List Nat)(a b:Nat):Bool:=!(a==b)&&(Fy h a|||Fy h b)==Fy h b
def Vz (h:List Nat)(a b:Nat):Bool:=decide (a<b)||!(Fy h a==Fy h b)
def Ky (h:List Nat):List (Nat×Nat):=(Ap 6).flatMap λ a=>((Ap 6).filter λ b=>OL h a b).map λ b=>(a,b)
def GE (h:List Nat):List (Nat×Nat):=(Ky h).filter λ p=>Vz h p.1 p.2
def Jb (h:List Nat)(a:Nat):List Nat:=((GE h).filter λ p=>p.1==a).map (·.2)
def QP (h:List Nat):List (Nat×Nat):=(Ap 6).flatMap λ a=>((Jb h a).filter λ b=>((Jb h a).filter λ c=>(Jb h c).any (·==b)).isEmpty).map λ b=>(a,b)
def N8 (h:List Nat):List (As×As):=(QP h).map λ p=>(nm p.1,nm p.2)
def Nd (h:List Nat):ZB:=⟨NT h,QM h,N8 h,GE h⟩
theorem SX {b c:Type}(f:b->List c):∀l:List b,(∀a∈l,(f a).length<=m)->(l.flatMap f).length<=m*l.length:=by
 intro l;induction l with
 |nil=>
  intro _;exact AZ _
 |cons a l k=>
  intro h;rw[List.flatMap_cons,AQ];exact Aa (FQ (h a Ad) (k λ x o=>h x (Af _ o))) (AB (Ev m _))
theorem UN {p:Nat×Nat}(h:p∈Ky c):p.1<6/\p.2<6/\OL c p.1 p.2=Ag:=by
 obtain⟨a,k,h⟩:=List.mem_flatMap.mp h;obtain⟨b,o,rfl⟩:=AH.mp h;obtain⟨s,w⟩:=Ax.mp o;exact⟨Au.mp k,Au.mp s,w⟩
theorem Qr (h:List Nat):(Ky h).length<=36:=by
 refine Aa (SX (m:=6) _ _ λ a _=>?_) (by simp);rw[Al];exact Aa (AX _ _) (by simp)
theorem O0 (h:List Nat):(GE h).length<=36:=Aa (AX _ _) (Qr h)
theorem Gl:(a,b)∈GE c↔a<6/\b<6/\OL c a b=Ag/\Vz c a b=Ag:=by
 constructor
 ·intro h;obtain⟨k,o⟩:=Ax.mp h;have:=UN k;exact⟨this.1,this.2.1,this.2.2,o⟩
 ·rintro⟨k,o,s,w⟩;exact Ax.mpr ⟨List.mem_flatMap.mpr ⟨a,Au.mpr k,AH.mpr ⟨b,Ax.mpr ⟨Au.mpr o,s⟩,rfl⟩⟩,w⟩
theorem IE:b∈Jb c a↔(a,b)∈GE c:=by
 unfold Jb;rw[AH];constructor
 ·rintro⟨⟨x,y⟩,h,rfl⟩;obtain⟨k,o⟩:=Ax.mp h;have:x=a:=of_decide_eq_true (o);subst this;exact k
 ·intro h;exact⟨(a,b),Ax.mpr ⟨h,by exact if_pos rfl⟩,rfl⟩
def rI (h:List Nat)(a b:Nat):Bool:=decide ((a,b)∈GE h)
theorem IU:rI c a b=Ag↔(a,b)∈GE c:=by unfold rI;exact decide_eq_true_iff
theorem MH {x y:Nat}:x|||y=y↔∀i,x.testBit i=Ag->y.testBit i=Ag:=by
 constructor
 ·intro h i k;have:=congrArg (λ n=>Nat.testBit n i) h;rw[EA,k,Bool.true_or] at this;exact this.symm
 ·intro h;apply Ft;intro i;rw[EA];cases e:x.testBit i with
  |false=>rfl
  |true=>rw[h i e];rfl
theorem Rl (s:List Nat):PO (rI s) where
 my:=λ a=>by
  cases q:rI s a a with
  |false=>rfl
  |true=>
   have:=(Gl.mp (IU.mp q)).2.2.1;unfold OL at this;simp at this
 six:=λ a b h=>let⟨w,z,_⟩:=Gl.mp (IU.mp h);⟨w,z⟩
 tr:=λ a b c w z=>by
  obtain⟨E,O,A,k⟩:=Gl.mp (IU.mp w);obtain⟨_,H,C,o⟩:=Gl.mp (IU.mp z);refine IU.mpr (Gl.mpr ⟨E,H,?_,?_⟩)
  all_goals
   unfold OL at A C;unfold Vz at k o
   first |unfold OL |unfold Vz
   simp only[AG,C3,beq_eq_false_iff_ne,beq_iff_eq,CW,decide_eq_true_eq] at*
  ·refine⟨λ q=>?_,MH.mpr λ i N=>MH.mp C.2 i (MH.mp A.2 i N)⟩;subst q;have e:Fy s a=Fy s b:=by
    have w:=MH.mp A.2;have z:=MH.mp C.2;apply Ft;intro i;rw[BJ];exact⟨w i,z i⟩
   rcases k with k |k
   ·rcases o with o |o
    ·exact Ho (Mv k o)
    ·exact o e.symm
   ·exact k e
  ·by_cases q:Fy s a=Fy s c
   ·have w:=MH.mp A.2;have z:=MH.mp C.2;have e:Fy s a=Fy s b:=by
     apply Ft;intro i;rw[BJ];exact⟨w i,λ h=>by rw[q];exact z i h⟩
    rcases k with k |k
    ·rcases o with o |o
     ·exact .inl (Cw k o)
     ·exact absurd (e.symm.trans q) o
    ·exact absurd e k
   ·exact .inr q
theorem Sy:(a,b)∈QP d↔EO (rI d) a b=Ag:=by
 delta QP EO
 rw[List.mem_flatMap,AG,IU];constructor
 ·rintro⟨x,A,h⟩;obtain⟨y,s,e⟩:=AH.mp h;cases e;obtain⟨k,o⟩:=Ax.mp s;refine⟨IE.mp k,?_⟩;cases q:((Ap 6).any λ c=>rI d a c&&rI d c b) with
  |false=>rfl
  |true=>
   obtain⟨c,hc,e⟩:=B9.mp q;rw[AG,IU,IU] at e;have:c∈(Jb d a).filter λ c=>(Jb d c).any (·==b):=Ax.mpr ⟨IE.mpr e.1,B9.mpr ⟨b,IE.mpr e.2,by exact if_pos rfl⟩⟩
   replace this:=(De.mp o)▸this
   cases this
 ·rintro⟨k,o⟩;refine⟨a,Au.mpr (Gl.mp k).1,AH.mpr ⟨b,Ax.mpr ⟨IE.mpr k,?_⟩,rfl⟩⟩;rw[De];refine DO.mpr λ c hc z=>?_;obtain⟨y,s,e⟩:=B9.mp z;have:y=b:=of_decide_eq_true (e);subst this;have w:=IE.mp s;have:((Ap 6).any λ c=>rI d a c&&rI d c y)=Ag:=B9.mpr ⟨c,Au.mpr (Gl.mp w).1,by rw[IU.mpr (IE.mp hc),IU.mpr w];rfl⟩;rw[this] at o;exact BI o
theorem oZ (h:List Nat)(a:Nat):(Jb h a).length<=36:=by
 unfold Jb;rw[Al];exact Aa (AX _ _) (O0 h)
def iP:List (Nat×Nat):=(Ap 6).flatMap λ a=>(Ap 6).map λ b=>(a,b)
theorem oK (h:List Nat):Ky h=iP.filter λ p=>OL h p.1 p.2:=by
 delta Ky iP
 rw[List.filter_flatMap];congr 1
 funext a
 rw[Hn];rfl
theorem bP (h:List Nat):(GE h).Nodup:=by
 unfold GE;rw[oK];exact((by decide:iP.Nodup).filter _).filter _
theorem Ob {b c:Type}{f:b->c}:∀{l:List b},l.Nodup->(∀x∈l,∀y∈l,f x=f y->x=y)->(l.map f).Nodup:=by
 intro l;induction l with
 |nil=>
  intro _ _;exact .nil
 |cons a l s=>
  intro h k;rw[BA] at h;rw[Bl,BA];refine⟨λ q=>?_,s h.2 λ x w y o=>k x (Af _ w) y (Af _ o)⟩;obtain⟨y,o,e⟩:=AH.mp q;exact h.1 (k y (Af _ o) a Ad e▸o)
theorem iQ (h:List Nat)(a:Nat):(Jb h a).Nodup:=by
 refine Ob ((bP h).filter _) λ x k y o e=>?_;exact Prod.ext ((by simpa using(Ax.mp k).2:x.1=a).trans (by simpa using(Ax.mp o).2:y.1=a).symm) e
theorem wV (h:List Nat)(a:Nat):(Jb h a).length<=6:=by
 have:=No (iQ h a) λ b k=>Au.mpr (Gl.mp (IE.mp k)).2.1;simpa using this
theorem O4 (h:List Nat):(QP h).length<=36:=by
 refine Aa (SX (m:=6) _ _ λ a _=>?_) (by simp);rw[Al];exact Aa (AX _ _) (wV h a)
theorem bB (h:List Nat):qC (Nd h) where
 tk:=OW h
 nl:=by rw[Al];have:=O4 h;exact Aa this (of_decide_eq_true (_root_.id (Cy Ag)))
 pl:=Aa (O0 h) (Aj 36 64)
 p6:=λ p k=>by
  have:=k;exact⟨(Gl.mp this).1,(Gl.mp this).2.1⟩
theorem kO (a b:Nat):(a|||b)+(a&&& b)=a+b:=by
 have h:Ab (PV.int (Builtin.bitOr a b))=Ab (PV.int ((a|||b:Nat):Int)):=Sv a b;injection h with h;injection h with h;have k:AP (a:Int) (b:Int)=((a&&& b:Nat):Int):=by rw[bitAnd_pp (BW (a+0)) (BW (b+0))];rfl
 have:=bitOr_and (a:Int) (b:Int);rw[h,k] at this;exact K2.mp ((congrArg (·+((a&&& b:Nat):Int)) this).trans (Int.sub_add_cancel _ _))
theorem UO:∀{l:List Nat},l.Nodup->∀i,((l.map (2^·)).sum).testBit i=decide (i∈l):=by
 intro l;induction l with
 |nil=>
  intro _ i;simp
 |cons a l k=>
  intro h i;rw[BA] at h;have o:=k h.2;rw[Bl,IN];have s:((l.map (2^·)).sum).testBit a=Av:=by refine Eq.trans (o a) ?_;simp[h.1]
  generalize (l.map (2^·)).sum=S at*
  have e:2^a+S=2^a|||S:=by
   have w:2^a&&& S=0:=by
    apply Ft;intro j;rw[Nat.testBit_and,Ha,Nat.zero_testBit];by_cases q:a=j
    ·subst q;refine Eq.trans (congrArg _ (s)) ?_;simp
    ·simp[q]
   have:=kO (2^a) S;simp only[w,Nat.add_zero] at this;exact this.symm
  simp only[e,EA,Ha,o i];rw[BJ];simp;constructor
  ·rintro(q |q)
   ·exact .inl q.symm
   ·exact .inr q
  ·rintro(q |q)
   ·exact .inl q.symm
   ·exact .inr q
theorem cH (s:List Nat):GQ (rI s) (Dw (GE s)):=λ k hk=>by
 have e:Dw (GE s) k=((((GE s).filter λ p=>p.2==k).map (·.1)).map (2^·)).sum:=by rw[Be];rfl
 have C:(((GE s).filter λ p=>p.2==k).map (·.1)).Nodup:=Ob ((bP s).filter _) λ x E y H e=>by
  have z:x.2=k:=by simpa using(Ax.mp E).2
  have A:y.2=k:=by simpa using(Ax.mp H).2
  exact Prod.ext e (z.trans A.symm)
 have w:∀a,a∈((GE s).filter λ p=>p.2==k).map (·.1)↔(a,k)∈GE s:=λ a=>by
  rw[AH];constructor
  ·rintro⟨⟨x,y⟩,h,rfl⟩;obtain⟨z,A⟩:=Ax.mp h;have:y=k:=BQ (A);subst this;exact z
  ·intro h;exact⟨(a,k),Ax.mpr ⟨h,by exact if_pos rfl⟩,rfl⟩
 have o:=UO C
 replace o:=(e)▸o
 refine⟨?_,λ a O=>?_⟩
 ·refine Nat.lt_pow_two_of_testBit (n:=6) _ λ i N=>?_;refine Eq.trans (o i) ?_;refine decide_eq_false λ q=>?_;have:=(Gl.mp ((w i).mp q)).1;exact Ho (Ep N this)
 ·rw[o a,BJ,decide_eq_true_iff,IU];exact w a
def kE (h:List Nat):List As:="no 226 all told"::(QM h).flatten
def Ph (h:List Nat):PV:=.ba [.dict (Lr h),Bj Gp,Bj (kE h)]
def xN (h:List Nat)(t:Ai):A5:=[("names",.aa (Bj Gp)),("drawn",.aa (Bh (Dx h))),("modes",.aa (DY (NT h))),("spoiled",.aa (cT (QM h))),("told",.av (.ref t))]
def xM (h:List Nat)(t:Ai):A5:=[("names",.aa (Bj Gp)),("drawn",.aa (Bh (Dx h))),("modes",.aa (DY (NT h))),("spoiled",.aa (cT (QM h))),("told",.av (.ref t)),("refused",.aa (Bj (kE h)))]
def xL (h:List Nat):A5:=[("names",.aa (Bj Gp)),("drawn",.aa (Bh (Dx h))),("modes",.aa (DY (NT h))),("told",.aa (Ph h))]
theorem RP (l:List (List As)):(l.flatMap λ h=>h.map PV.str)=l.flatten.map PV.str:=by
 rw[List.map_flatten,List.flatMap_def]
theorem gT:Zn ((Ap 6).map λ k=>(nm k,Fd (Er a k)))=Lr a:=by
 unfold Lr;generalize Er a=f;generalize f 0=h;generalize f 1=o;generalize f 2=s;generalize f 3=w;generalize f 4=z;generalize f 5=A;kernel_rfl
theorem qR:(QM a).flatten.length<=54:=by
 have:=SX (λ l:List As=>l) (QM a) λ l h=>(OW a).mu l h;have l6:=(OW a).lh;rw[List.flatMap_def,List.map_id'] at this;exact this
theorem Vk (h:i<6):EW (Bj Gp) (.int (i:Nat))=Ab (.str (nm i)):=by
 have k:=Kz;exact Hc (Aj 6 1048570) (by rw[Bo,Ki (l:=Gp) (d:="") h];rfl)
theorem qL (h:i<6):EW (DY (NT a)) (.int (i:Nat))=Ab (.int (Er a i)):=by
 have:=Tx (l:=NT a) (by simp[NT];exact h) (by simp[NT]);rwa[vB h] at this
theorem M? (E:GW w h C k mg mb)(H:CY k A)(B:Kr w h 188 z N):QG w h A z N (exec (E3 11) z) (xN a t) (.next (xM a t)):=by
 have O:=Kz;have s:= @qR a;have e:xM a t=Ek ["names","drawn","modes","spoiled","told","refused"] (Bu (xN a t) "refused" (.aa (.list ([.str "no 226 all told"]++(QM a).flatten.map .str)))):=rfl;refine Hj e ?_
 conv in E3 11=>whnf
 refine By E H B (.am (a:=.list [.str "no 226 all told"]) (b:=.list ((QM a).flatten.map .str)) (.list (.cons (.ag (by kernel_rfl)) .nil rfl) (Aj 1 1048575)) (by
  rw[<-RP];refine EE.ev<| .M2 (g2:=PV.str) (λ o=>o) (λ _ t=>.str t) (.list (.aa rfl) rfl) rfl rfl (λ o Q=>?_) (by rw[RP,Al];exact Aa s (of_decide_eq_true (_root_.id (Cy Ag))));exact⟨[("part",.aa (Bj o))],rfl,.list (.aa rfl) rfl,rfl,λ t V=>⟨[("text",.aa (.str t)),("part",.aa (Bj o))],rfl,.aa rfl⟩⟩) ?_) rfl (by rfl)
 show(if[PV.str "no 226 all told"].length+((QM a).flatten.map PV.str).length<=B2 then Ab (PV.list ([.str "no 226 all told"]++(QM a).flatten.map .str)) else Ah)=_;rw[if_pos (by rw[Al];exact Aa (A9 s 1) (Aa (by decide) O))]
theorem jO:(CL D).fn "_law_talk"=Ab (JK (WI D.mo D.so) (.list (Tw D.mo D.so))):=by
 show YZ D "_law_talk"=_;unfold YZ;rw[if_neg (by decide+kernel),if_neg (by decide+kernel),if_neg (by decide+kernel),if_neg (by decide+kernel),if_pos rfl]
theorem MI (a:List PV)(r:PV):JK a r a=Ab r:=by unfold JK;rw[if_pos rfl]
theorem t1 {d:Bd->Option Ae}(I:GT w h)(T:Top g c d mg mb h)(m:Cn g=Ag)(L:LE w h A z N)(a5:U7 w h A z N r (xL a)):U7 w h A z N (E3 10::E3 11::E3 12::r) (wX a):=.mk λ s Q E S hQ=>by
 have b1:=Kz;have Gk:=yX (k:=0) I T m (bB a);obtain⟨f,f0,f1,f2⟩:=(bA I T m).fn;have fo:=fP I T;have tv:∀l u p3 p4 p5,Dc (CL (Nd a)) (Fe w 188).scope (wX a) (.Call (.Name "_law_talk" l) [.Name "names" u,.Name "modes" p3,.Name "spoiled" p4] [] p5) (.list (Tw (NT a) (QM a))):=λ l u p3 p4 p5=>
  .fn rfl jO (.cons (.aa (d:=Bj Gp) rfl) (.cons (.aa (d:=DY (NT a)) rfl) (.cons (.aa (d:=cT (QM a)) rfl) .nil rfl) rfl) rfl) (MI _ _)
 conv in E3 10=>whnf
 refine Ay (X0 Gk L.B L.O S (SP rfl) L.wr (u0 I T) ((Ej I T _).trans rfl) fo mU ((Ej I T _).trans rfl) (fY I T) (pX I T) (rfl) (L.hA.ai (Aj _ _)) (tv _ _ _ _ _) rfl (congrArg _ (f0)) (by rw[f0]) (by rw[f0]) (λ i x e=>f2 i x e) rfl rfl rfl λ H V D t nt v1 v2 C hD v hT l u pD y=>?_);simp only[f1] at l u pD;have eN:(Ap 6).map (λ p=>PV.str (nm p))=Gp.map PV.str:=rfl;rw[eN] at l;rw[oL] at pD;have eY:xN a t=Ek ["names","drawn","modes","spoiled","told"] (Bu (wX a) "told" (.av (.ref t))):=rfl
 replace C:XS (W1 w h) (Fe w 188).scope z N _ _ _ (xN a t):=C.aw (by rw[eY];exact EN)
 have B:D∉AW z:=λ q=>by
  obtain⟨o,ho⟩:=S.F.an D q;rw[hD] at ho;cases ho
 have a2:¬Ec (Fe w 188).scope z D:=λ q=>B (S.F.br q);refine Ay ((M? Gk (L.hA.ai (Aj 2 10)) L.B).go _ _ {s with heap:=H,toks:=V} _ _ C λ O W G kd J=>?_);have M:∀b o,H.get? b=Ab o->b∉D::AW z->(o.cls=.type "list"\/o.cls=.type "tuple"\/o.cls=.type "dict")->O.get? b=Ab o/\b∉D::AW z:=λ b o e n hd=>⟨kd b o (.inl ⟨n,hd⟩) e,n⟩;have re:Dc (CL (Nd a)) (Fe w 188).scope (xM a t) (((Ir (E3 12)).e 0).x 1) (.ba [.dict (Lr a),Bj Gp,Bj (kE a)]):=by
  conv in EV.x _ _=>whnf
  refine .ba (.cons (by
   rw[<-gT];refine EE.ev<| .D (λ k=>nm k) (λ k=>Fd (Er a k)) (.bf rfl .int rfl (Aj (BZ 6) 93)) rfl rfl (λ i hi=>?_) (by simp;exact Aj 6 1048570);have hi:=Au.mp hi;exact⟨[("k",.aa (.int (i:Nat))),("names",.aa (Bj Gp)),("modes",.aa (DY (NT a)))],by kernel_rfl,.sub (b:=Bj Gp) (.aa (by kernel_rfl)) (.aa (d:=.int (i:Nat)) (by kernel_rfl)) (λ _ _=>rfl) (Vk hi),.ba (.cons (.ag (by kernel_rfl)) (.cons (.sub (b:=DY (NT a)) (.aa (by kernel_rfl)) (.aa (d:=.int (i:Nat)) (by kernel_rfl)) (λ _ _=>rfl) (qL hi)) .nil rfl) rfl) (by show 2<=B2;exact Aj 2 1048574)⟩) (.cons (.aa (by kernel_rfl)) (.cons (.aa (by kernel_rfl)) .nil rfl) rfl) rfl) (by show 3<=B2;exact Aj 3 1048573)
 conv at re in EV.x _ _=>whnf
 conv in E3 12=>whnf
 have bs:= @Zu a;refine Ay (mQ (s:={s with heap:=O,toks:=W}) Gk (L.hA.ai (by omega)) L.B G (x:="told") rfl (SP rfl) (λ _ h=>h) (λ _ h=>h) B v (kd t _ (.inl ⟨v,.inr (.inl rfl)⟩) hT) (Rp.bi M l) (Rp.bi M u) (BX.ap kd Ad a2 pD) re rfl bs (NC _) (NC _) λ R Z U Y=>?_);have a3:xL a=Ek ["names","drawn","modes","told"] (Bu (xM a t) "told" (.aa (.ba [.dict (Lr a),Bj Gp,Bj (kE a)]))):=rfl;refine a5.go {s with heap:=R,toks:=Z} Q E (U.aw (by rw[a3];exact EN)) λ a0 j a4 a1=>hQ a0 j a4 (Aa y (Aa J (Aa Y a1)))
def XY:List Nat:=[8,3,10,1,5]
def nN (k:List Nat)(h:Nat):List Nat:=((Ap 12).filter λ h=>!Fa.any (·==2^h)&&U2 k 6/2^h%2==1)++((Ap 5).filter λ j=>U2 k h/2^j%2==1).map λ j=>XY.getD j 0
theorem nM (h:List Nat)(k:Nat):Fy h k=((nN h k).map (2^·)).sum:=by
 delta Fy nN Wg
 simp only[Dy,List.sum_append,Be];congr 2;refine EM λ j o=>?_;exact(by decide:∀j<5,Fa.getD j 0=2^XY.getD j 0) j (Au.mp (Ax.mp o).1)
theorem s6 (k:List Nat)(o:Nat):∀e∈nN k o,e<12:=λ e s=>by
 rcases AL.mp s with h |h
 ·exact Au.mp (Ax.mp h).1
 ·skip
  obtain⟨j,w,rfl⟩:=AH.mp h;exact(by decide:∀j<5,XY.getD j 0<12) j (Au.mp (Ax.mp w).1)
theorem s5 (k:List Nat)(o:Nat):(nN k o).Nodup:=by
 refine HX.mpr ⟨List.nodup_range.filter _,Ob (List.nodup_range.filter _) λ x s y w=>?_,λ a z b A q=>?_⟩
 ·exact(by decide:∀x<5,∀y<5,XY.getD x 0=XY.getD y 0->x=y) x (Au.mp (Ax.mp s).1) y (Au.mp (Ax.mp w).1)
 ·subst q;obtain⟨j,C,rfl⟩:=AH.mp A;have h:=(Ax.mp z).2;simp only[AG] at h
  replace h:=(((by decide:∀j<5,(Fa.any (·==2^XY.getD j 0))=Ag) j (Au.mp (Ax.mp C).1)))▸h
  cases h.1
theorem Wd (h:List Nat)(k:Nat):Fy h k<4096:=by
 rw[nM];refine Nat.lt_pow_two_of_testBit (n:=12) _ λ i o=>?_;refine Eq.trans (UO (s5 h k) i) ?_;refine decide_eq_false λ q=>?_;have:=s6 h k i q;exact Ho (Ep o this)
theorem cK (h:List Nat)(k:Nat):Er h k%4096=(Fy h k:Int):=by
 have:=Wd h k;exact(J3 _ _ _).trans (Int.emod_eq_of_lt (BE _) (BO.mpr this))
theorem Wi (a b:PV):I9 .NotEq a b=(NU a b).map (!·):=rfl
def six (f:Nat->PV):List (As×PV):=(Ap 6).map λ k=>(nm k,f k)
theorem xX (f:Nat->PV)(h:i<6):EW (.dict (six f)) (.str (nm i))=Ab (f i):=by
 exact NK (P:=λ i=>EW (.dict (six f)) (.str (nm i))=Ab (f i)) rfl rfl rfl rfl rfl rfl i h
def xK (h:List Nat):A5:=[("names",.aa (Bj Gp)),("drawn",.aa (Bh (Dx h))),("modes",.aa (DY (NT h))),("told",.aa (Ph h)),("rights",.aa (Bh (Dx h)))]
def z7 (h:List Nat):A5:=[("names",.aa (Bj Gp)),("rights",.aa (Bh (Dx h)))]
theorem nI (m:Int):Xj [.int m]=Ab (.str (B6 (Np m))):=by
 show Ab (PV.str (B6 (Gq m 0 HM)))=_;rw[Za]
theorem eU (m:Int):SS [.int m]=Ab (.int (m%4096)):=by
 show Ab (PV.int (AP m 4095))=_;rw[iM]
theorem nH:(CL D).fn "filemode"=Ab Xj:=by
 show YZ D "filemode"=_;unfold YZ;rw[if_neg (by decide+kernel),if_neg (by decide+kernel),if_neg (by decide+kernel),if_pos rfl]
theorem eS:(CL D).fn "S_IMODE"=Ab SS:=by
 show YZ D "S_IMODE"=_;unfold YZ;rw[if_neg (by decide+kernel),if_neg (by decide+kernel),if_pos rfl]
theorem VO:(CL D).fn "_law_listing"=Ab P5:=by
 show YZ D "_law_listing"=_;unfold YZ;rw[if_neg (by decide+kernel),if_neg (by decide+kernel),if_neg (by decide+kernel),if_neg (by decide+kernel),if_neg (by decide+kernel),if_pos rfl]
theorem WH (o:i<6)(h:O.lookup ("told":As)=Ab (.aa (Ph a)))(s:O.lookup ("name":As)=Ab (.aa (.str (nm i)))):
 Dc C V O (.Subscript (.Subscript (.Subscript (.Name "told" c) (.Constant (.int 0) d e) f) (.Name "name" g) j) (.Constant (.int 1) b l) m) (.int (Er a i)):=by
 have w:EW (.dict (Lr a)) (.str (nm i))=Ab (Fd (Er a i)):=xX (λ k=>Fd (Er a k)) o;generalize Er a i=x at*;unfold Ph at h;generalize Lr a=z at*;exact .sub (.bn (.sub (.bn (.sub (.aa h) .int (λ _ _=>rfl) rfl)) (.aa s) (λ _ _=>rfl) w)) .int (λ _ _=>rfl) rfl
theorem WG (h:O.lookup ("told":As)=Ab (.aa (Ph a))):OG C V O (.Subscript (.Name "told" b) (.Constant (.int 1) c d) e) ((Ap 6).map λ i=>PV.str (nm i)):=
 .list (.sub (.aa h) .int (λ _ _=>rfl) rfl) rfl
theorem M! (o:E2 (W1 w h) (CL D) k mg mb)(s:CY k A)(B:Kr w h 188 z N):QG w h A z N (exec (E3 13) z) (xL a) (.next (xK a)):=by
 have E:=Kz;have e:Bh (Dx a)=.list ((Ap 6).map λ i=>PV.int (Er a i%4096)):=by
  delta Bh Dx
  rw[Be];congr 1;exact EM λ i _=>by rw[cK];rfl
 refine Hj (ks:=["names","drawn","modes","told","rights"]) (ρ1:=Bu (xL a) "rights" (.aa (Bh (Dx a)))) rfl ?_;rw[e]
 conv in E3 13=>whnf
 refine DU o s B (.M _ (WG rfl) rfl rfl (λ i C=>?_) (Aj 6 1048570)) rfl;exact⟨[("name",.aa (.str (nm i))),("told",.aa (Ph a))],rfl,.fn rfl eS (.cons (WH (Au.mp C) rfl rfl) .nil rfl) (eU _)⟩
theorem M' (E:E2 (W1 w h) (CL D) k mg mb)(H:CY k A)(B:Kr w h 188 z N):QG w h A z N (exec (E3 14) z) (xK a) (.next (xK a)):=by
 have Q:=Kz;have O:Bh (Dx a)=DY ((Dx a).map λ n=>((n:Nat):Int)):=by delta Bh DY;exact congrArg _ (Be)
 have s:Bj ((Ap 6).map λ i=>B6 (Np (Er a i)))=.list ((Ap 6).map λ i=>.str (B6 (Np (Er a i)))):=by unfold Bj;exact congrArg _ (Be)
 have o:I9 .NotEq (Bh (Dx a)) (Bh (Dx a))=Ab Av:=by rw[Wi,O,nQ];rfl
 conv in E3 14=>whnf
 refine GB E H B (.all (.dj (.au (.aa rfl) (.aa rfl) rfl o) λ _=>.dj (.au (a:=Bj ((Ap 6).map λ i=>B6 (Np (Er a i)))) (b:=Bj ((Ap 6).map λ i=>B6 (Np (Er a i)))) (by
  rw[s];refine EE.ev<| .M _ (WG rfl) rfl rfl (λ i C=>?_) (by rw[CM];exact Aj 6 1048570);exact⟨[("name",.aa (.str (nm i))),("told",.aa (Ph a))],rfl,.fn rfl nH (.cons (WH (Au.mp C) rfl rfl) .nil rfl) (nI _)⟩) (by
  rw[s];refine EE.ev<| .M (g:=λ i=>.int (Er a i)) _ (.list (.aa rfl) rfl) rfl rfl (λ i C=>?_) (by rw[CM];exact Aj 6 1048570);exact⟨[("mode",.aa (.int (Er a i)))],rfl,.fn rfl VO (.cons (.aa rfl) .nil rfl) rfl⟩) rfl (by rw[Wi,(NC ((Ap 6).map λ i=>B6 (Np (Er a i))))];rfl)) λ _=>.nil)) ?_
 exact FT
def z6 (h:List Nat):A5:=[("names",.aa (Bj Gp)),("rights",.aa (Bh (Dx h))),("both",.aa (IA (Ky h)))]
def z5 (h:List Nat):A5:=[("names",.aa (Bj Gp)),("pairs",.aa (IA (GE h)))]
def iR (h:List Nat):PV:=.list ((Ap 6).map λ a=>Bh (Jb h a))
def z4 (h:List Nat):A5:=[("names",.aa (Bj Gp)),("pairs",.aa (IA (GE h))),("above",.aa (iR h))]
def zZ (h:List Nat):A5:=[("names",.aa (Bj Gp)),("pairs",.aa (IA (GE h))),("nexts",.aa (Hi (N8 h)))]
theorem F' (a b:Nat):I9 .NotEq (.int (a:Nat)) (.int (b:Nat))=Ab (!(a==b)):=by
 rw[Wi];have:NU (.int a) (.int b)=Ab (a==b):=nR a b;rw[this];rfl
theorem Pm (h:i<6):EW (Bh (Dx a)) (.int (i:Nat))=Ab (.int ((Fy a i:Nat):Int)):=by
 have k:=Kz;refine Hc (by rw[Al];exact Aj 6 1048570) ?_;rw[Bo,Bo,List.getElem?_range h];rfl
theorem Sd (h:i<6):EW (iR a) (.int (i:Nat))=Ab (Bh (Jb a i)):=by
 have k:=Kz;refine Hc (Aj 6 1048570) ?_;rw[Bo,List.getElem?_range h];rfl
theorem L? (s:GW w h C k mg mb)(E:CY k A)(B:Kr w h 188 z N):QG w h A z N (exec (E3 15) z) (z7 c) (.next (z6 c)):=by
 have O:=Kz;have e:IA (Ky c)=.list ((Ap 6).flatMap λ a=>((Ap 6).filter λ b=>OL c a b).map λ b=>pK (a,b)):=by
  delta IA Ky
  rw[List.map_flatMap];simp only[Be];rfl
 refine Hj (ks:=["names","rights","both"]) (ρ1:=Bu (z7 c) "both" (.aa (IA (Ky c)))) rfl ?_;have H:((Ap 6).flatMap λ a=>((Ap 6).filter λ b=>OL c a b).map λ b=>pK (a,b)).length<=B2:=by
  have:(IA (Ky c))=.list ((Ky c).map pK):=rfl;injection e with e;rw[<-e,Al];exact Aa (Qr c) (of_decide_eq_true (_root_.id (Cy Ag)))
 rw[e]
 conv in E3 15=>whnf
 refine DU s E B (.T2 (g2:=λ(i:Nat)=>PV.int (i:Nat)) (λ _=>Ap 6) (λ a b=>OL c a b) (λ a b=>pK (a,b)) (.bf rfl .int rfl (Aj (BZ 6) 93)) rfl rfl (λ a o=>?_) H) rfl;have o:=Au.mp o;refine⟨[("a",.aa (.int (a:Nat))),("rights",.aa (Bh (Dx c)))],rfl,.bf rfl .int rfl (Aj (BZ 6) 93),rfl,λ b N=>?_⟩;have N:=Au.mp N;refine⟨[("b",.aa (.int (b:Nat))),("a",.aa (.int (a:Nat))),("rights",.aa (Bh (Dx c)))],rfl,.bq ?_,λ _=>.ba (.cons (.aa rfl) (.cons (.aa rfl) .nil rfl) rfl) (by exact Aj 2 1048574)⟩;have e:OL c a b=(!(a==b)&&(((Fy c a|||Fy c b)==Fy c b)&&Ag)):=by unfold OL;rw[EU]
 rw[e];exact .all (.bu (.au (.aa rfl) (.aa rfl) rfl (F' _ _)) λ _=>.bu (.au (.am (.sub (.aa rfl) (.aa rfl) (λ _ _=>rfl) (Pm o)) (.sub (.aa rfl) (.aa rfl) (λ _ _=>rfl) (Pm N)) (Sv _ _)) (.sub (.aa rfl) (.aa rfl) (λ _ _=>rfl) (Pm N)) rfl (nR _ _)) λ _=>.nil)
theorem R? (a b:Nat):I9 .Lt (.int (a:Nat)) (.int (b:Nat))=Ab (decide (a<b)):=by
 simp only[cR];congr 1;simp
theorem L! (s:GW w h C k mg mb)(E:CY k A)(B:Kr w h 188 z N):QG w h A z N (exec (E3 16) z) (z6 c) (.next (z5 c)):=by
 have O:=Kz;refine Hj (ks:=["names","pairs"]) (ρ1:=Bu (z6 c) "pairs" (.aa (.list ((GE c).map pK)))) rfl ?_
 conv in E3 16=>whnf
 refine DU s E B (.T (l:=Ky c) (g:=pK) (λ p=>Vz c p.1 p.2) pK (.list (.aa rfl) rfl) rfl rfl (λ p H=>?_) (Aa (Qr c) (of_decide_eq_true (_root_.id (Cy Ag))))) rfl;obtain⟨a,b⟩:=p;have o:=UN H;refine⟨[("b",.aa (.int b)),("a",.aa (.int a)),("rights",.aa (Bh (Dx c)))],rfl,.bq ?_,λ _=>.ba (.cons (.aa rfl) (.cons (.aa rfl) .nil rfl) rfl) (Aj 2 1048574)⟩;have e:Vz c a b=(decide (a<b)||(!(Fy c a==Fy c b)||false)):=by unfold Vz;rw[Bool.or_false]
 rw[e];exact .all (.dj (.au (.aa rfl) (.aa rfl) rfl (R? _ _)) λ _=>.dj (.au (.sub (.aa rfl) (.aa rfl) (λ _ _=>rfl) (Pm o.1)) (.sub (.aa rfl) (.aa rfl) (λ _ _=>rfl) (Pm o.2.1)) rfl (F' _ _)) λ _=>.nil)
theorem L' (o:GW w h C k mg mb)(s:CY k A)(B:Kr w h 188 z N):QG w h A z N (exec (E3 17) z) (z5 b) (.next (z4 b)):=by
 have H:=Kz;have E:=O0 b;refine Hj (ks:=["names","pairs","above"]) (ρ1:=Bu (z5 b) "above" (.aa (.list ((Ap 6).map λ a=>Bh (Jb b a))))) rfl ?_
 conv in E3 17=>whnf
 refine DU o s B (.M _ (.bf rfl .int rfl (Aj (BZ 6) 93)) rfl rfl (λ a O=>?_) (Aj 6 1048570)) rfl;refine⟨[("a",.aa (.int a)),("pairs",.aa (IA (GE b)))],rfl,?_⟩;have e:Bh (Jb b a)=.list (((GE b).filter λ p=>p.1==a).map λ p=>PV.int (p.2:Nat)):=by
  delta Bh Jb;rw[Be];rfl
 rw[e];refine EE.ev<| .T (λ p=>p.1==a) (λ p=>PV.int (p.2:Nat)) (.list (.aa rfl) rfl) rfl rfl (λ p Q=>?_) (Aa E (of_decide_eq_true (_root_.id (Cy Ag))));exact⟨[("b",.aa (.int (p.2:Nat))),("c",.aa (.int (p.1:Nat))),("a",.aa (.int a))],rfl,.bq (.au (.aa rfl) (.aa rfl) rfl (nR _ _)),λ _=>.aa rfl⟩
theorem wB (l:List Nat):I9 .Eq (Bh l) (.list [])=Ab l.isEmpty:=by
 cases l with
 |nil=>rfl
 |cons x r=>
  delta NU Bh
  have:(To 6 (.list ((x::r).map λ n=>PV.int (n:Nat)))&&To 6 (.list []))=Ag:=by
   show(lvlL 5 ((x::r).map λ n=>PV.int (n:Nat))&&Ag)=Ag;rw[T7 4];rfl
  refine Eq.trans (if_pos this) ?_;rfl
def xI (h:List Nat)(a b:Nat):Bool:=((Jb h a).filter λ c=>(Jb h c).any (·==b)).isEmpty
theorem K? (H:GW w h C k mg mb)(O:CY k A)(B:Kr w h 188 z N):QG w h A z N (exec (E3 18) z) (z4 d) (.next (zZ d)):=by
 have W:=Kz;have Z:=O0 d;have e:Hi (N8 d)=.list ((Ap 6).flatMap λ a=>((Jb d a).filter λ b=>xI d a b).map λ b=>bR (nm a,nm b)):=by
  delta Hi N8 QP xI
  simp only[List.map_flatMap,Be];rfl
 refine Hj (ks:=["names","pairs","nexts"]) (ρ1:=Bu (z4 d) "nexts" (.aa (Hi (N8 d)))) rfl ?_;have Q:((Ap 6).flatMap λ a=>((Jb d a).filter λ b=>xI d a b).map λ b=>bR (nm a,nm b)).length<=B2:=by
  unfold Hi at e;injection e with e;rw[<-e,Al];rw[Al];exact Aa (O4 d) (of_decide_eq_true (_root_.id (Cy Ag)))
 rw[e]
 conv in E3 18=>whnf
 refine DU H O B (.T2 (g2:=λ(i:Nat)=>PV.int (i:Nat)) (λ a=>Jb d a) (λ a b=>xI d a b) (λ a b=>bR (nm a,nm b)) (.bf rfl .int rfl (Aj _ _)) rfl rfl (λ a o=>?_) Q) rfl;have o:=Au.mp o;refine⟨[("a",.aa (.int (a:Nat))),("names",.aa (Bj Gp)),("above",.aa (iR d))],rfl,.list (.sub (.aa rfl) (.aa rfl) (λ _ _=>rfl) (Sd o)) rfl,rfl,λ b N=>?_⟩;have s:=(Gl.mp (IE.mp N)).2.1;refine⟨[("b",.aa (.int (b:Nat))),("a",.aa (.int (a:Nat))),("names",.aa (Bj Gp)),("above",.aa (iR d))],rfl,.bq ?_,λ _=>.ba (.cons (.sub (.aa rfl) (.aa rfl) (λ _ _=>rfl) (Vk o)) (.cons (.sub (.aa rfl) (.aa rfl) (λ _ _=>rfl) (Vk s)) .nil rfl) rfl) (Aj _ _)⟩;have V:=oZ d a;refine .au ?_ (.list .nil (Aj 0 1048576)) rfl (wB _);refine EE.ev<| .T (λ c=>(Jb d c).any (·==b)) (λ c=>PV.int (c:Nat)) (.list (.sub (.aa rfl) (.aa rfl) (λ _ _=>rfl) (Sd o)) rfl) rfl rfl (λ c hc=>?_) (Aa V (of_decide_eq_true (_root_.id (Cy Ag))))
 have E:=(Gl.mp (IE.mp hc)).2.1;exact⟨[("c",.aa (.int (c:Nat))),("b",.aa (.int (b:Nat))),("above",.aa (iR d))],rfl,.bq (.cq (.aa rfl) (.bn (.sub (.aa rfl) (.aa rfl) (λ _ _=>rfl) (Sd E))) rfl (.inl rfl) (Xe _ _)),λ _=>.aa rfl⟩
open MeetsSeq MeetsSeq2 MeetsSeq3 SeqRoads2
variable {n:Nat}{vs:List Ae}{t:Expr} in
class inductive FZ:List Ae->List Nat->Prop
 |nil:FZ [] []
 |cons (n:Nat) (t:Tok) {vs:List Ae} {ns:List Nat}:FZ vs ns->FZ (.int (n:Nat) t::vs) (n::ns)
theorem FZ.len {b:List Ae}{a:List Nat}(h:FZ b a):b.length=a.length:=by
 induction h with
 |nil=>rfl
 |cons _ _ _ k=>exact congrArg BZ k
theorem FZ.get {a:List Nat}(k:FZ b a):∀(i:Nat),i<a.length->∃t,b[i]? =Ab (.int ((a.getD i 0:Nat):Int) t):=by
 induction k with
 |nil=>exact λ i h=>absurd h (Hq _)
 |cons n t _ o=>
  intro i h;cases i with
  |zero=>exact⟨t,rfl⟩
  |succ i=>exact o i (DR h)
theorem LM {l:List Nat}(h:i<l.length):l.drop i=l.getD i 0::l.drop (i+1):=by
 rw[Fi h,Am,AA h];rfl
def P? :Bool->Nat
 |true=>4
 |false=>0
def OP (g:Bool)(h k:List Nat):Bool:=if g then Kh h k else Kh k h
theorem Xy (h:a=b):OP g (a::c) (b::d)=OP g c d:=by
 subst h;cases g<;>exact if_pos (beq_self_eq_true _)
theorem fE {a b:Nat}(h:a≠b):Kh (a::c) (b::d)=decide ((b:Int)<(a:Int)):=
 (if_neg λ e=>h (BQ e)).trans (BJ.mpr ((JW DS).trans (BO.symm.trans decide_eq_true_iff.symm)))
theorem Pb {a b:List Nat}(o:i<=a.length)(k:i<=b.length)(q:a.length<=i\/b.length<=i):Kh (a.drop i) (b.drop i)=decide (b.length<a.length):=by
 rcases q with q |q
 ·rw[CR q];exact(decide_eq_false (Ep (Aa q k))).symm
 ·rw[CR (as:=b) q];cases e:a.drop i with
  |nil=>exact(decide_eq_false (Ep (Aa (List.drop_eq_nil_iff.mp e) k))).symm
  |cons=>exact(decide_eq_true (Az q (Nat.lt_of_not_le λ h=>by rw[CR h] at e;contradiction))).symm
theorem Ry (g:Bool)(l b:Ai)(o k:Array Ae)(n y:Nat){a c:List Nat}(u:FZ o.toList a)(v:FZ k.toList c)(r:Nat):
 ∀i:Nat,a.length-i<r->i<=a.length->i<=c.length->Meets (Jy.«list.__eq__.loop» ⟨[.ref l,.ref b,BS i,BS (P? g:Nat)],[]⟩)
  (λ A R s=>s.heap.get? l=Ab (I3 o n)/\s.heap.get? b=Ab (I3 k y)/\R (.ok (.ret (.bool (OP g (a.drop i) (c.drop i))))) s):=by
 have z1:o.size=a.length:=u.len;have z2:k.size=c.length:=v.len;have Wq:∀i,i<a.length->∃t,o[((i:Nat):Int).toNat]? =Ab (.int ((a.getD i 0:Nat):Int) t):=λ i H=>by
  obtain⟨t,e⟩:=u.get i H;exact⟨t,Ip.symm.trans e⟩
 have f:∀i,i<c.length->∃t,k[((i:Nat):Int).toNat]? =Ab (.int ((c.getD i 0:Nat):Int) t):=λ i H=>by
  obtain⟨t,e⟩:=v.get i H;exact⟨t,Ip.symm.trans e⟩
 have j:∀i,a.length<=i->o[((i:Nat):Int).toNat]? =Ah:=λ i H=>LW (Aa (AB z1) H);have m:∀i,c.length<=i->k[((i:Nat):Int).toNat]? =Ah:=λ i H=>LW (Aa (AB z2) H);induction r with
 |zero=>exact λ i hk=>absurd hk (Hq _)
 |succ r x=>
  intro i hk H V W w A R s h;obtain⟨D,G,d,I,os⟩:=s;obtain⟨O,Q,h⟩:=h;cases g with
  |true=>
   wp_walk using Bc O,Bc Q
   rcases Mt i a.length with C |N
   ·obtain⟨t1,Z⟩:=Wq i C;rcases Mt i c.length with z |E
    ·obtain⟨B,p⟩:=f i z;rw[LM C,LM z] at h;rw[Z,p];refine Ac (wpAny_eqBool_int ?_);by_cases q:a.getD i 0=c.getD i 0
     ·rw[Xy q] at h;rw[show(((a.getD i 0:Nat):Int)==((c.getD i 0:Nat):Int))=Ag by rw[q];exact beq_self_eq_true _]
      wp_walk
      exact⟨plainId_quiet GF _,Gz entry_eq_loop (by
       rw[IG GF _];exact x (i+1) (Ao (FK C (CK i)) (A7 hk)) C z W w A R _ ⟨O,Q,h⟩)⟩
     ·rw[show(((a.getD i 0:Nat):Int)==((c.getD i 0:Nat):Int))=Av from beq_eq_false_iff_ne.mpr λ e=>q (JD e)];rw[show OP Ag (_::_) (_::_)=_ from fE q] at h
      wp_walk using Bc O,Bc Q
      rw[Z,p];refine Ac (P.gt_int ?_)
      wp_walk
      exact h
    ·rw[show OP Ag _ _=_ from Pb H V (.inr E),<-z1,<-z2] at h;rw[Z,m i E]
     wp_walk using Bc O,Bc Q
     exact h
   ·rw[show OP Ag _ _=_ from Pb H V (.inl N),<-z1,<-z2] at h;rw[j i N]
    wp_walk using Bc O,Bc Q
    exact h
  |false=>
   wp_walk using Bc O,Bc Q
   rcases Mt i a.length with C |N
   ·obtain⟨t1,Z⟩:=Wq i C;rcases Mt i c.length with z |E
    ·obtain⟨B,p⟩:=f i z;rw[LM C,LM z] at h;rw[Z,p];refine Ac (wpAny_eqBool_int ?_);by_cases q:a.getD i 0=c.getD i 0
     ·rw[Xy q] at h;rw[show(((a.getD i 0:Nat):Int)==((c.getD i 0:Nat):Int))=Ag by rw[q];exact beq_self_eq_true _]
      wp_walk
      exact⟨plainId_quiet GF _,Gz entry_eq_loop (by
       rw[IG GF _];exact x (i+1) (Ao (FK C (CK i)) (A7 hk)) C z W w A R _ ⟨O,Q,h⟩)⟩
     ·rw[show(((a.getD i 0:Nat):Int)==((c.getD i 0:Nat):Int))=Av from beq_eq_false_iff_ne.mpr λ e=>q (JD e)];rw[show OP Av (_::_) (_::_)=_ from fE λ e=>q e.symm] at h
      wp_walk using Bc O,Bc Q
      rw[Z,p];refine Ac (P.lt_int ?_)
      wp_walk
      exact h
    ·rw[show OP Av _ _=_ from Pb V H (.inl E),<-z1,<-z2] at h;rw[Z,m i E]
     wp_walk using Bc O,Bc Q
     exact h
   ·rw[show OP Av _ _=_ from Pb V H (.inr N),<-z1,<-z2] at h;rw[j i N]
    wp_walk using Bc O,Bc Q
    exact h
theorem PK (g:Bool)(l b:Ai)(o k:Array Ae)(n H:Nat)(N:FZ o.toList a)(O:FZ k.toList c):
 Meets ((if g then Jy.«list.__gt__» else Jy.«list.__lt__») ⟨[.ref l,.ref b],[]⟩)
  (λ A R s=>s.heap.get? l=Ab (I3 o n)/\s.heap.get? b=Ab (I3 k H)/\R (.ok (.ret (.bool (OP g a c)))) s):=by
 intro z w A R s h;obtain⟨Q,V,d,W,os⟩:=s;obtain⟨C,E,h⟩:=h;have Z:=AutoSeq1.sub_list_list;cases g with
 |true=>
  simp only[if_true]
  wp_walk using Bc C,Bc E
  exact⟨plainId_quiet GF _,Gz entry_eq_loop (by
   rw[IG GF _];exact Ry Ag l b o k n H N O _ 0 (CK _) (AZ _) (AZ _) z w A R _ ⟨C,E,h⟩)⟩
 |false=>
  simp only[Bw,if_false]
  wp_walk using Bc C,Bc E
  exact⟨plainId_quiet GF _,Gz entry_eq_loop (by
   rw[IG GF _];exact Ry Av l b o k n H N O _ 0 (CK _) (AZ _) (AZ _) z w A R _ ⟨C,E,h⟩)⟩
theorem YA (g:Bool){c d:Array Ae}(k:s.heap.get? a=Ab (I3 c n))(o:s.heap.get? b=Ab (I3 d m))(z:FZ c.toList e)(C:FZ d.toList f)
 (H:A.units<Ja) (N:Q (.bool (OP g e f)) s):Aw (model i w) A (EQ (if g then .Gt else .Lt) (.ref a) (.ref b)) Q E s:=by
 have h:s.TypeIs (.ref a) "list":=⟨_,k,rfl⟩;have O:s.TypeIs (.ref b) "list":=⟨_,o,rfl⟩;cases g with
 |true=>exact wpAny_richCompare_same_or (op:=.Gt) h O F.slot_list_gt (Ig F.slot_list_gt h F.entry_list_gt (F.args_list_gt_2 _ _) (PK Ag a b c d n m z C) ⟨k,o,nofun,N⟩) (.inr H)
 |false=>exact wpAny_richCompare_same_or (op:=.Lt) h O F.slot_list_lt (Ig F.slot_list_lt h F.entry_list_lt (F.args_list_lt_2 _ _) (PK Av a b c d n m z C) ⟨k,o,nofun,N⟩) (.inr H)
theorem RpL.io {c:List Nat}:∀{k:List Ae},RpL W X h k (c.map λ n=>.int (n:Nat))->FZ k c:=by
 induction c with
 |nil=>intro k r;cases r;exact .nil
 |cons n c o=>
  intro k r;cases r with
  |cons a b=>
   obtain⟨t,rfl⟩:=a.aj;exact .cons n t (o b)
section
theorem Dc.iw (g:Bool)(h:Dc C V O l (Bh d))(o:Dc C V O r (Bh e))(z:K8 r=Ag):Dc C V O (.Compare l [if g then .Gt else .Lt] [r] p) (.bool (OP g d e)):=
 λ c=>.mk λ Q E s S=>wpAny_Compare1 ((h c).bl S λ v s S _ A=>(o c).bl S λ w s S k rw=>by
  obtain⟨a,f,n,rfl,H,i,z1,N⟩:=(A.ae k).aj;obtain⟨b,j,m,rfl,W,q,z2,Z⟩:=rw.aj;exact YA g H W N.io Z.io (Ao (Az (AS _ _) c.hA.units) (AO rfl)) (S.out (.bool _))) (IB z)
end
section
theorem MW.al (x:MW h f i l m j)(w:Jn h H):MW H f i l m j:=by
 obtain⟨s,k,z,A,C,g,c,t⟩:=x;refine⟨s,k,z,A,C,w _ _ g (by simp) (by simp) (λ _ q=>by contradiction),?_,t⟩;obtain⟨c,o,E,t,a,b,hc,d,e⟩:=c;exact⟨c,o,E,t,a,w _ _ b (by rw[hc];simp) (by rw[hc];simp) (λ N q=>by rw[d] at q;cases q),hc,d,e⟩
structure KH (W:BV)(h:AT)(X:List Ai)(K cc f:Ai)(body:Expr)(lsc:Bg)(ps:List As)(bk:List (As×Ai)):Prop where
 jk:XN h K cc f
 obj:MW h f body lsc ps bk
 ccX:cc∉X
 c0:W.h0.get? cc=Ah
theorem KH.bj {f K d:Ai}{b:List (As×Ai)}{e:List As}{c:Bg}{a:Expr}(x:KH W h X K d f a c e b)(St:Ls W (Ec V z) h H)(F:FI W V z Z X h O)(E:D3 z h):KH W H X K d f a c e b:=by
 have C:=St.al F E;obtain⟨⟨N,s,Q,k,st,g,i⟩,A,w,j⟩:=x;obtain⟨o,l,m⟩:=i;exact⟨⟨N,s,Q,k,st,g.al C,o,St.keep d o (λ q=>w (F.br q)) l,m⟩,A.al C,w,j⟩
theorem KH.cz {f K n:Ai}{l:CE}{j:List As}{d:Bg}{e:Ea}{m:A5}{c:Expr}(x:KH W h X K n f c d j (GX z d.names []))(A:E2 W C k mg mb)(L:Mx W mg V z O e c d l j m)(F:FI W V z Z X h O)(s:j.length=2)(o:W.h0.NoLimit){i:List As}{g:As->As->Int}
 (hN:∀a∈i,Ba a=Ag/\a.length<=B2) (w:∀a∈i,∀b∈i,Dc C d (j.zip [.aa (.str a),.aa (.str b)]++m) c (.int (g a b))):ET W (k+1) h K (Mo i g):=
 x.jk.cz x.c0 (SM A ((L.ok F x.obj).2 [] λ a q=>nomatch q) s o hN w)
theorem dR {y:Nat}{v u D G:CE}{l:List As}{e:Bg}{i:Ea}{t:A5}{c:Expr}(Gk:E2 W C k mg mb)(hA:CY (k+4) A)(B:XB W V z N)(S:XS W V z N Z X s O){m:Nat}{r:GK}(CT:UX W mg mb r y m)(a6:mg "cmp_to_key"=Ab (.ref m))(a7:∃o fd,W.h0.get? m=Ab o/\o.data=.func fd/\o.cls≠.type "frame"/\o.cls≠.none)(a0:W.h0.NoLimit)
 {j:CE} (L:Mx W mg V z O i c e j l t) (a8:l.length=2) {n:List As} {g:As->As->Int} {x:As}
 (hN:∀a∈n,Ba a=Ag/\a.length<=B2) (a9:∀a∈n,∀b∈n,Dc C e (l.zip [.aa (.str a),.aa (.str b)]++t) c (.int (g a b))) (hx:A3 V x=Ag) (g2:CX V "cmp_to_key"=Ag)
  {p:FG->Aq->Prop} (hQ:∀h' tk K cc f,XS W V z N Z X {s with heap:=h',toks:=tk} (Bu O x (.av (.ref K)))->D9 V z Z X s.heap h'->s.toks<=tk->KH W h' X K cc f c e l (GX z e.names [])->p .next {s with heap:=h',toks:=tk}):
 Aw W.M A (exec (.Assign [.Name x u] (.Call (.Name "cmp_to_key" D) [.Lambda i c e j] [] G) v) z) p E s:=by
 obtain⟨o,fd,ho,hd,b0,b1⟩:=a7;refine CA (t:=.Name x u) rfl rfl rfl (B4 (CH Gk S.F (S.gd B) g2 (.inl a6) ?_));refine Dm (es:=[.Lambda i c e j]) rfl ?_;refine Cj (o:=o) (fd:=fd) (Bf (AE (W8 Gk L S.F (S.gd B) λ a1 U f w M hf lo=>A6 ⟨⟨((S.gd B).ao.trans w).keep ho b0 b1,hd⟩,?_⟩)));have h:=S.ae w M;have cf:=SM Gk ((L.ok h.F lo).2 [] λ a q=>nomatch q) a8 a0 hN a9;refine CT.ke A {s with heap:=a1,toks:=U} k _ f _ (hA.ai (CP (AS k 3))) (h.gd B) cf _ _ λ vK R H Q T hK=>?_;obtain⟨K,cc,rfl,b2,km,a2,_⟩:=hK;have I:XS W V z N Z X {s with heap:=R,toks:=H} O:=h.ae (tk:=H) Q T;have kh:KH W R X K cc f c e l (GX z e.names []):=⟨km,lo.al Q.al,λ q=>DM a2 (h.F.an cc q) rfl,BB.bh (h.gd B).ao a2⟩;refine I.fg B (x:=x) (sl:=.av (.ref K)) hx rfl (λ d q=>nomatch q) λ a3 Y a4 J a5=>?_;exact hQ a3 Y K cc f a4 ((w.trans Q).ap.trans (J.ap λ a ha=>S.F.br ha)) (Aa M (Aa T a5)) (kh.bj J I.F I.fc)
theorem Wm {a:CE}{b:As}{K:Ai}{args:List (Bool×DJ Ae)}
 (w:args.any (·.1)=Av)
 (H:Aw W.M A (evalArgs (.ref K) Ag args []) (λ z h=>z.kw=[]/\w3 h.heap K b/\Aw W.M A (call (.ref K) z.pos) Q E h) E s):
 Aw W.M A (callWith a (.ref K) [] args []) Q E s:=by
 unfold callWith;refine Ac (Bt (DK H (λ z h k=>?_) λ _ _ x=>x));obtain⟨C,N,hc⟩:=k;obtain⟨o,O,g,c,d,_⟩:=N;obtain⟨V,Z,e,t,os⟩:=h;obtain⟨m,f,i,j⟩:=o;have d:i=.cls O:=d;subst c;subst d;have n:=tc_lookup;have p:(⟨V,Z,e,t,os⟩:Aq).TypeIs (.ref K) "type":=⟨_,g,rfl⟩;refine Ac (A0 ?_);unfold keeperOf specialOf
 repeat (any_goals (first |assumption |with_reducible refine GU g ?_ |with_reducible refine wpAny_load' g ?_ |wp_step))
 rw[if_pos (by rfl),w,C];exact Ac (DK hc (λ r q l=>Ac (Bt (wpAny_point (Ar l)))) λ _ _ x=>x)
end
section
theorem OD {g:CE}(B:XB W V z N)(S:XS W V z N Z X s O)(R:A.handled=Ah){c:E9->Option (Ae->DJ Unit)->DJ Ae}(Y:∀z,eval e z=c z Ah)(h2:∀z u,evalThenUse e z u=do let _ <-c z (Ab u))(hw:Dk [.Name x q] e g.line z=pure b)(T:A3 V x=Ag)
 {P:Ai->Ai->AT->PV->Prop}
 (run:∀(t:Option (Ae->DJ Unit))(f:Jc)(E:Jc),(∀D C H y m d,s.heap.get? D=Ah->s.heap.get? C=Ah->BB W s.heap H->s.toks<=y->H.Ns C m->Rp W (C::X) H (.ref D) d->P D C H d->JB W.M A E t f (.ref D) C (.ok .next) {s with heap:=H,toks:=y})->Aw W.M A (c z t) f E s)
 {f:FG->Aq->Prop} (U:∀D C H d w k,s.heap.get? C=Ah->BB W s.heap H->P D C H d->(∀b o,H.get? b=Ab o->b≠C->¬Ec V z b->w.get? b=Ab o)->XS W V z N Z X {s with heap:=w,toks:=k} (Bu O x (.aa d))->D9 V z Z X s.heap w->s.toks<=k->f .next {s with heap:=w,toks:=k}):
 Aw W.M A (exec (.Assign [.Name x q] e g) z) f E s:=by
 cases b with
 |false=>
  refine CA rfl hw rfl ?_;rw[Y];refine run Ah _ _ λ D C H y m d hD v Q l G r p=>⟨m,G,λ a0 I=>?_⟩;have n:=Q.az v (λ o vs ho hd=>by
   obtain⟨o',es,ep,J,L,_⟩:=G;obtain rfl:=A4 ho J;cases hd.symm.trans L) I
  refine GY R B (S.ae n l) (HC T) ((r.az I Ad).ai λ a M=>Af _ M) λ w k i St j=>?_;exact U D C H d w k v Q p (λ b o e N hw=>St.keep b o hw ((I.2 b N).trans e)) i (n.ap.trans (St.ap λ a M=>S.F.br M)) (Aa l j)
 |true=>
  rw[arm_exec_Assign];refine Ac (A0 (Ac (EI hw (KD (PW (Ac ?_))))));rw[h2];exact Ac (DK (run _ (λ _ s'=>f .next s') E λ D C H y m d hD v Q l G r p=>Q8 B S R (HC T) (λ w k kp i kd j=>U D C H d w k v Q p kp i kd j) v Q l G r) (λ _ _ h=>Ar (Ar h)) λ _ _ x=>x)
theorem rO (F:FI a V z Z X h O)(C:D3 z h)(e:h.get? b=Ab o)(E:o.cls≠.type "frame")(H:∀s,o.data≠.cell s):¬Ec V z b:=λ q=>by
 rcases q with rfl |⟨x,N,w⟩
 ·obtain⟨Q,d,f,k,hc,_⟩:=C;obtain rfl:=A4 e k;exact E hc
 ·obtain⟨c,s,W,⟨Q,k,A⟩,_⟩:=F.cell x (.inl N);obtain rfl:=A4 w W;obtain rfl:=A4 e k;exact H s A
theorem Xb (S:XS W V z N Z X s O){a:AT}(C:s.heap.get? d=Ah)(h:BB W s.heap H)(E:∀b o,H.get? b=Ab o->b≠d->¬Ec V z b->a.get? b=Ab o):
 Jn s.heap a/\∀c k,s.heap.IsCell c k->c∉X->a.IsCell c k:=by
 refine⟨λ b o e Q g j=>E b o (h.keep e Q g) (λ q=>by subst q;exact Do C e) (rO S.F S.fc e Q j),λ c k i hc=>?_⟩;obtain⟨f,w,A⟩:=G4 h i;obtain⟨o,l,_⟩:=i;exact⟨f,E c f w (λ q=>by subst q;exact Do C l) (λ q=>hc (S.F.br q)),A⟩
theorem KH.keep {f K:Ai}{b:List (As×Ai)}{g:List As}{d:Bg}{e:Ai}{a:Expr}(x:KH W h X K e f a d g b)(w:Jn h H/\∀c A,h.IsCell c A->c∉X->H.IsCell c A):KH W H X K e f a d g b:=by
 obtain⟨⟨C,o,E,k,st,N,i⟩,z,s,O⟩:=x;exact⟨⟨C,o,E,k,st,N.al w.1,w.2 _ _ i s⟩,z.al w.1,s,O⟩
variable {a:Ai}{i n:Nat}{r:List Bs}{t:Expr} in
class inductive Lx (X:List Ai) (h:AT) (K:Ai):List As->List Ai->Prop
 |nil:Lx X h K [] []
 |cons {n:As} {t:Tok} {i:Ai} {ns:List As} {is:List Ai} (a:i∉X) (e:ED h i K (.str n t)) (r:Lx X h K ns is):Lx X h K (n::ns) (i::is)
theorem Lx.bi {Y:List Ai}{K:Ai}{c:List As}{d:List Ai}(x:Lx X h K c d)(hk:∀b o,h.get? b=Ab o->b∉X->(o.cls≠.type "frame"/\o.cls≠.none)->H.get? b=Ab o/\b∉Y):Lx Y H K c d:=by
 induction x with
 |nil=>exact .nil
 |cons a e r k=>
  obtain⟨s,e⟩:=e;have:=hk _ _ e a ⟨by simp,by simp⟩;exact .cons this.2 ⟨s,this.1⟩ k
theorem Lx.len {K:Ai}{a:List As}{b:List Ai}(x:Lx X h K a b):a.length=b.length:=by
 induction x with
 |nil=>rfl
 |cons _ _ _ k=>exact congrArg BZ k
theorem Lx.ek {K:Ai}{b:List As}{c:List Ai}{n:As}{t:Tok}{i:Ai}(x:Lx X h K b c)(a:i∉X)(e:ED h i K (.str n t)):Lx X h K (b++[n]) (c++[i]):=by
 induction x with
 |nil=>exact .cons a e .nil
 |cons k o r s=>exact .cons k o s
def Jo (h:List As)(k:List Ai):List (As×PV):=Jw (λ n i=>(n,PV.obj (.ref i))) h k
def uA (K:Ai)(s:BV)(D:Ai)(X:List Ai)(h:AT)(k:List As):Prop:=∃o,Lx X h K k o/\WA s D X h (Jo k o)
theorem zY {K:Ai}(D:Ai):ZK D (uA K W D) where
 bi:=λ x hk k=>by obtain⟨h,r,a⟩:=x;exact⟨h,r.bi hk,(tQ D).bi a hk k⟩
 obj:=λ x=>by obtain⟨h,r,a⟩:=x;exact(tQ D).obj a
end
section
theorem Q7 {a:List As}{b:List Ai}(h:a.length=b.length)(n:As)(i:Ai):Jo (a++[n]) (b++[i])=Jo a b++[(n,PV.obj (.ref i))]:=by
 unfold Jo;rw[List.zipWith_append h];rfl
theorem Tr {a:List As}{b:List Ai}(h:a.length=b.length):(Jo a b).length=a.length:=by
 unfold Jo;rw[List.length_zipWith,h,Nat.min_self]
theorem s8 {n:Nat}{l p g j:CE}{f:As}{K:Ai}{L:KR C V As}(M:L.Acc=uA K L.W L.D){d:Ae->Ae->Option Int}(R:ET L.W n L.hb K d)(W:CY (n+2) L.A)(h:L.W.h0.NoLimit){x a:As}(S:O.lookup x=Ab (.aa (.str a)))(hk:O.lookup f=Ab (.av (.ref K))):
 L.Em (Ln (.Name x l) (.Call (.Name f p) [.Name x g] [] j)) O a:=λ s0 i T s c hz Q E k=>by
 refine Ac (c.F.name S λ v rk=>Ac (Bt (B4 (c.F.av hk ?_))));rw[Bk j L.ah [.Name x g] rfl];obtain⟨m,md,ka⟩:=(R.ae c.le).ty;refine Wm rfl (Bf (AE (c.F.name S λ v2 Z=>A6 ⟨rfl,ka.cls,?_⟩)));obtain⟨t,rfl,_⟩:=rk.aj;obtain⟨t2,rfl,_⟩:=Z.aj;refine(R.ae c.le).iq W c.gd h _ _ _ λ r w u z A B=>?_;obtain⟨y,rfl,hy,ki⟩:=B;have U:=c.dq z A;have Y:=U.ck;simp only[M] at Y;refine Jt λ gg kk=>?_;obtain⟨D,N,G,hD,hq,B⟩:=Y;refine kk ?_;have a1:G.length=(Zn (Jo T D)).length:=by simpa using congrArg BR hq
 have I:=MO (Jo T D);simp only[Tr N.len] at I;have hb:=FW;refine Ac (A0 (Bt (wpAny_dictSet_pairs (knd:=L.W.K) (k:=a) (by exact beq_self_eq_true _) hD (λ a0 hm J=>k _ (U.own J (by obtain⟨o,_,_,ho,_⟩:=hm;exact⟨o,ho⟩) (Bq _) ?_)) (by omega))));have H:=LC (k:=a) hq B (Rp.obj (W:=L.W) (X:=L.I::L.X) (h:=w) (.ref y));rw[M];have DX:=Af L.I (L.ZX _ L.DZ);refine⟨D++[y],(N.ek (λ q=>DM hy (c.F.an y q) rfl) ki).bi λ b o e n _=>⟨(J.2 b λ q=>n (q▸DX)).trans e,n⟩,_,hm,?_,?_⟩
 ·rw[Q7 N.len,Kl];exact H.1
 ·rw[Q7 N.len,Kl];exact H.2.az J DX
theorem gS:∀(l k:List (As×PV)),((k++l).map (·.1)).Nodup->l.foldl (λ k p=>Fb k p.1 p.2) k=k++l:=by
 intro l;induction l with
 |nil=>intro k _;rw[EH];rfl
 |cons p r o=>
  intro k h;have e:Fb k p.1 p.2=k++[p]:=by
   unfold Fb;rw[if_neg];intro q;obtain⟨e,s,w⟩:=B9.mp q;rw[Dy,HX] at h;exact h.2.2 e.1 (DT s) p.1 (DT Ad) (of_decide_eq_true w)
  show r.foldl _ (Fb k p.1 p.2)=_;rw[e,o (k++[p]) (by rw[BY];exact h),BY];rfl
theorem XT {a:List As}{b:List Ai}(h:a.length=b.length):(Jo a b).map (·.1)=a:=by
 unfold Jo;induction a generalizing b with
 |nil=>rfl
 |cons n a k=>
  cases b with
  |nil=>cases h
  |cons i b=>exact congrArg (n::·) (k (Hp h))
theorem YI {n:Nat}{J T U Y p5 p6 p7 u:CE}{i y:As}{f:Bg}{K:Ai}(Gk:E2 W C (n+2) mg mb)(hA:CY (n+2) A)(B:XB W V z N)(S:XS W V z N Z X s O){v:Ae->Ae->Option Int}(KL:ET W n s.heap K v)(a1:W.h0.NoLimit){x t:As}{g:List As}(hn:g.Nodup)(hz:g.length<=B2)
 (hf:O.lookup t=Ab (.aa (.list (g.map .str)))) (hk:(Br f O).lookup i=Ab (.av (.ref K))) (a5:i≠y) (hy:(Br f O).lookup y=Ah) (a6:A3 f y=Ag) (hx:A3 V x=Ag) (a7:Ei V f=Ag) {I:CE} {b:Bool}
 (hw:Dk [.Name x I] (.DictComp (.Name y J) (.Call (.Name i T) [.Name y U] [] Y) [⟨.Name y p5,.Name t p6,[],0⟩] f p7) u.line z=pure b)
 {j:FG->Aq->Prop} (hQ:∀Q k w,Q.length=g.length->Lx X k K g Q->(Jn s.heap k/\∀c ov,s.heap.IsCell c ov->c∉X->k.IsCell c ov)->XS W V z N Z X {s with heap:=k,toks:=w} (Bu O x (.aa (.dict (Jo g Q))))->D9 V z Z X s.heap k->s.toks<=w->j .next {s with heap:=k,toks:=w}):
 Aw W.M A (exec (.Assign [.Name x I] (.DictComp (.Name y J) (.Call (.Name i T) [.Name y U] [] Y) [⟨.Name y p5,.Name t p6,[],0⟩] f p7) u) z) j E s:=by
 have G:=S.gd B;refine OD B S hA.handled (λ _=>rfl) (λ _ _=>rfl) hw hx
  (P:=λ D a4 h' d=>∃Q,Lx (a4::X) h' K g Q/\d=.dict (Jo g Q)) (λ b2 j E hQ=>?_) λ D a4 h' d k w hV a0 p kp a2 kd a3=>?_
 ·refine Lo ⟨W,A,z,Z,X,_,mg,mb,Gk,hA⟩ (Km (.Name y J) (.Call (.Name i T) [.Name y U] [] Y) _ f p7) rfl (Acc:=uA K) (λ W D=>zY D) rfl (λ M A s j E hq=>B3 hq)
   (λ W D X h e=>⟨[],.nil,[],⟨_,#[],0,e,⟨rfl,rfl,rfl⟩,rfl,λ _ he=>by simp at he,Pairs.nil,List.nodup_nil⟩,rfl,.nil⟩) a7 (rs:=g) (.list (.aa hf) rfl) (λ L hL a8 lk s' R c hR=>?_) S.F G λ D a4 h' tk m hD hV a9 b0 a0 l b1 ac=>?_
  ·refine L.dz (Km ..) rfl rfl (T:=λ _ ok=>ok=Ag) (P:=λ H a=>H.lookup y=Ab (.aa (.str a))/\H.lookup i=Ab (.av (.ref K))) (λ H ok q s F G _=>by subst q;exact λ j E hq=>Ar (hq _ _ _ (.refl _) (An _) rfl))
    (λ H d q=>s8 hL (lk (λ W A h=>ET W n h K v) KL) (lk (λ W A h=>CY (n+2) A) hA) (lk (λ W A h=>W.h0.NoLimit) a1) q.1 q.2) (a8▸?_) c (Aa (AB (Ct _)) hz) hR
   have:=qD.of (l:=g) (t:=.Name y p5) (T:=λ _ ok=>ok=Ag) (P:=λ H a=>H.lookup y=Ab (.aa (.str a))/\H.lookup i=Ab (.av (.ref K))) (by show((Br f O).lookup y).isNone&&Ag=Ag;rw[hy];rfl)
    λ a ha=>⟨(y,.aa (.str a))::Br f O,if_pos a6,rfl,λ _=>⟨AF,(AK a5).trans hk⟩⟩
   rwa[Jm.mpr λ _ _=>rfl,List.map_id'] at this
  ·obtain⟨Q,ir,b3,e,q,r⟩:=ac;have ed:Zn (Jo g Q)=Jo g Q:=gS (Jo g Q) [] (by simp only[D1,XT ir.len];exact hn);rw[ed] at q r;exact hQ D a4 h' tk m (.dict (Jo g Q)) hD hV a0 l b1 (.dict e (λ q=>(Ak.mp q).elim a9 b0) (SD Gk G hD) (Aa (AB (by have:=congrArg BR q;simpa[Tr ir.len] using this)) hz) q r) ⟨Q,ir,rfl⟩
 ·obtain⟨Q,ir,rfl⟩:=p;refine hQ Q k w ir.len.symm (ir.bi λ b o e nb hs=>⟨kp b o e (λ q=>nb (q▸Ad)) (λ q=>nb (Af _ (S.F.br q))),λ q=>nb (Af _ q)⟩) (Xb S hV a0 kp) a2 kd a3
end
section
variable {β:Type}
theorem KR.gz {L:KR C V β}(o:∀s,FI L.W V L.ah (L.I::L.Z) (L.I::L.X) s.heap O->Gd L.W s->BB L.W L.hb s.heap->Dq L.W L.A (isTrue e L.ah (eval e L.ah)) s λ h _=>h=b):L.fy [e] O b:=λ s F G H Q E w=>by
 rw[EG];refine Ac (Ac (o s F G H _ _ λ h z A k l e=>Ar (Ar (w _ _ _ k l e))))
theorem mX {n:Nat}{l p q t u B D:CE}{d:List (As×PV)}{c y:As}{K:Ai}{L:KR C V β}{e:Ae->Ae->Option Int}(Y:ET L.W n L.hb K e)(R:CY (n+2) L.A)(W:L.W.h0.NoLimit){x a b:As}{i j:Ai}{f g:Tok}{m:Int}
 (hk:O.lookup c=Ab (.aa (.dict d))) (hx:O.lookup x=Ab (.aa (.str a))) (hy:O.lookup y=Ab (.aa (.str b))) (sa:EW (.dict d) (.str a)=Ab (.obj (.ref i))) (sb:EW (.dict d) (.str b)=Ab (.obj (.ref j)))
 (ia:ED L.hb i K (.str a f)) (ib:ED L.hb j K (.str b g)) (hm:e (.str a f) (.str b g)=Ab m):
 L.fy [.Compare (.Subscript (.Name c l) (.Name x p) q) [.Gt] [.Subscript (.Name c t) (.Name y u) B] D] O (decide (m>0)):=KR.gz λ s F G H Q E hQ=>by
 have e1:Dc C V O (.Subscript (.Name c l) (.Name x p) q) (.obj (.ref i)):=.sub (b:=.dict d) (.aa hk) (.aa hx) (λ _ _=>rfl) sa;have e2:Dc C V O (.Subscript (.Name c t) (.Name y u) B) (.obj (.ref j)):=.sub (b:=.dict d) (.aa hk) (.aa hy) (λ _ _=>rfl) sb;refine DB (e1 (L.pt O) s F G _ _ λ v Z A h k rv=>e2 (L.pt O) {s with heap:=Z,toks:=A} (F.ae h) (G.step h k) _ _ λ w U S o z rw=>?_) (IB rfl);have e3:v=.ref i:=rv.aj;have e4:w=.ref j:=rw.aj;subst e3;subst e4;have T:=(H.trans h).trans o;exact(Y.ae T).gt R ((G.step h k).step o z) W (ia.al T.al) (ib.al T.al) rfl rfl hm _ _ λ r I N J M er=>by
  subst er;exact CB (hQ _ I N ((h.trans o).trans J) (Aa k (Aa z M)) rfl)
theorem Ou (c:Pt C V O){v:Type}{l:List v}{g:v->PV}{q:v->Bool}{f:v->PV}{T:A5->Bool->Prop}(N:OG C V O y (l.map g))(S:Ei V b=Ag)(U:(FS t).all (λ x=>((Br b O).lookup x).isNone)=Ag)(F:FI c.W V c.ah c.Z c.X s.heap O)(G:Gd c.W s)
 (Y:∀L:KR C b PV,(∀F:BV->Dj->AT->Prop,F c.W c.A s.heap->F L.W L.A L.hb)->∀h J,T h J->L.fy i h J)
 (z:∀a∈l,∃h,Hl b t (g a) (Br b O)=Ab h/\T h (q a)/\(q a=Ag->Dc C b h j (f a))) (hz:l.length<=B2) {u:Option (Ae->DJ Unit)}
 (hQ:∀D k o H m,s.heap.get? D=Ah->s.heap.get? k=Ah->BB c.W s.heap o->s.toks<=H->o.Ns k m->Rp c.W (k::c.X) o (.ref D) (.list ((l.filter q).map f))->JB c.W.M c.A E u Q (.ref D) k (.ok .next) {s with heap:=o,toks:=H}):
 Aw c.W.M c.A (Ml (.ListComp j [⟨t,y,i,0⟩] b p) b c.ah (pV [⟨t,y,i,0⟩] p) (newList []) Av (eval y c.ah) u) Q E s:=by
 have w:=Al f▸Aa (AX q l) hz;refine Lo c (GV j _ b p) rfl (Acc:=ZJ) (λ W D=>wU D) rfl (λ M A s Q E hq=>B3 hq) (λ W D X z e=>⟨#[],0,e,.nil⟩) (rs:=(l.filter q).map f) S N (λ L hL hx lk s' R c' hR=>?_) F G λ D k o H m hD hV Z B I l hn ac=>?_
 ·exact L.dz (GV ..) rfl rfl (Y L lk) (λ h d z=>iY.list z L hL) (hx▸.of U z) c' (Aa (AB (Ct _)) w) hR
 ·obtain⟨vs,n,e,r⟩:=ac;exact hQ D k o H m hD hV I l hn (.list e (λ q=>(Ak.mp q).elim Z B) (Aa (AB r.length) w) r)
theorem Lx.find {K:Ai}{b:List As}{c:List Ai}(x:Lx X h K b c){a:As}(k:a∈b):∃i t,EW (.dict (Jo b c)) (.str a)=Ab (.obj (.ref i))/\ED h i K (.str a t):=by
 show ∃i t,((Jo b c).find? λ e=>decide (e.1=a)).map (·.2)=Ab (.obj (.ref i))/\_
 induction x with
 |nil=>cases k
 |@cons n t i b c z e r o=>
  by_cases q:n=a
  ·subst q;exact⟨i,t,by show(List.find? _ ((n,PV.obj (.ref i))::Jo b c)).map _=_;rw[F7 (by simp)];rfl,e⟩
  ·obtain⟨j,u,s,w⟩:=o ((Ak.mp k).resolve_left λ e=>q e.symm);exact⟨j,u,by show(List.find? _ ((n,PV.obj (.ref i))::Jo b c)).map _=_;rw[ES (by simpa using q)];exact s,w⟩
theorem VP {n:Nat}{p1 p2 p3 p4 p5 p6 p7 a3:CE}{I y:As}{f t:Bg}{K:Ai}(Gk:E2 W C (n+2) mg mb)(hA:CY (n+2) A)(B:XB W V z N)(S:XS W V z N Z X s O){u:List As}{is:List Ai}{g:As->As->Int}(KL:ET W n s.heap K (Mo u g))(ir:Lx X s.heap K u is)(a6:W.h0.NoLimit){lx x G:As}(hz:u.length<=B2)
 (hf:O.lookup G=Ab (.aa (.list (u.map .str)))) (b6:(Br f O).lookup G=Ab (.aa (.list (u.map .str)))) (b7:(Br f O).lookup x=Ah) (b8:G≠x) (s1:A3 f x=Ag) (s2:A3 t y=Ag) (a7:Ei V f=Ag) (a8:Ei f t=Ag)
 (b9:∀a,(Br t ((x,.aa (.str a))::Br f O)).lookup I=Ab (.aa (.dict (Jo u is)))) (c0:∀a,(Br t ((x,.aa (.str a))::Br f O)).lookup x=Ab (.aa (.str a))) (c1:∀a,(Br t ((x,.aa (.str a))::Br f O)).lookup y=Ah) (c2:I≠y) (c3:x≠y) (hx:A3 V lx=Ag)
 {p8 p9 J M R T U Y a0 a1 q0:CE} {b:Bool}
 (hw:Dk [.Name lx q0] (.ListComp (.Name x p1) [⟨.Name x p2,.Name G p3,[.Compare (.ListComp (.Name y p4) [⟨.Name y p5,.Name G p6,[.Compare (.Subscript (.Name I p7) (.Name x p8) p9) [.Gt] [.Subscript (.Name I J) (.Name y M) R] T],0⟩] t U) [.Eq] [.List [] Y] a0],0⟩] f a1) a3.line z=pure b)
 {a2:FG->Aq->Prop} (hQ:∀k o,(Jn s.heap k/\∀c ov,s.heap.IsCell c ov->c∉X->k.IsCell c ov)->XS W V z N Z X {s with heap:=k,toks:=o} (Bu O lx (.aa (.list ((u.filter λ a=>(u.filter λ b=>decide (g a b>0)).isEmpty).map .str))))->D9 V z Z X s.heap k->s.toks<=o->a2 .next {s with heap:=k,toks:=o}):
 Aw W.M A (exec (.Assign [.Name lx q0] (.ListComp (.Name x p1) [⟨.Name x p2,.Name G p3,[.Compare (.ListComp (.Name y p4) [⟨.Name y p5,.Name G p6,[.Compare (.Subscript (.Name I p7) (.Name x p8) p9) [.Gt] [.Subscript (.Name I J) (.Name y M) R] T],0⟩] t U) [.Eq] [.List [] Y] a0],0⟩] f a1) a3) z) a2 E s:=by
 refine OD B S hA.handled (λ _=>rfl) (λ _ _=>rfl) hw hx
  (P:=λ D b5 h' d=>d=.list ((u.filter λ a=>(u.filter λ b=>decide (g a b>0)).isEmpty).map .str)) (λ c7 a2 E hQ=>?_) λ D b5 h' d k o hV H p kp a9 kd b0=>by subst p;exact hQ k o (Xb S hV H kp) a9 kd b0
 refine Ou ⟨W,A,z,Z,X,_,mg,mb,Gk,hA⟩ (t:=.Name x p2)
  (T:=λ a4 ok=>∃a∈u,a4=(x,.aa (.str a))::Br f O/\ok=(u.filter λ b=>decide (g a b>0)).isEmpty) (.list (.aa hf) rfl) a7 (by show((Br f O).lookup x).isNone&&Ag=Ag;rw[b7];rfl) S.F (S.gd B) (λ L lk a4 ok hT=>?_)
  (λ a ha=>⟨(x,.aa (.str a))::Br f O,if_pos s1,⟨a,ha,rfl,rfl⟩,λ _=>.aa AF⟩) hz λ D b5 h' tk m hD hV H l hn r=>hQ D b5 h' tk m _ hD hV H l hn r rfl
 obtain⟨a,ha,rfl,rfl⟩:=hT;refine KR.gz λ b1 F1 G1 H1 Q1 E1 c4=>?_;have b2:=lk (λ W A h=>CY (n+2) A) hA;have b3:=lk (λ W A h=>W.h0.NoLimit) a6;have b4:∀{i:Ai}{v:Ae},ED s.heap i K v->ED b1.heap i K v:=λ{i v} q=>(lk (λ W A h=>ED h i K v) q).al H1.al;refine DB ?_ (IB rfl);refine Ou (L.pt ((x,.aa (.str a))::Br f O)) (t:=.Name y p5)
  (T:=λ a4 ok=>∃b∈u,a4=(y,.aa (.str b))::Br t ((x,.aa (.str a))::Br f O)/\ok=decide (g a b>0)) (.list (.aa ((AK b8).trans b6)) rfl) a8 (by show((Br t _).lookup y).isNone&&Ag=Ag;rw[c1 a];rfl) F1 G1 (λ L2 Q c8 c9 c5=>?_)
  (λ b N=>⟨(y,.aa (.str b))::Br t ((x,.aa (.str a))::Br f O),if_pos s2,⟨b,N,rfl,rfl⟩,λ _=>.aa AF⟩) hz λ D b5 h' tk m hD hV H l hn r=>Rm hV H l hn r λ v h1 c6 k1 l1 rv=>?_
 ·obtain⟨b,N,rfl,rfl⟩:=c5;obtain⟨i,ta,sa,ia⟩:=ir.find ha;obtain⟨j,tb,sb,ib⟩:=ir.find N;exact mX (Q (λ W A h=>ET W n h K (Mo u g)) ((lk (λ W A h=>ET W n h K (Mo u g)) KL).ae H1)) (Q (λ W A h=>CY (n+2) A) b2) (Q (λ W A h=>W.h0.NoLimit) b3) ((AK c2).trans (b9 a)) ((AK c3).trans (c0 a)) AF sa sb
   (Q (λ W A h=>ED h i K (.str a ta)) (b4 ia)) (Q (λ W A h=>ED h j K (.str b tb)) (b4 ib)) (if_pos ⟨ha,N⟩)
 ·have G2:=G1.step k1 l1;refine Dc.list .nil (AZ _) (L.pt _) {b1 with heap:=h1,toks:=c6} (F1.ae k1) G2 _ _ λ w h2 d0 k2 l2 rw=>?_;refine Dq.of (P:=λ v' _=>v'=.bool (u.filter λ b=>decide (g a b>0)).isEmpty) (λ a2 E hQ=>HA (op:=.Eq) (Az (AS _ _) b2.units) (rv.ae k2) (.inl rw) (Wb _) λ a5=>hQ _ _ a5 (.refl _) rfl) _ _ λ v' h3 a5 k3 l3 e=>?_;subst e;exact CB (c4 _ h3 a5 ((k1.trans k2).trans k3) (Aa l1 (Aa l2 l3)) rfl)
end
section
theorem aS {n:Nat}{q e r t f:CE}{d y:As}{K:Ai}{c:Nat}(o:E2 W C c mg mb)(w:CY (n+3) A)(F:FI W V z Z X s.heap O)(G:Gd W s){a:List As}{g:As->As->Int}(H:ET W n s.heap K (Mo a g))(h:W.h0.NoLimit)(N:O.lookup y=Ab (.aa (.list (a.map .str))))(hk:O.lookup d=Ab (.av (.ref K)))(u:a.length<7)
 {b:Nat->Nat->Bool} (x:KN a.length b) (k:∀i j,i<a.length->j<a.length->b i j=decide (g (a.getD i Cb) (a.getD j Cb)<0)) (g1:CX V "sorted"=Ag):
 Dq W A (eval (.Call (.Name "sorted" q) [.Name y e] [⟨Ab "key",.Name d r,t⟩] f) z) s λ v B=>∃p,H7 a.length b p/\Rp W X B v (.list ((p.map λ i=>a.getD i Cb).map .str)):=λ Q E D=>by
 refine wpAny_Call_Name_kw (CH o F G g1 (.inr (o.blt .sorted)) ?_);refine callWith_kw ?_;rw[Bk f z [.Name y e] rfl];refine AE (F.name N λ v I=>A6 ?_);obtain⟨l,M,m,rfl,J,R,S,L⟩:=(I).aj;refine kws_cons (F.av hk (kws_nil ?_));exact Nb w F.an G H h J L u x k D
theorem aT (c:Pt C V O)(F:FI c.W V c.ah c.Z c.X s.heap O)(G:Gd c.W s){v:Expr}{lo a st:Option Expr}{d p:CE}{l u t:Option Int}{R:PV->Prop}{f:PV->PV}(N:Dq c.W c.A (eval v c.ah) s λ v h=>∃b,R b/\Rp c.W c.X h v b)(W:ZC C V O lo l)(Z:ZC C V O a u)(e:ZC C V O st t)
 (h:∀b,R b->DV b l u t=Ab (f b)):Dq c.W c.A (eval (.Subscript v (.Slice lo a st d) p) c.ah) s λ v h=>∃b,R b/\Rp c.W c.X h v (f b):=λ Q E g=>by
 refine Subscript_ (N _ _ λ o Y tk i j w=>?_);obtain⟨b,A,w⟩:=w
 let m:c.St [] [] (λ v h=>∃b,R b/\Rp c.W c.X h v (f b)) Q s:=⟨F,G,.nil,g⟩
 have S:=m.aq i j;exact wpAny_Slice ((W c).bl S λ n s S q x=>(Z c).bl S λ y s S B D=>(e c).bl S λ I s S J L=>
  let H:BB c.W s.heap (s.heap.push {cls:=.type "slice",data:=.fields #[n,y,I]}):=.push _ _
  let T:=S.aq H (An s.toks)
  Nc (.inl (w.ae (((q.trans B).trans J).trans H))) T.alive ⟨_,AD _ rfl,rfl,rfl⟩ x D L (h b A) v _ (N1 lo a st d _ _).choose_spec _ _ λ r z k M l6 U=>T.q r z k M l6 ⟨b,A,U⟩)
end
section
theorem YT {n:Nat}{R T U Y q8:CE}{J y:As}{K:Ai}{f:Nat}(Gk:E2 W C f mg mb)(hA:CY (n+3) A)(H:CY f A)(B:XB W V z N)(S:XS W V z N Z X s O){a c:List As}{g:As->As->Int}(KL:ET W n s.heap K (Mo a g))(Q:W.h0.NoLimit){l:As}(hy:O.lookup y=Ab (.aa (.list (a.map .str))))(hk:O.lookup J=Ab (.av (.ref K)))(hn:a.length<7)
 {d:Nat->Nat->Bool} (ok:KN a.length d) (a0:∀i j,i<a.length->j<a.length->d i j=decide (g (a.getD i Cb) (a.getD j Cb)<0)) (g1:CX V "sorted"=Ag) (g2:(CX V "len"&&(O.lookup ("len":As)).isNone)=Ag)
 (hl:O.lookup l=Ab (.aa (Bj c))) (a4:c.length<=B2) (a1:∀p,H7 a.length d p->(p.map λ i=>a.getD i Cb).take c.length=c) {L m q t u x D G:CE} {M:List Bs}
 {I:FG->Aq->Prop} (hQ:∀h' tk,BB W s.heap h'->XS W V z N Z X {s with heap:=h',toks:=tk} O->s.toks<=tk->I .next {s with heap:=h',toks:=tk}):
 Aw W.M A (exec (.If (.Compare (.Subscript (.Call (.Name "sorted" R) [.Name y T] [⟨Ab "key",.Name J U,Y⟩] q8) (.Slice Ah (Ab (.Call (.Name "len" L) [.Name l m] [] q)) Ah t) u) [.NotEq] [.Name l x] D) M [] G) z) I E s:=by
 refine KT (DB (aT ⟨W,A,z,Z,X,f,mg,mb,Gk,H⟩ (R:=λ b=>∃p,H7 a.length d p/\b=.list ((p.map λ i=>a.getD i Cb).map .str)) (f:=λ _=>Bj c) (l:=Ah) (u:=Ab (c.length:Int)) (t:=Ah) S.F (S.gd B)
  ((aS Gk hA S.F (S.gd B) KL Q hy hk hn ok a0 g1).ae λ v h' _ r=>by obtain⟨p,gp,r⟩:=r;exact⟨_,⟨p,gp,rfl⟩,r⟩) .no (.int (.blt (b:=.len) (ds:=[Bj c]) g2 rfl (.cons (.aa hl) .nil rfl) (by show Ab (PV.int ((c.map PV.str).length:Nat))=_;rw[Al]))) .no (λ b N=>?_) _ _ λ v a3 a2 h k rv=>?_) (IB rfl))
 ·obtain⟨p,gp,rfl⟩:=N;refine(N2 _ c.length ?_).trans ?_
  ·rw[Al,Al,gp.1.length_eq,CM];exact Aa (A7 hn) (by decide+kernel)
  ·skip
   rw[<-Hm,a1 p gp];rfl
 ·obtain⟨_,_,rv⟩:=rv;refine FI.name (S.F.ae h) hl λ w rw=>?_;refine Dq.of (P:=λ v' _=>v'=.bool Av) (λ I E hQ=>HA (op:=.NotEq) (Az (AS _ _) H.units) rv (.inl rw) (show(NU (Bj c) (Bj c)).map (!·)=Ab Av by rw[NC];rfl) λ o=>hQ _ _ o (.refl _) rfl) _ _ λ v' h3 o k3 l3 e=>?_
  subst e;refine CB (BN ?_);exact hQ h3 o (h.trans k3) (S.ae (h.trans k3) (Aa k l3)) (Aa k l3)
end
theorem K9 (h:a<6)(k:b<6)(o:nm a=nm b):a=b:=by
 exact(by decide+kernel:∀a<6,∀b<6,nm a=nm b->a=b) a h b k o
variable {r:List Bs} in
def I8 (h:Nat)(k:List Nat):List (As×PV):=match k with
 |[]=>[]
 |x::r=>(nm x,.int ((h+1:Nat):Int))::I8 (h+1) r
theorem Ui (h:List Nat)(n:Nat):∀k,I8 k (h++[n])=I8 k h++[(nm n,.int ((k+h.length+1:Nat):Int))]:=by
 induction h with
 |nil=>intro k;rfl
 |cons x r o=>
  intro k;show(nm x,PV.int ((k+1:Nat):Int))::I8 (k+1) (r++[n])=_;simp only[o (k+1),Ee,show k+1+r.length+1=k+(r.length+1)+1 by exact Eq.symm (Ch k (BR r+1) 1)];rfl
theorem Uj {a:List Nat}(h:∀x∈a,x<6)(o:n<6):∀k,(I8 k a).any (λ e=>decide (e.1=nm n))=a.contains n:=by
 induction a with
 |nil=>intro k;rfl
 |cons x r s=>
  intro k;show(decide (nm x=nm n)||(I8 (k+1) r).any λ e=>decide (e.1=nm n))=_;rw[s (λ y w=>h y (Af _ w)),Hr];congr 1;by_cases q:n=x
  ·subst q;simp
  ·rw[decide_eq_false λ e=>q (K9 o (h x Ad) e.symm)];exact(beq_eq_false_iff_ne.mpr q).symm
theorem RC {o:List Nat}(h:∀x∈o,x<6)(s:n<6)(w:n∈o):∀k,((I8 k o).find? λ e=>decide (e.1=nm n)).map (·.2)=Ab (.int ((k+o.idxOf n+1:Nat):Int)):=by
 induction o with
 |nil=>contradiction
 |cons x r z=>
  intro k;by_cases q:x=n
  ·subst q;rw[F7 (by exact if_pos rfl),List.idxOf_cons_self];rfl
  ·rw[ES (by simpa using λ e=>q (K9 (h x Ad) s e))];rw[z (λ y A=>h y (Af _ A)) ((Ak.mp w).resolve_left λ e=>q e.symm) (k+1),List.idxOf_cons,beq_eq_false_iff_ne.mpr q,show k+1+r.idxOf n+1=k+(r.idxOf n+1)+1 by exact Eq.symm (Ch k (List.idxOf n r+1) 1)];rfl
structure jH (nl:List (Nat×Nat))(nx:Nat->Nat->Bool):Prop where
 jn:∀a b,(a,b)∈nl↔nx a b=Ag
 nd:nl.Nodup
 six:∀p∈nl,p.1<6/\p.2<6
 len:nl.length<=36
section
variable {o:List Nat}
def Nk (h:List (Nat×Nat))(k:List Nat)(n:Nat):List (Nat×Nat):=h.filter λ p=>(p.1==n)&&!k.contains p.2
theorem V4 {a:Nat->Nat->Bool}(k:jH c a):(Ap 6).filter (λ n=>!o.contains n&&(Nk c o n).isEmpty)=EB a o:=by
 refine Cs λ n w=>?_;congr 1;rw[BJ,De,AR];unfold Nk;rw[DO];constructor
 ·intro h b z;by_cases q:a n b=Ag
  ·have:=h (n,b) ((k.jn n b).mpr q);simp only[beq_self_eq_true,Bool.true_and,C3,Bool.not_eq_true,Mc] at this;rw[q,KS,Bool.false_or];exact(Bool.not_eq_false _).mp (this)
  ·simp only[Bool.not_eq_true] at q;rw[q];rfl
 ·intro h p s q;rw[AG,beq_iff_eq,C3] at q;obtain⟨rfl,q⟩:=q;have:=h p.2 (Au.mpr (k.six p s).2);simp only[(k.jn p.1 p.2).mp s,KS,Bool.false_or] at this;rw[q] at this;exact BI this
def PQ (h:List (Nat×Nat))(k:List Nat)(n:Nat):List Int:=(h.filter λ p=>p.1==n).map λ p=>((k.idxOf p.2+1:Nat):Int)
theorem Ug {c:Nat->Nat->Bool}(w:jH d c)(N:o.Nodup)(W:∀x∈o,x<6)(E:∀b<6,c n b=Ag->b∈o):WO (PQ d o n)=((D7 c o n).reverse).map λ(i:Nat)=>(i:Int):=by
 have e:(D7 c o n).reverse=((Ap o.length).filter λ i=>c n (o.getD i 6)).map (·+1):=by
  rw[<-List.map_reverse,<-List.filter_reverse,List.reverse_reverse]
 rw[e,Be];refine(Pr ?_ ?_).symm
 ·refine(List.perm_ext_iff_of_nodup ?_ ?_).mpr λ a=>?_
  ·refine List.Pairwise.map _ (λ a b h=>?_) ((L9).filter _);exact λ q=>Cu h (Hp (K2.mp (q)))
  ·skip
   refine(Ob (w.nd.filter _) λ p H q O h=>?_);have k:=Ax.mp H;have s:=Ax.mp O;have C:=E p.2 (w.six p k.1).2 ((w.jn n p.2).mp (by rw[<-beq_iff_eq.mp k.2];exact k.1));have Q:=E q.2 (w.six q s.1).2 ((w.jn n q.2).mp (by rw[<-beq_iff_eq.mp s.2];exact s.1));have V:p.2=q.2:=by
    rw[<-Ef (CZ C),<-Ef (CZ Q)];simp only[(Hp (K2.mp h))]
   exact Prod.ext ((beq_iff_eq.mp k.2).trans (beq_iff_eq.mp s.2).symm) V
  ·unfold PQ;rw[AH,AH];constructor
   ·rintro⟨i,z,rfl⟩;obtain⟨z,A⟩:=Ax.mp z;have z:=Au.mp z;rw[Am,AA z] at A;refine⟨(n,o[i]),Ax.mpr ⟨(w.jn _ _).mpr A,by exact beq_self_eq_true _⟩,?_⟩;rw[GL N];rfl
   ·rintro⟨p,H,rfl⟩;have k:=Ax.mp H;have A:=(w.jn n p.2).mp (by rw[<-beq_iff_eq.mp k.2];exact k.1);have C:=E p.2 (w.six p k.1).2 A;refine⟨o.idxOf p.2,Ax.mpr ⟨Au.mpr (CZ C),?_⟩,rfl⟩;rw[Am,AA (CZ C),Ef];exact A
 ·refine List.Pairwise.map _ (λ a b h=>?_) ((L9).filter _);exact Fv.mpr (Bv (AY h))
theorem dN {b:Nat->Nat->Bool}(h:jH a b)(n:Nat):(PQ a o n).length<=36:=by
 unfold PQ;rw[Al];exact Aa (AX _ _) h.len
end
theorem Si {a:Type}{q:a->Bool}:∀{l:List a},l.Pairwise (λ x y=>¬(q x=Av/\q y=Ag))->l=l.filter q++l.filter λ x=>!q x:=by
 intro l;induction l with
 |nil=>
  intro _;exact rfl
 |cons x r k=>
  intro h;have⟨s,w⟩:=JV.mp h;have o:=k w;cases e:q x with
  |true=>
   rw[Lu e,Lv (by simp[e]),Eg,<-o]
  |false=>
   have n:=DO.mpr λ y z A=>s y z ⟨e,A⟩;rw[Lv (by simp[e]),Lu (by simp[e]),n,D1];simp only[n,D1] at o;rw[<-o]
section
def rY (f:Nat->List Nat)(h:List Nat)(i j:Nat):Bool:=Kh (f (h.getD j 6)) (f (h.getD i 6))
theorem rX (f:Nat->List Nat)(k:List Nat):KN k.length (rY f k) where
 jh:=λ i j _ _ h=>SQ h
 trans:=λ i j l _ _ _ o s=>by
  unfold rY at*;cases q:Kh (f (k.getD i 6)) (f (k.getD l 6)) with
  |false=>rfl
  |true=>replace o:=Eq.trans (Eq.symm (PZ q s)) o;exact BI o
def Ld (f:Nat->List Nat)(h:List Nat):List Nat:=h.filter λ n=>h.all λ m=>!Kh (f n) (f m)
theorem Sj {c:List Nat}{f:Nat->List Nat}{p:List Nat}(O:H7 c.length (rY f c) p):(p.map λ i=>c.getD i 6).take (Ld f c).length=Ld f c:=by
 obtain⟨w,z⟩:=O
 let q:Nat->Bool:=λ i=>c.all λ m=>!Kh (f (c.getD i 6)) (f m)
 have Q:∀i∈p,i<c.length:=λ i o=>Au.mp ((w.mem_iff).mp o);have s:∀i,i<c.length->c.getD i 6∈c:=λ i o=>by rw[Am,AA o];exact Dg o
 have V:p=p.filter q++p.filter λ x=>!q x:=Si (I6 (λ{a b} A C h=>by
  rintro⟨W,Z⟩;have k:=h.1;have E:=W;rw[List.all_eq_false] at E;obtain⟨m,d,x⟩:=E;have x:Kh (f (c.getD a 6)) (f m)=Ag:=by simpa using x
  have:=PZ x (by simpa using(AR.mp Z m d):Kh (f (c.getD b 6)) (f m)=Av)
  replace k:=this.symm.trans k;contradiction) z)
 have e:p.filter q=(Ap c.length).filter q:=by
  refine GS (λ a b _ _ k H=>absurd k (Mv H)) ?_ (List.pairwise_lt_range.filter _) (w.filter q);refine I6 (λ{a b} A C h=>?_) (z.filter q);refine h.2.resolve_left λ x=>?_;have:=AR.mp ((Ax.mp C)).2 _ (s a (Q a ((Ax.mp A)).1));have x:Kh (f (c.getD b 6)) (f (c.getD a 6))=Ag:=x;rw[x] at this;exact BI this
 have g:Ld f c=((Ap c.length).filter q).map λ i=>c.getD i 6:=by
  have N:c=(Ap c.length).map λ i=>c.getD i 6:=by
   refine List.ext_getElem (by simp) λ i k H=>?_;rw[List.getElem_map,List.getElem_range,Am,AA k];rfl
  unfold Ld
  conv=>lhs;rw[N]
  refine Hn.trans ?_;congr 1;refine Cs λ i _=>?_;simp only[Function.comp,<-N];rfl
 rw[V,Dy,e,<-g];exact List.take_left
theorem Rx {a:Nat->Nat->Bool}:Io a b=Ld (D7 a b) (EB a b):=rfl
end
def ZL (h:List (Nat×Nat)):List (As×As):=h.map λ p=>(nm p.1,nm p.2)
def yN (h:List (Nat×Nat))(k:List Nat):A5:=[("names",.aa (Bj Gp)),("nexts",.aa (Hi (ZL h))),("labels",.own (.dict (I8 0 k)))]
def yL (k:List (Nat×Nat))(h:List Nat):A5:=Bu (yN k h) "label" (.aa (.int ((h.length+1:Nat):Int)))
def yF (h:List (Nat×Nat))(k:List Nat)(o:List Nat):A5:=Bu (yL h k) "free" (.aa (Bj (o.map nm)))
def Lm (f:Nat->List Nat)(h:List Nat):List (As×PV):=h.map λ n=>(nm n,Bh (f n))
def yG (k:List (Nat×Nat))(o:List Nat)(h:List Nat)(f:Nat->List Nat):A5:=Bu (yF k o h) "falls" (.aa (.dict (Lm f h)))
theorem kY:Bj Gp=.list ((Ap 6).map λ i=>PV.str (nm i)):=rfl
theorem pY (h:a<6)(k:b<6):decide (nm a=nm b)=(a==b):=by
 by_cases q:a=b
 ·subst q;simp
 ·rw[decide_eq_false λ e=>q (K9 h k e)];exact(beq_eq_false_iff_ne.mpr q).symm
theorem Rr {a:List Nat}(h:∀x∈a,x<6)(k:n<6):I9 .NotIn (.str (nm n)) (.dict (I8 0 a))=Ab (!a.contains n):=by
 show(Ab ((I8 0 a).any λ e=>decide (e.1=nm n))).map (!·)=_
 rw[Uj h k];rfl
theorem Vu {f:List PV}(h:f.length<=5):DV (.list f) Ah Ah (Ab (-1))=Ab (.list f.reverse):=by
 exact Uc (P:=λ f=>DV (.list f) Ah Ah (Ab (-1))=Ab (.list f.reverse)) (by kernel_rfl) (λ a=>Uc (by kernel_rfl) λ b=>Uc (by kernel_rfl) λ c=>Uc (by kernel_rfl) λ d=>Uc (by kernel_rfl) λ e=>yK (by kernel_rfl)) f h
section
variable {o:List Nat}
theorem cE {b:Nat->Nat->Bool}(H:jH a b)(O:∀x∈o,x<6)(Q:GW w h C k mg mb)(V:CY k A)(B:Kr w h 173 z N):F5 (W1 w h) A (Fe w 173).scope z N (exec (Fo.getD 0 (.Pass default)) z) (yL a o) (.next (yF a o (EB b o))):=by
 have f:=Kz;have s:=H.len;have e:Bj ((EB b o).map nm)=.list (((Ap 6).filter λ n=>!o.contains n&&(Nk a o n).isEmpty).map λ i=>PV.str (nm i)):=by
  rw[V4 H];unfold Bj;rw[Be];rfl
 unfold yF;rw[e]
 conv in Fo.getD _ _=>whnf
 refine DU Q V B (.T (λ n=>!o.contains n&&(Nk a o n).isEmpty) (λ i=>PV.str (nm i)) (.list (.aa (by rw[<-kY];rfl)) rfl) rfl rfl (λ n E=>?_) (by rw[CM];exact Aj 6 1048570)) rfl;have E:=Au.mp E;refine⟨[("name",.aa (.str (nm n))),("nexts",.aa (Hi (ZL a))),("labels",.own (.dict (I8 0 o)))],rfl,.bq ?_,λ _=>.aa rfl⟩;rw[(by rw[EU,List.isEmpty_map]:(!o.contains n&&(Nk a o n).isEmpty)=(!o.contains n&&(((Nk a o n).map λ(p:Nat×Nat)=>nm p.2).isEmpty&&Ag)))];refine .all (.bu (.cq (.aa rfl) (.own rfl) rfl (by simp) (Rr O E)) λ _=>.bu (.au ?_ (.list .nil (AZ _)) rfl (Wb ((Nk a o n).map λ(p:Nat×Nat)=>nm p.2))) λ _=>.nil);have W:Bj ((Nk a o n).map λ p=>nm p.2)=.list ((a.filter λ p=>(p.1==n)&&!o.contains p.2).map λ p=>PV.str (nm p.2)):=by
  unfold Bj Nk;rw[Be];rfl
 rw[W];refine EE.ev<| .T (λ p=>(p.1==n)&&!o.contains p.2) (λ p=>PV.str (nm p.2)) (.list (.aa (by rw[show(a.map λ p=>bR (nm p.1,nm p.2))=(ZL a).map bR from by unfold ZL;rw[Be];rfl];rfl)) rfl) rfl rfl (λ p Z=>?_) (Aa s (of_decide_eq_true (_root_.id (Cy Ag))));obtain⟨c,d⟩:=H.six p Z;refine⟨[("b",.aa (.str (nm p.2))),("a",.aa (.str (nm p.1))),("name",.aa (.str (nm n))),("labels",.own (.dict (I8 0 o)))],rfl,.bq ?_,λ _=>.aa rfl⟩;rw[(by rw[EU,pY c E]:((p.1==n)&&!o.contains p.2)=(decide (nm p.1=nm n)&&(!o.contains p.2&&Ag)))];exact .all (.bu (.au (.aa rfl) (.aa rfl) rfl rfl) λ _=>.bu (.cq (.aa rfl) (.own rfl) rfl (by simp) (Rr O d)) λ _=>.nil)
theorem Yb (h:List Int)(k:h.length<64):Q2 .sorted [.list (h.map .int)]=Ab (.list ((WO h).map .int)):=by
 show WN (h.map .int)=_;unfold WN;rw[if_pos (by rw[Al];exact decide_eq_true k),(Kd h)];rfl
theorem fV (k:Nat->Nat->Bool)(h:List Nat)(n:Nat):(D7 k h n).length<=h.length:=by
 unfold D7;rw[Al];exact Aa (AX _ _) (by rw[FE,CM];exact An _)
theorem Xm (h:Nat->Nat->Bool)(k:List Nat):(EB h k).Nodup:=KC _ IF
theorem VF {l:List Nat}(k:l.Nodup)(h:∀x∈l,x<6):(l.map nm).Nodup:=Ob k λ x o y s e=>K9 (h x o) (h y s) e
theorem Ym {a:Nat->Nat->Bool}(s:jH b a)(j:o.Nodup)(W:∀x∈o,x<6)(l:o.length<6)(m:GW w h C k mg mb)(q:CY k A)(B:Kr w h 173 z N):F5 (W1 w h) A (Fe w 173).scope z N (exec (Fo.getD 1 (.Pass default)) z) (yF b o (EB a o)) (.next (yG b o (EB a o) (D7 a o))):=by
 have I:=Kz;have E:=s.len;have Z:∀x∈EB a o,x<6:=λ x r=>(HU.mp r).1;have t:(EB a o).length<=6:=Aa (AX _ _) (by rw[CM];exact An _);have e:Lm (D7 a o) (EB a o)=Zn ((EB a o).map λ n=>(nm n,Bh (D7 a o n))):=by
  refine(gS _ [] ?_).symm;rw[D1,Be];exact VF (Xm a o) Z
 unfold yG;rw[e]
 conv in Fo.getD _ _=>whnf
 have Q:(yF b o (EB a o)).lookup ("free":As)=Ab (.aa (.list ((EB a o).map λ n=>PV.str (nm n)))):=by
  rw[show((EB a o).map λ n=>PV.str (nm n))=((EB a o).map nm).map PV.str from by rw[Be];rfl];rfl
 refine DU m q B (.D nm (λ n=>Bh (D7 a o n)) (.list (.aa Q) rfl) rfl rfl (λ n c=>?_) (Aa t (of_decide_eq_true (_root_.id (Cy Ag))))) rfl;have V:=Z n c;have H:=(HU.mp c).2.2;refine⟨[("name",.aa (.str (nm n))),("nexts",.aa (Hi (ZL b))),("labels",.own (.dict (I8 0 o)))],rfl,.aa rfl,?_⟩;have u:=dN (o:=o) s n;have O:=Yb (PQ b o n) (Az u (by decide));rw[(Ug s j W H)] at O;have v:DV (.list (((D7 a o n).reverse.map λ(i:Nat)=>(i:Int)).map PV.int)) Ah Ah (Ab (-1))=Ab (Bh (D7 a o n)):=by
  rw[Vu (by rw[Al,Al,FE];exact Aa (fV a o n) (A7 l))];unfold Bh;rw[Be,List.map_reverse,List.reverse_reverse];rfl
 refine .slice (.bn (.blt rfl rfl (.cons ?_ .nil rfl) O)) .no .no (.int (.neg .int)) v;have y:(PV.list ((PQ b o n).map PV.int))=.list ((b.filter λ p=>p.1==n).map λ p=>PV.int ((o.idxOf p.2+1:Nat):Int)):=by
  unfold PQ;rw[Be];rfl
 rw[y];refine EE.ev<| .T (λ p=>p.1==n) (λ p=>PV.int ((o.idxOf p.2+1:Nat):Int)) (.list (.aa (by rw[show(b.map λ p=>bR (nm p.1,nm p.2))=(ZL b).map bR from by unfold ZL;rw[Be];rfl];rfl)) rfl) rfl rfl (λ p d=>?_) (Aa E (of_decide_eq_true (_root_.id (Cy Ag))));obtain⟨D,f⟩:=s.six p d;refine⟨[("b",.aa (.str (nm p.2))),("a",.aa (.str (nm p.1))),("name",.aa (.str (nm n))),("labels",.own (.dict (I8 0 o)))],rfl,.bq ?_,λ G=>?_⟩
 ·rw[<-pY D V];exact .au (.aa rfl) (.aa rfl) rfl rfl
 ·have N:=H p.2 f ((s.jn n p.2).mp (by rw[<-beq_iff_eq.mp G];exact d));have g:=RC W f N 0;rw[Ct] at g;exact .sub (.own rfl) (.aa rfl) (λ _ _=>rfl) g
end
def Kf (a:As):Nat:=Gp.idxOf a
theorem GN:∀i<6,Kf (nm i)=i:=by decide+kernel
def gF (f:Nat->List Nat)(a b:As):Int:=xJ (Kh (f (Kf a)) (f (Kf b)))-xJ (Kh (f (Kf b)) (f (Kf a)))
theorem sL (f:Nat->List Nat)(a b:As):decide (gF f a b<0)=Kh (f (Kf b)) (f (Kf a)):=by
 unfold gF;cases e:Kh (f (Kf b)) (f (Kf a)) with
 |true=>rw[SQ e];rfl
 |false=>cases Kh (f (Kf a)) (f (Kf b))<;>rfl
theorem fM (f:Nat->List Nat)(a b:As):decide (gF f a b>0)=Kh (f (Kf a)) (f (Kf b)):=by
 unfold gF;cases e:Kh (f (Kf a)) (f (Kf b)) with
 |true=>rw[SQ e];rfl
 |false=>cases Kh (f (Kf b)) (f (Kf a))<;>rfl
theorem Qe {f:Nat->List Nat}(h:∀x∈a,x<6)(k:n∈a):EW (.dict (Lm f a)) (.str (nm n))=Ab (Bh (f n)):=by
 show((Lm f a).find? λ e=>decide (e.1=nm n)).map (·.2)=_
 unfold Lm;induction a with
 |nil=>cases k
 |cons x r o=>
  by_cases q:x=n
  ·subst q;rw[F7 (by simp)];rfl
  ·rw[ES (by simpa using λ e=>q (K9 (h x Ad) (h n k) e))];exact o (λ y s=>h y (Af _ s)) ((Ak.mp k).resolve_left λ e=>q e.symm)
theorem rL {c:List Nat}{f:Nat->List Nat}(h:∀x∈c,x<6):∀a∈c.map nm,∀b∈c.map nm,Dc C MK.2.2.1 ((["one","other"]:List As).zip [Dt.aa (.str a),.aa (.str b)]++([("falls",Dt.aa (.dict (Lm f c)))]:A5)) MK.2.1 (.int (gF f a b)):=λ a H b N=>by
 obtain⟨i,w,rfl⟩:=AH.mp H;obtain⟨j,z,rfl⟩:=AH.mp N;unfold gF;rw[GN i (h i w),GN j (h j z)]
 conv in MK.2.1=>whnf
 have O:=Qe (f:=f) h w;have Q:=Qe (f:=f) h z;have A:∀{k o s:CE},Dc C MK.2.2.1 ((["one","other"]:List As).zip [Dt.aa (.str (nm i)),.aa (.str (nm j))]++([("falls",Dt.aa (.dict (Lm f c)))]:A5)) (.Subscript (.Name "falls" k) (.Name "one" o) s) (Bh (f i)):=λ{_ _ _}=>.sub (.aa (by kernel_rfl)) (.aa (by kernel_rfl)) (λ _ _=>rfl) O;have E:∀{k o s:CE},Dc C MK.2.2.1 ((["one","other"]:List As).zip [Dt.aa (.str (nm i)),.aa (.str (nm j))]++([("falls",Dt.aa (.dict (Lm f c)))]:A5)) (.Subscript (.Name "falls" k) (.Name "other" o) s) (Bh (f j)):=λ{_ _ _}=>.sub (.aa (by kernel_rfl)) (.aa (by kernel_rfl)) (λ _ _=>rfl) Q;exact .am (Dc.iw Ag A E rfl) (Dc.iw Av A E rfl) rfl
theorem dK:ZE MK.1 MK.2.1 MK.2.2.1 ["one","other"]:=by
 refine⟨by kernel_rfl,by kernel_rfl,by kernel_rfl,?_,?_,by decide,λ h k w z A o s=>?_⟩
 ·decide+kernel
 ·decide+kernel
 ·obtain⟨a,b,rfl⟩:=Nr s
  conv in MK.1=>whnf
  rfl
section
variable {o:List Nat}
theorem O8 {b:Bd->Option Ae}(I:GT w h)(T:Top c a b mg mb h)(s:∃n,z=B5 (Fe w 173) n 173)(o:O.lookup ("falls":As)=Ab (.aa d)):Mx (W1 w h) mg (Fe w 173).scope z O MK.1 MK.2.1 MK.2.2.1 MK.2.2.2 ["one","other"] [("falls",.aa d)]:=by
 obtain⟨n,rfl⟩:=s;refine⟨⟨172,170,yJ,"_law_numbered.<locals>.<lambda>",vL,by decide,XC I T (by decide),by kernel_rfl,Ad,by kernel_rfl⟩,by rfl,dK,by decide+kernel,λ p A C=>?_,λ x E k=>?_⟩
 ·have:=AR.mp (by kernel_rfl:MK.2.2.1.names.all (λ p=>!(p.2== .free)||(Fe w 173).scope.names.lookup p.1==Ab .cell)=Ag) p A;rw[C] at this;simpa using this
 ·rw[J9] at k;split at k
  ·rename_i q;subst q;cases k;exact⟨by kernel_rfl,by decide+kernel,o,_,rfl⟩
  ·cases k
end
theorem Uh (h:List Nat):∀k,(I8 k h).length=h.length:=by
 induction h with
 |nil=>intro k;rfl
 |cons x r o=>intro k;exact congrArg BZ (o (k+1))
theorem VS {a:List Nat}(h:∀x∈a,x<6)(s:a.length<6)(k:n<6)(o:n∉a):qS (.dict (I8 0 a)) (.str (nm n)) (.int ((a.length+1:Nat):Int))=Ab (.dict (I8 0 (a++[n]))):=by
 have w:(6:Nat)<=B2:=by decide+kernel
 show(if(I8 0 a).length<B2 then Ab (PV.dict (Fb (I8 0 a) (nm n) (.int ((a.length+1:Nat):Int)))) else Ah)=_;rw[if_pos (by rw[Uh];exact Ao ‹_<_› ‹_<=_›),Ui,Ct];unfold Fb;rw[if_neg];rw[Uj h k 0];simpa using o
theorem Z7 (x:PV)(h:List PV):EW (.list (x::h)) (.int 0)=Ab x:=by
 refine(NZ (x::h) 0).trans ?_;rw[if_pos (by decide+kernel),ME (DQ _)];rfl
theorem XS.l7 (S:XS W V z N Z X s O)(e:Ek ks O=a):XS W V z N Z X s a:=e▸S.aw EN
theorem u8:∀i<6,Ba (nm i)=Ag/\(nm i).length<=B2:=by decide+kernel
section
theorem Ub {c:List Nat}{f:Nat->List Nat}(k:∀x∈c,x<6):((c.map nm).filter λ a=>((c.map nm).filter λ b=>decide (gF f a b>0)).isEmpty)=(Ld f c).map nm:=by
 refine Hn.trans ?_;congr 1;refine Cs λ n o=>?_;show((c.map nm).filter λ b=>decide (gF f (nm n) b>0)).isEmpty=_;rw[BJ,De,DO,AR];constructor
 ·intro q m h;have:=q (nm m) (DT h);rw[fM,GN n (k n o),GN m (k m h)] at this;simpa using this
 ·intro q b s;obtain⟨m,h,rfl⟩:=AH.mp s;rw[fM,GN n (k n o),GN m (k m h)];simpa using q m h
theorem P4 {a:List Nat}(h:i<a.length):(a.map nm).getD i Cb=nm (a.getD i 6):=by
 rw[Am,Bo,Am,AA h];rfl
theorem Vo {a:List Nat}{f:Nat->List Nat}{p:List Nat}(h:H7 (a.map nm).length (rY f a) p):(p.map λ i=>(a.map nm).getD i Cb).take ((Ld f a).map nm).length=(Ld f a).map nm:=by
 rw[Al] at h;have e:(p.map λ i=>(a.map nm).getD i Cb)=(p.map λ i=>a.getD i 6).map nm:=by
  rw[Be];exact EM λ i k=>P4 (Au.mp ((h.1.mem_iff).mp k))
 rw[e,Al,<-Hm,Sj h]
theorem cQ {a:List Nat}{f:Nat->List Nat}(s:∀x∈a,x<6):∀i j,i<(a.map nm).length->j<(a.map nm).length->rY f a i j=decide (gF f ((a.map nm).getD i Cb) ((a.map nm).getD j Cb)<0):=λ i j h o=>by
 simp only[Al] at h o;have k:∀i,i<a.length->a.getD i 6∈a:=λ i h=>by rw[Am,AA h];exact Dg h
 rw[sL,P4 h,P4 o,GN _ (s _ (k i h)),GN _ (s _ (k j o))];rfl
end
section
variable {o:List Nat}
theorem cA {e:Bd->Option Ae}{b:Nat->Nat->Bool}(I:GT w h)(T:Top j c e mg mb h)(b4:Cn j=Ag)(d0:jH g b)(he:∃n,z=B5 (Fe w 173) n 173)(hd:o.Nodup)(ho:∀x∈o,x<6)(hl:o.length<6)(hm:Io b o=m::d)(hA:CY 4 A)(B:Kr w h 173 z N):
 F5 (W1 w h) A (Fe w 173).scope z N (execs Fo z) (yL g o) (.next (yN g (o++[m]))):=.mk' λ Z X Q E s T'=>by
 have G:∀k,E2 (W1 w h) C0 k mg mb:=λ k=>ZO I T b4;have O:=hA.ai (AZ _);have S:=hA.ai (Bq _);have R:∀x∈EB b o,x<6:=λ x hx=>(HU.mp hx).1;have fl:(EB b o).length<=6:=Aa (AX _ _) (by exact An _);have b5:=VF (Xm b o) R;have ml:m∈EB b o:=PJ (hm▸Ad);have b6:=VS ho hl (R m ml) (HU.mp ml).2.1;have lf:=Ub (f:=D7 b o) R;simp only[<-Rx,hm] at lf;have ev:=rL (C:=C0) (f:=D7 b o) R;have b7:=cQ (f:=D7 b o) R;have U:=λ p(gp:H7 ((EB b o).map nm).length (rY (D7 b o) (EB b o)) p)=>Vo gp;rw[<-Rx,hm] at U;have b8:KN ((EB b o).map nm).length (rY (D7 b o) (EB b o)):=by rw[Al];exact rX _ _
 have V:∀a∈(EB b o).map nm,Ba a=Ag/\a.length<=B2:=λ a ha=>by
  obtain⟨i,hi,rfl⟩:=AH.mp ha;exact u8 i (R i hi)
 have b9:((m::d).map nm).length<=B2:=by
  rw[Al,<-hm];exact Aa (AX _ _) (Aa fl (by decide+kernel))
 have c0:=cE d0 ho (G 0) O B;have c3:=Ym d0 hd ho hl (G 0) O B;rw[(by kernel_rfl:Fo=[Fo.getD 0 (.Pass default),Fo.getD 1 (.Pass default),Fo.getD 2 (.Pass default),Fo.getD 3 (.Pass default),Fo.getD 4 (.Pass default),Fo.getD 5 (.Pass default),Fo.getD 6 (.Pass default)])];generalize EB b o=fr at*;generalize D7 b o=f at*;refine Ay (c0.go Z X s _ _ T'.S λ Y q a0 r a1=>Ay (c3.go Z X {s with heap:=Y,toks:=q} _ _ a0 λ d1 c4 a2 t a3=>Ay ?_));obtain⟨oc,c5,c6,c1,c2⟩:=(V6 I T).obj
 conv in Fo.getD 2 _=>whnf
 refine dR (G 0) hA B a2 (wF I T (G 0)) ((Ej I T _).trans (by kernel_rfl)) ⟨oc,_,c5,c6,c1,c2⟩ T.nolimit (O8 I T he (by kernel_rfl)) rfl V ev (by kernel_rfl) (by kernel_rfl) λ d2 c7 K cc fa W u a4 v=>Ay ?_
 conv in Fo.getD 3 _=>whnf
 refine YI (G 3) S B W (v.cz (G 0) (O8 I T he (by kernel_rfl)) W.F rfl T.nolimit V ev) T.nolimit b5 (by rw[Al];exact Aa fl (of_decide_eq_true (_root_.id (Cy Ag)))) (by kernel_rfl) (by kernel_rfl) (by decide+kernel) (by kernel_rfl) (by kernel_rfl) (by kernel_rfl) (by kernel_rfl) (hw:=by rfl) λ is d3 c8 d4 ir C l y a5=>Ay ?_
 replace v:=v.keep C
 conv in Fo.getD 4 _=>whnf
 refine VP (G 3) S B l (v.cz (G 0) (O8 I T he (by kernel_rfl)) l.F rfl T.nolimit V ev) ir T.nolimit (by rw[Al];exact Aa fl (of_decide_eq_true (_root_.id (Cy Ag)))) (by kernel_rfl) (by kernel_rfl) (by kernel_rfl) (by decide+kernel) (by kernel_rfl) (by kernel_rfl) (by kernel_rfl) (by kernel_rfl) (λ a=>by kernel_rfl) (λ a=>by kernel_rfl) (λ a=>by kernel_rfl) (by decide+kernel) (by decide+kernel) (by kernel_rfl) (hw:=by rfl) λ d5 c9 C H D a6=>Ay ?_
 replace v:=v.keep C
 simp only[lf] at H
 conv in Fo.getD 5 _=>whnf
 refine YT (G 0) hA O B H (v.cz (G 0) (O8 I T he (by kernel_rfl)) H.F rfl T.nolimit V ev) T.nolimit (by kernel_rfl) (by kernel_rfl) (by rw[Al];exact Bv ‹_›) b8 b7 (by kernel_rfl) (by kernel_rfl) (by kernel_rfl) b9 U λ a7 J a8 a9 b0=>Ay ?_
 conv in Fo.getD 6 _=>whnf
 refine(WM (G 0) O B (by kernel_rfl) (.aa (by kernel_rfl)) (.sub (b:=Bj ((m::d).map nm)) (.aa (by kernel_rfl)) .int (λ _ _=>rfl) (Z7 _ _)) b6 (by rfl)).go Z X {s with heap:=a7,toks:=J} _ _ a9 λ b1 L b2 M b3=>BN ?_;refine T'.q b1 L (b2.l7 (ks:=["names","nexts","labels"]) (by kernel_rfl)) (r.trans (t.trans (u.trans (y.trans (D.trans (a8.ap.trans M)))))) (Aa a1 (Aa a3 (Aa a4 (Aa a5 (Aa a6 (Aa b0 b3))))))
end
theorem sR {f:List As}(m:Gw W a fd f c){g:List PV->Option PV}(V:∀args d,g args=Ab d->args.length=f.length/\∀A h H,(∃n,h=B5 fd n a)->CY k A->XB W fd.scope h H->Th W A fd.scope h H c (f.zip (args.map Dt.aa)) d):Gx W (k+1) a g:=
 λ A s X args Z d i G p r e Q E q=>
  Ge m i G p (MT.gw r) ((Al _).trans (V args d e).1) λ h j N t B l w S=>
   ((V args d e).2 _ h _ ⟨_,t⟩ (i.down h) B).go _ _ _ _ _ S λ v z o O C u=>q v z o O (Aa w C) (u.ai λ b H=>AL.mpr (.inr H))
theorem cB {r:Nat->Nat->Bool}(P:PO r)(o:i<6):∃m h,Io (EO r) (Il (EO r) i)=m::h/\Il (EO r) (i+1)=Il (EO r) i++[m]:=by
 have k:=LH P (i+1) o;have e:Il (EO r) (i+1)=Il (EO r) i++(Io (EO r) (Il (EO r) i)).take 1:=rfl;rw[e] at k ⊢;cases q:Io (EO r) (Il (EO r) i) with
 |nil=>rw[q,AQ,(LH P i (AY o))] at k;simp at k
 |cons m h=>exact⟨m,h,rfl,rfl⟩
section
theorem cD {c:Bd->Option Ae}{r:Nat->Nat->Bool}(I:GT w h)(T:Top d a c mg mb h)(s:Cn d=Ag)(P:PO r)(E:jH b (EO r))(H:∃n,z=B5 (Fe w 173) n 173)(O:CY 4 A)(B:Kr w h 173 z N)(q:CE):∀(n i:Nat),i+n=6->
 H8 (W1 w h) A (Fe w 173).scope z N (.Name "label" q) Fo [] ((List.range' i n).map λ(j:Nat)=>PV.int ((j+1:Nat):Int)) (yN b (Il (EO r) i)) (.next (yN b (Il (EO r) 6))):=by
 intro n;induction n with
 |zero=>
  intro i o;obtain rfl:i=6:=o;exact .nil FT
 |succ n Q=>
  intro i o;have k:=Ao (HE (DQ n)) (AB o);obtain⟨m,Z,V,W⟩:=cB P k;have C:=cC P i (AY k);have len:=LH P i (AY k);have t:=cA I T s E H C.nd C.lt (Az (AB len) k) V O B;rw[<-W] at t;rw[List.range'_succ,Bl];refine .next (ρb:=yL b (Il (EO r) i)) ?_ t (Q (i+1) ((Ch i 1 n).trans o));unfold yL;rw[len];kernel_rfl
theorem V9 {c:Bd->Option Ae}{r:Nat->Nat->Bool}(I:GT w h)(T:Top f b c mg mb h)(k:Cn f=Ag)(P:PO r)(z:jH a (EO r)):Gx (W1 w h) 5 173 (JK [Bj Gp,Hi (ZL a)] (.dict (I8 0 (Il (EO r) 6)))):=by
 refine sR (OA I T) λ args d e=>?_;obtain⟨rfl,rfl⟩:args=[Bj Gp,Hi (ZL a)]/\d=.dict (I8 0 (Il (EO r) 6)):=by
  unfold JK at e;by_cases q:args=[Bj Gp,Hi (ZL a)]
  ·rw[if_pos q] at e;exact⟨q,(AN e).symm⟩
  ·rw[if_neg q] at e;cases e
 refine⟨rfl,λ A C V E o B=>?_⟩;have s:E2 (W1 w h) C0 4 mg mb:=ZO I T k;have H:=λ q=>cD I T k P z E o B q 6 0 rfl;have N:BG P1 40=[J7.getD 0 (.Pass default),J7.getD 1 (.Pass default),J7.getD 2 (.Pass default)]:=rfl;rw[N];generalize Il (EO r) 6=O at*
 conv in J7.getD 0 _=>whnf
 refine R8 s o B .dict rfl ?_ (by rfl);have Q:Bu ((["names","nexts"]:List As).zip (([Bj Gp,Hi (ZL a)]:List PV).map Dt.aa)) "labels" (.own (.dict []))=yN a (Il (EO r) 0):=rfl;rw[Q]
 conv in J7.getD 1 _=>whnf
 refine K5 (J6 s o B (.range rfl (.cons .int (.cons .int .nil rfl) rfl) rfl) (H _)) ?_
 conv in J7.getD 2 _=>whnf
 exact Jp (He s o B (.own rfl))
end
structure MC (L:List As)(rows:List (List As)):Prop where
 nd:L.Nodup
 sub:∀r∈rows,r.Sublist L
 mq:∀i p q,L[i]? =Ab p->L[i+1]? =Ab q->∃r∈rows,[p,q].Sublist r
 mem:∀x∈L,∃r∈rows,x∈r
theorem fR {all:List (List As)}{x:As}(E:IZ all x=Ag):∀{k:List (List As)},(∀r∈k,∀y,r.head? =Ab y->y=x\/IZ all y=Av)->(∃r∈k,r.head? =Ab x)->El all k=Ab x:=by
 intro k;induction k with
 |nil=>exact λ _ h=>by obtain⟨r,o,_⟩:=h;contradiction
 |cons H s A=>
 cases H with
 |nil=>
  intro w z;refine A (λ r o=>w r (Af _ o)) ?_;obtain⟨r,o,e⟩:=z;rcases Ak.mp o with rfl |o
  ·contradiction
  ·exact⟨r,o,e⟩
 |cons y t=>
  intro w z;show(if IZ all y then Ab y else El all s)=_;by_cases e:y=x
  ·subst e;exact(if_pos E)
  ·have:=(w _ Ad y rfl).resolve_left e;rw[this,if_neg BI];refine A (λ r o=>w r (Af _ o)) ?_;obtain⟨r,o,C⟩:=z;rcases Ak.mp o with rfl |o
   ·exact absurd (AN C) e
   ·exact⟨r,o,C⟩
theorem MC.head (h:MC (x::L) a){r:List As}(k:r∈a)(o:x∈r):r.head? =Ab x:=by
 have s:=h.sub r k;cases s with
 |cons _ s=>exact absurd (s.subset o) (BA.mp h.nd).1
 |cons_cons _ s=>rfl
theorem MC.step {b:List (List As)}(k:MC (x::L) b):MC L (b.map (IV x)) where
 nd:=(BA.mp k.nd).2
 sub:=λ H w=>by
  obtain⟨r,o,rfl⟩:=AH.mp w;have s:=k.sub r o;unfold IV;cases s with
  |cons _ s=>
   rw[if_neg]
   ·exact s
   ·intro e;cases r with
    |nil=>contradiction
    |cons a t=>cases e;exact(BA.mp k.nd).1 (s.subset Ad)
  |cons_cons _ s=>rw[if_pos rfl];exact s
 mq:=λ i p q z C=>by
  obtain⟨r,o,s⟩:=k.mq (i+1) p q z C;refine⟨IV x r,DT o,?_⟩;have E:p≠x:=λ e=>(BA.mp k.nd).1 (e▸Cq z);unfold IV;split
  ·rename_i e;cases r with
   |nil=>cases e
   |cons a t=>
    cases e
    cases s with
    |cons _ s=>exact s
    |cons_cons _ s=>exact absurd rfl E
  ·exact s
 mem:=λ y A=>by
  obtain⟨r,o,h⟩:=k.mem y (Af _ A);refine⟨IV x r,DT o,?_⟩;unfold IV;split
  ·rename_i e;cases r with
   |nil=>cases e
   |cons a t=>cases e;exact(Ak.mp h).resolve_left (λ e=>(BA.mp k.nd).1 (e▸A))
  ·exact h
theorem IY:r∈HP a↔r∈a/\r≠[]:=by
 unfold HP;cases r<;>simp
theorem MC.jc (k:MC (x::L) b):El (HP b) (HP b)=Ab x:=by
 have z:=BA.mp k.nd;refine fR ?_ (λ r o y A=>?_) ?_
 ·unfold IZ;rw[AR];intro r o;have s:=k.sub r (IY.mp o).1;have:x∉r.tail:=λ h=>by
   cases s with
   |cons _ s=>exact z.1 (s.subset (List.mem_of_mem_tail h))
   |cons_cons _ s=>exact z.1 (s.subset h)
  simpa using this
 ·by_cases e:y=x
  ·exact .inl e
  refine .inr ?_;have w:y∈r:=by
   cases r with
   |nil=>cases A
   |cons a t=>cases A;exact Ad
  have yL:y∈L:=(Ak.mp ((k.sub r (IY.mp o).1).subset w)).resolve_left e;obtain⟨i,C⟩:=Iy.mp yL;obtain⟨p,E⟩:∃p,(x::L)[i]? =Ab p:=by
   cases h:(x::L)[i]? with
   |some p=>exact⟨p,rfl⟩
   |none=>
    have:=List.getElem?_eq_none_iff.mp h;obtain⟨H,_⟩:=Co.mp C;simp at this;exact Ho (Mv this H)
  obtain⟨t,N,s⟩:=k.mq i p y E C;unfold IZ;rw[List.all_eq_false];refine⟨t,IY.mpr ⟨N,λ q=>by subst q;cases s⟩,?_⟩;have:y∈t.tail:=by
   cases t with
   |nil=>cases s
   |cons a t=>
    cases s with
    |cons _ s=>exact s.subset (by simp)
    |cons_cons _ s=>exact s.subset (by simp)
  simpa using this
 ·obtain⟨r,o,h⟩:=k.mem x Ad;exact⟨r,IY.mpr ⟨o,λ q=>by subst q;cases h⟩,k.head o h⟩
theorem hH:∀(L:List As)(k:List (List As))(s:List As)(n:Nat),L.length<n->MC L k->∃o,Qp n k s=Ab (Ab (s++L),o):=by
 intro L;induction L with
 |nil=>
  intro k s n z A;cases n with
  |zero=>exact absurd z (Hq _)
  |succ n=>?_
  refine⟨k,?_⟩;rw[RS,if_pos,EH];rw[De,List.eq_nil_iff_forall_not_mem];intro r w;have:=A.sub r (IY.mp w).1;exact(IY.mp w).2 (List.sublist_nil.mp this)
 |cons x L C=>
  intro k s n h A;cases n with
  |zero=>exact absurd h (Hq _)
  |succ n=>?_
  obtain⟨o,e⟩:=C (k.map (IV x)) (s++[x]) n (DR h) A.step;refine⟨o,?_⟩;rw[RS,if_neg,A.jc]
  ·show Qp n (k.map (IV x)) (s++[x])=_;rw[e,BY];rfl
  ·obtain⟨r,w,h⟩:=A.mem x Ad;rw[De];intro q;have:=IY.mpr ⟨w,λ q=>by subst q;cases h⟩
   replace this:=(q)▸this;cases this
section
variable {o:List Nat}
def pN (h:List Nat)(i j:Nat):Bool:=decide (((h.idxOf j+1:Nat):Int)-((h.idxOf i+1:Nat):Int)<0)
theorem W2:pN o i j=Ag↔o.idxOf j<o.idxOf i:=by unfold pN;rw[decide_eq_true_iff];exact⟨λ h=>DR (BO.mp (Int.lt_of_sub_neg h)),λ h=>Int.sub_neg_of_lt (BO.mpr (IM h))⟩
theorem Oc:pN o i j=Av↔o.idxOf i<=o.idxOf j:=by rw[Bool.eq_false_iff,ne_eq,W2];exact B7
theorem rW (k:List Nat)(n:Nat):KN n (pN k) where
 jh:=λ i j _ _ h=>by rw[W2] at h;rw[Oc];exact AY ‹_›
 trans:=λ i j l _ _ _ o s=>by rw[Oc] at*;exact Aa s o
theorem cJ {a:Type}{l:List a}(h:l.Nodup):l.reverse.Nodup:=(List.pairwise_reverse).mpr (h.imp λ q e=>q e.symm)
theorem D8.et {r:Nat->Nat->Bool}(k:D8 r o)(s:o.length=6):x∈o↔x<6:=by
 refine⟨k.lt x,λ w=>?_⟩;obtain⟨p,z,rfl⟩:=k.all s w;obtain⟨_,h,e⟩:=k.sg s z;rw[e];exact Dg h
theorem lZ {r:Nat->Nat->Bool}(k:D8 r o)(E:o.length=6)(z:H7 6 (pN o) p):p=o.reverse:=by
 have A:∀a∈o,∀b∈o,o.idxOf a=o.idxOf b->a=b:=λ a s b C e=>by
  rw[<-Ef (CZ s),<-Ef (CZ C)];simp only[e]
 have H:∀{a},a∈p->a∈o:=λ{a} s=>(k.et E).mpr (Au.mp ((z.1.mem_iff).mp s));have w:=(z.1.nodup_iff).mpr IF;refine GS (le:=λ a b=>o.idxOf b<o.idxOf a) (λ a b _ _ N O=>absurd N (Mv O)) ?_ ?_ ?_
 ·refine I6 (λ{a b} s C h=>?_) (List.Pairwise.and z.2 w);exact J1 (Oc.mp h.1.1) λ e=>h.2 (A a (H s) b (H C) e.symm)
 ·rw[List.pairwise_reverse];refine G7.mpr λ i j Q V h=>?_;rw[GL k.nd,GL k.nd];exact h
 ·refine(List.perm_ext_iff_of_nodup w (cJ k.nd)).mpr λ a=>?_;rw[E0,k.et E,<-Au];exact z.1.mem_iff
theorem Nj {i j:Nat}{c:Type}{l:List c}{a b:c}(h:i<j)(k:l[i]? =Ab a)(o:l[j]? =Ab b):[a,b].Sublist l:=by
 induction l generalizing i j with
 |nil=>contradiction
 |cons x t s=>
  cases j with
  |zero=>cases h
  |succ j=>
   cases i with
   |zero=>
    cases k
    exact .cons_cons _ (List.singleton_sublist.mpr (Cq o))
   |succ i=>exact .cons _ (s (DR h) k o)
def Nf (L:List As)(h:List (Nat×Nat)):List (List As):=[L.drop 4,(L.take 5).drop 2,L.take 3]++h.map λ(p:Nat×Nat)=>[nm p.1,nm p.2]
theorem tP {L:List As}(C:L.length=6)(E:L.Nodup)(H:∀p∈a,[nm p.1,nm p.2].Sublist L):MC L (Nf L a) where
 nd:=E
 sub:=λ r N=>by
  rcases AL.mp N with q |q
  ·simp only[Ak,BH,or_false] at q;rcases q with rfl |rfl |rfl
   ·exact List.drop_sublist _ _
   ·exact(List.drop_sublist _ _).trans (List.take_sublist _ _)
   ·exact List.take_sublist _ _
  ·obtain⟨p,o,rfl⟩:=AH.mp q;exact H p o
 mq:=λ i p q o w=>by
  have z:L.drop 4∈Nf L a:=A8 _ Ad;have O:(L.take 5).drop 2∈Nf L a:=A8 _ (Af _ Ad);have A:L.take 3∈Nf L a:=A8 _ (Af _ (Af _ Ad));have s:=C▸(Co.mp w).1;by_cases h:i<2
  ·exact⟨_,A,Nj (CK i) (by rw[Du (BD ‹_›)];exact o) (by refine Eq.trans (Du (Bv ‹_›)) ?_;exact w)⟩
  by_cases k:i<4
  ·refine⟨_,O,Nj (FK (Bz h) (An _)) ?_ ?_⟩
   ·rw[F6,EF (Bz h),Du (A7 ‹_›)];exact o
   ·rw[F6,(Nat.succ_add 1 (i-1)).trans (congrArg BZ (EF (CQ (Bz h)))),Du (Bv ‹_›)];exact w
  ·refine⟨_,z,Nj (FK (Bz k) (An _)) ?_ ?_⟩
   ·rw[F6,EF (Bz k)];exact o
   ·rw[F6,(Nat.succ_add 3 (i-3)).trans (congrArg BZ (EF (CQ (Bz k))))];exact w
 mem:=λ x Q=>by
  have z:L.drop 4∈Nf L a:=A8 _ Ad;have A:L.take 3∈Nf L a:=A8 _ (Af _ (Af _ Ad));obtain⟨i,s⟩:=Iy.mp Q;have V:i<6:=C▸(Co.mp s).1;by_cases h:i<3
  ·exact⟨_,A,Cq (i:=i) (by rw[Du h];exact s)⟩
  by_cases k:i<5
  ·exact⟨_,(A8 _ (Af _ Ad)),Cq (i:=i-2) (by rw[F6,EF (CQ (Bz h)),Du k];exact s)⟩
  ·exact⟨_,z,Cq (i:=i-4) (by rw[F6,EF (CQ (Bz k))];exact s)⟩
theorem Vs {r:Nat->Nat->Bool}(P:PO r)(X:jH a (EO r))(s:D8 r o)(z:o.length=6):MC (o.reverse.map nm) (Nf (o.reverse.map nm) a):=by
 refine tP (by rw[Al,FE,z]) (VF (cJ s.nd) λ x H=>s.lt x (E0.mp H)) λ p A=>?_;have C:=X.six p A;have E:=CZ ((s.et z).mpr C.1);have:=(s.at_ E).2.2 p.2 C.2 (by rw[Ef];exact((X.jn p.1 p.2).mp A));obtain⟨j,w⟩:=Iy.mp this;have k:j<o.idxOf p.1:=by
  obtain⟨h,_⟩:=Co.mp w;simp only[Dd] at h;exact Ao h (EJ _ _)
 replace w:=Eq.trans (Eq.symm (Du k)) w
 have:=((Nj k w (by rw[AA E,Ef])).reverse).map nm;exact this
end
def K7 (h:List Nat):List Nat:=Il (EO (rI h)) 6
def PR (h:List Nat):PV:=.dict (I8 0 (K7 h))
def tT (h:List Nat):A5:=[("names",.aa (Bj Gp)),("pairs",.aa (IA (GE h))),("nexts",.aa (Hi (N8 h))),("labels",.aa (PR h))]
theorem Jg (h:List Nat):(K7 h).length=6:=LH (Rl h) 6 (An _)
theorem MG (h:List Nat):D8 (rI h) (K7 h):=cC (Rl h) 6 (An _)
theorem VD (k:List Nat):jH (QP k) (EO (rI k)) where
 jn:=λ a b=>Sy
 nd:=by
  refine List.pairwise_flatMap.mpr ⟨λ a z=>?_,List.nodup_range.imp λ{a b} h x o y s e=>?_⟩
  ·exact Ob (KC _ (iQ k a)) λ x _ y _ e=>congrArg Prod.snd e
  ·obtain⟨A,_,rfl⟩:=AH.mp o;obtain⟨C,_,rfl⟩:=AH.mp s;exact h (congrArg Prod.fst e)
 six:=λ p w=>(Rl k).six _ _ (Oh (Sy.mp w))
 len:=O4 k
def mZ (h:List Nat):List PV->Option PV:=JK [Bj Gp,Hi (ZL (QP h))] (PR h)
def CN (h:List Nat):GK:=⟨λ x=>if x="_law_numbered" then Ab (mZ h) else Ah,sK,λ _=>Ah⟩
theorem V! {b:Bd->Option Ae}(I:GT w h)(T:Top d a b mg mb h)(k:Cn d=Ag):E2 (W1 w h) (CN c) 5 mg mb:=mY I T k rfl (by exact λ _=>rfl) λ x g e=>
 Le e (Ll (OA I T) ((Ej I T _).trans rfl) (V9 I T k (Rl c) (VD c))) λ e=>(by contradiction)
theorem K! (o:E2 (W1 w h) (CN a) k mg mb)(s:CY k A)(B:Kr w h 188 z N):QG w h A z N (exec (E3 19) z) (zZ a) (.next (tT a)):=by
 have e:tT a=Bu (zZ a) "labels" (.aa (PR a)):=rfl;have C:(CN a).fn "_law_numbered"=Ab (mZ a):=by
  show(if("_law_numbered":As)="_law_numbered" then Ab (mZ a) else Ah)=_;exact if_pos rfl
 have E:mZ a [Bj Gp,Hi (N8 a)]=Ab (PR a):=MI _ _;rw[e]
 conv in E3 19=>whnf
 exact By o s B (x:="labels") (d:=PR a) (.fn rfl C (.cons (.aa (d:=Bj Gp) rfl) (.cons (.aa (d:=Hi (N8 a)) rfl) .nil rfl) rfl) E) rfl (by rfl)
theorem KY.je {b:List (As×PV)}(h:O.lookup x=Ab (.aa (.dict b)))(o:b.length≠0):KY C V O (.Compare (.Name x d) [.Eq] [.Dict [] [] f] g) Av:=λ c=>.mk λ Q E s S=>
 DB (S.F.name h λ v w=>iU.dict c s S.F S.G _ _ λ D n p q k l z=>by
  obtain⟨a,A,rfl,H,r,N,t,W,u⟩:=(w).ae k |>.aj;obtain⟨y,Z,i,_,j,B⟩:=z;have m:A.length=b.length:=by simpa using congrArg BR W
  refine keq_eq (r:=Av) N i H Z (Ao (Az (AS _ _) c.hA.units) (AO rfl)) (λ e=>absurd (m.symm.trans (e.trans (by simpa using congrArg BR j))) o) ?_;rw[H9];exact CB ((S.aq k l).out rfl)) (IB rfl)
theorem K' (o:GW w h C k mg mb)(s:CY k A)(B:Kr w h 188 z N):QG w h A z N (exec (E3 20) z) (tT a) (.next (tT a)):=by
 conv in E3 20=>whnf
 exact GB o s B (.je rfl (by rw[Uh,Jg];decide)) FT
def HT (h:List Nat):List As:=(K7 h).reverse.map nm
def ZR (h:List Nat):A5:=[("names",.aa (Bj Gp)),("pairs",.aa (IA (GE h))),("nexts",.aa (Hi (N8 h))),("labels",.aa (PR h)),("line",.aa (Bj (HT h)))]
def nA (h:List Nat)(a b:As):Int:=((h.idxOf (Kf b)+1:Nat):Int)-((h.idxOf (Kf a)+1:Nat):Int)
theorem WZ:∀a∈Gp,∃i∈Ap 6,a=nm i:=by decide+kernel
theorem SR:∀i<6,Gp.getD i Cb=nm i:=by decide+kernel
theorem dH {b:Bg}{g:Bd->Option Ae}{φ:A5}(I:GT w h)(T:Top i e g mg mb h)(L:LE w h A z N)(o:(f,("law.<locals>.<lambda>":As))∈uF)(d:∀z,defaultsOf a z=([],[]))(t:ZE a c b ps)(s:(b.names.map (·.1)).Nodup)
 (C:b.names.all (λ p=>!(p.2== .free)||(Fe w 188).scope.names.lookup p.1==Ab .cell)=Ag) (E:∀x k,φ.lookup x=Ab k->b.names.lookup x=Ab .free/\D5 x=Ag/\O.lookup x=Ab k/\∃d,k=.aa d):Mx (W1 w h) mg (Fe w 188).scope z O a c b f ps φ:=by
 obtain⟨n,rfl⟩:=L.he;refine⟨⟨187,185,uF,"law.<locals>.<lambda>",vM,by decide,XC I T (by decide),by kernel_rfl,o,by kernel_rfl⟩,d _,t,s,λ p H Q=>?_,E⟩;have:=AR.mp C p H;rw[Q] at this;exact BQ (this)
theorem W9 (h:List Nat)(k:i<6):EW (PR h) (.str (nm i))=Ab (.int (((K7 h).idxOf i+1:Nat):Int)):=by
 have:=RC (o:=K7 h) (MG h).lt k ((D8.et (MG h) (Jg h)).mpr k) 0;rw[Ct] at this;exact this
theorem lY:∀a∈Gp,∀b∈Gp,Dc C PP.2.2.1 ((["one","other"]:List As).zip [Dt.aa (.str a),.aa (.str b)]++([("labels",Dt.aa (PR c))]:A5)) PP.2.1 (.int (nA (K7 c) a b)):=λ a o b s=>by
 obtain⟨i,h,rfl⟩:=WZ a o;obtain⟨j,k,rfl⟩:=WZ b s;have h:=Au.mp h;have k:=Au.mp k;unfold nA;rw[GN i h,GN j k];have w:=W9 c h;have z:=W9 c k;generalize PR c=d at*
 conv in PP.2.1=>whnf
 exact .am (.sub (.aa rfl) (.aa rfl) (λ _ _=>rfl) z) (.sub (.aa rfl) (.aa rfl) (λ _ _=>rfl) w) (Vm _ _)
theorem dM:ZE PP.1 PP.2.1 PP.2.2.1 ["one","other"]:=by
 refine⟨rfl,rfl,rfl,?_,?_,by decide,λ h k w z A o s=>?_⟩
 ·decide+kernel
 ·decide+kernel
 ·obtain⟨a,b,rfl⟩:=Nr s
  conv in PP.1=>whnf
  rfl
theorem O' {c:Bd->Option Ae}(I:GT w h)(T:Top d b c mg mb h)(l:Cn d=Ag)(L:LE w h A z N)(D:U7 w h A z N r (ZR a)):U7 w h A z N (E3 21::r) (tT a):=.mk λ s Q E S G=>by
 have b1:=Kz;have B:E2 (W1 w h) C0 2 mg mb:=ZO I T l;obtain⟨o,J,m,M,R⟩:=(V6 I T).obj;have U:=dM;have Y:(PP.2.2.1.names.map (·.1)).Nodup:=by decide+kernel
 have n:PP.2.2.1.names.lookup ("labels":As)=Ab .free:=rfl;have hp:(PP.2.2.2,("law.<locals>.<lambda>":As))∈uF:=Ad;have t:∀p,H7 6 (pN (K7 a)) p->(p.map λ i=>Gp.getD i Cb)=HT a:=λ p u=>by
  rw[lZ (MG a) (Jg a) u];exact EM λ i O=>SR i ((MG a).lt i (E0.mp O))
 have v:∀i j,i<Gp.length->j<Gp.length->pN (K7 a) i j=decide (nA (K7 a) (Gp.getD i Cb) (Gp.getD j Cb)<0):=λ i j O f=>by
  have O:i<6:=O;have f:j<6:=f;unfold nA pN;rw[SR i O,SR j f,GN i O,GN j f]
 have eZ:ZR a=Ek ["names","pairs","nexts","labels","line"] (Bu (tT a) "line" (.aa (.list ((HT a).map .str)))):=rfl;have hZ:(tT a).lookup ("labels":As)=Ab (.aa (PR a)):=rfl
 conv in E3 21=>whnf
 refine Ay (YB B (L.hA.ai (by omega)) L.B S (wF I T B) ((Ej I T _).trans rfl) ⟨o,_,J,m,M,R⟩ T.nolimit (dH I T L (ps:=["one","other"]) (φ:=[("labels",.aa (PR a))]) hp (λ _=>rfl) U Y rfl λ x sl g=>?_) rfl (ns:=Gp) rfl (by decide) (rW (K7 a) 6) (lY) v rfl rfl rfl λ p u V C k kd W=>?_)
 ·replace g:=J9.symm.trans g
  split at g
  ·rename_i q;subst q;cases g;exact⟨n,by decide+kernel,hZ,_,rfl⟩
  ·contradiction
 ·simp only[t p u] at k;exact D.go {s with heap:=V,toks:=C} Q E (k.aw (by rw[eZ];exact EN)) λ Z H y e=>G Z H y (Aa W e)
theorem uY (U:E2 W C k mg mb)(Y:CY k A)(F:FI W V z Z X s.heap O)(G:Gd W s)(n1:Cm c=Ag)(n2:Cm b=Ag)(n3:Cm a=Ag)(f1:HF C V O c d)(f2:HF C V O b e)(f3:HF C V O a f)
 (hQ:∀R tk v S,BB W s.heap R->s.toks<=tk->S.Nodup->(∀r∈S,s.heap.get? r=Ah)->FJ W X R S [d,e,f]->Rp W X R v (.list (Hx S))->Q v {s with heap:=R,toks:=tk}):Aw W.M A (eval (.List [c,b,a] p) z) Q E s:=by
 rw[Mr,Bk p z _ (by show(Cm c&&(Cm b&&(Cm a&&Ag)))=Ag;rw[n1,n2,n3];rfl)];refine Ac (A0 (Ac ?_));refine AE (f1 ⟨W,A,z,Z,X,_,mg,mb,U,Y⟩ s F G _ _ λ r1 i u d1 w j a1=>?_);have l:=F.ae w;have m:=G.step w j;refine AE (f2 ⟨W,A,z,Z,X,_,mg,mb,U,Y⟩ {s with heap:=i,toks:=u} l m _ _ λ T g x d2 h n a2=>?_);have t:=l.ae h;refine AE (f3 ⟨W,A,z,Z,X,_,mg,mb,U,Y⟩ {s with heap:=g,toks:=x} t (m.step h n) _ _ λ r3 D y d3 H I a3=>A6 ?_);have J:BB W s.heap g:=w.trans h;have o1:∃o,i.get? r1=Ab o:=by obtain⟨o,ho,_⟩:=a1.some;exact⟨o,ho⟩
 have o2:∃o,g.get? T=Ab o:=by obtain⟨o,ho,_⟩:=a2.some;exact⟨o,ho⟩
 refine Dq.newList (X:=X) (s:={s with heap:=D,toks:=y}) (t.ae H).an (Pv [r1,T,r3]) (by show 3<=B2;decide+kernel) _ _ λ v L B N M rv=>?_;have b:s.heap.get? T=Ah:=Hu w d2;have a:s.heap.get? r3=Ah:=Hu J d3;refine hQ L B v [r1,T,r3] ((J.trans H).trans N) (Aa j (Aa n (Aa I M))) ?_ (λ r hr=>?_) ?_ rv
 ·simp[(λ q=>DM d2 o1 q),(λ q=>DM d3 (BL h o1) q),(λ q=>DM d3 o2 q)]
 ·simp only[Ak,BH,or_false] at hr;rcases hr with rfl |rfl |rfl
  ·exact d1
  ·exact b
  ·exact a
 ·refine .cons (DE G.ao d1) (λ q=>DM d1 (F.an _ q) rfl) (a1.bg (h.trans (H.trans N))) (.cons (DE G.ao b) (λ q=>DM b (F.an _ q) rfl) (a2.bg (H.trans N)) (.cons (DE G.ao a) (λ q=>DM a (F.an _ q) rfl) (a3.bg N) .nil))
theorem XS.drop (S:XS W V z N (Y++Z) (Y++X) s O)(h:∀y d,O.lookup y≠Ab (.own d))(o:∀a∈AW z,a∈Z)(w:∀a∈Z,a∈X)(A:∀a∈Y,a∉X):XS W V z N Z X s O:=by
 have less:∀b∈X,b∈Y++X:=λ b N=>AV _ N;refine⟨S.F.re o w (λ a k=>S.F.alive a (less a k)) (λ _ _=>rfl) (λ y C E=>?_) (λ y c d e H f=>absurd H (h y d)),S.le,S.tk,λ a k Q=>S.fr a (less a k) λ q=>?_,S.fc⟩
 ·refine⟨C,E,λ v g r=>?_⟩;cases C with
  |aa d=>exact Rp.ai less r
  |av u=>exact r
  |cg u d=>exact⟨r.1,Rp.ai less r.2⟩
  |own d=>exact absurd E (h y d)
 ·rcases AL.mp q with q |q
  ·exact A a q k
  ·exact Q q
theorem wH (Gk:E2 W C k mg mb)(B:XB W V z N)(g3:ZG W A z N u)(S:XS W V z N Z X s O){i:Nat->CE}{Kc:Nat->Nat}(fo:Gw W x fd ["sequences"] (Qq L i Kc))(d4:mg "_c3_merge"=Ab (.ref x))(T:XQ fd.scope L i)
 (d5:∀n,Dk [.Name "sequences" (i 23)] (.ListComp (.Name "s" (i 24)) [⟨.Name "s" (i 25),.Name "sequences" (i 26),[.Name "s" (i 27)],0⟩] L (i 28)) (i 29).line (B5 fd n x)=pure Ag) (d6:mg "RuntimeError"=Ah/\mb "RuntimeError"=Ab (.type "RuntimeError")) (hA:CY (k+1) A)
 (b2:∀y d,O.lookup y≠Ab (.own d)) (b8:∀a∈AW z,a∈Z) (b9:∀a∈Z,a∈X)
  (n1:Cm m=Ag) (n2:Cm p=Ag) (n3:Cm D=Ag) (f1:HF C V O m M) (f2:HF C V O p R) (f3:HF C V O D U)
  {G:List (List As)} (g:uI WV V O l Y t it I G) (hz:3+G.length<=B2) (hf:fuel<=B2) {f:List As} (e:Qp fuel ([M,R,U]++G) []=Ab (Ab f,j))
  (hl:O.lookup lx=Ab (.aa (.list (f.map .str)))) (d7:NU (.list (f.map .str)) (.list (f.map .str))=Ab Ag) (g1:CX V "_c3_merge"=Ag) {J:FG->Aq->Prop}
 (hQ:∀h' tk,XS W V z N Z X {s with heap:=h',toks:=tk} O->s.toks<=tk->J .next {s with heap:=h',toks:=tk}):
 Aw W.M A (exec (.If (.Compare (.Call (.Name "_c3_merge" q1) [.BinOp (.List [m,p,D] q2) .Add (.ListComp Y [⟨t,it,I,0⟩] l q3) q4] [] q5) [.NotEq] [.Name lx q6] q7) bd [] q8) z) J E s:=by
 have c0:=hA.ai (Bq _);obtain⟨of,d8,d9,c4,c5⟩:=fo.obj;refine KT (DB ?_ (IB rfl));refine B4 (CH Gk S.F (S.gd B) g1 (.inl d4) ?_);refine Dm (by rfl) ?_;refine Cj (o:=of) (fd:=fd) (Bf (AE (LX (uY Gk c0 S.F (S.gd B) n1 n2 n3 f1 f2 f3 λ c6 e0 v1 H a6 a7 e4 e5 R1 ra=>?_))));have a3:=S.ae a6 a7;refine P7 Gk c0 g a3.F (a3.gd B) λ D2 a1 a8 h m2 e6 Q a9 p e7 c7 R2=>?_;have c8:=a3.ae Q a9;have b3:D2∉X:=λ q=>by obtain⟨o,ho⟩:=a3.F.an D2 q;exact Do e6 ho
 have Nr:=R2.len;have QS:=R1.len;have rb:Rp W X a1 (.ref D2) (.list (Hx h)):=.list p b3 (by show(h.map BK).length<=B2;rw[Al,Nr];exact Aa (Aj _ 3) hz) (by
  exact Pv h)
 have b4:GI .Add (.list (Hx H)) (.list (Hx h))=Ab (.list (Hx (H++h))):=by
  show(if(Hx H).length+(Hx h).length<=B2 then Ab (PV.list (Hx H++Hx h)) else Ah)=_;rw[if_pos (by rw[Al,Al,QS,Nr];exact hz),<-TV]
 refine Qu (s:={s with heap:=a1,toks:=a8}) ⟨_,rfl⟩ (ra.ae Q) rb b4 _ _ λ v b0 b7 a2 b5 rv=>A6 ?_;obtain⟨rfl,vs,e8,e9,z3,rl⟩:=rv;have f0:vs=((H++h).map BK).toArray:=by rw[<-WP rl]
 (try clear z3;try clear rl;try clear e8;try clear v;try clear rv;try clear b4;try clear rb;try clear g5;try clear b3;try clear c8;try clear a8;try clear m2)
 subst f0;have a4:=a6.trans (Q.trans a2);have U5:∀r∈H,∃o,c6.get? r=Ab o:=λ r hr=>by obtain⟨_,_,c,rc⟩:=R1.mem r hr;obtain⟨o,ho,_⟩:=rc.some;exact⟨o,ho⟩
 have c9:∀r∈h,∃o,a1.get? r=Ab o:=λ r hr=>by obtain⟨_,_,c,rc⟩:=R2.mem r hr;obtain⟨o,ho,_⟩:=rc.some;exact⟨o,ho⟩
 have dd:∀r∈H++h,s.heap.get? r=Ah/\∃o,b0.get? r=Ab o:=λ r hr=>by
  rcases AL.mp hr with q |q
  ·exact⟨e5 r q,BL (Q.trans a2) (U5 r q)⟩
  ·exact⟨Hu a6 (c7 r q),BL a2 (c9 r q)⟩
 have nd:(H++h).Nodup:=by
  rw[HX];refine⟨e4,e7,λ a ha b N q=>?_⟩;obtain⟨o,ho⟩:=U5 a ha;simp only[q,(c7 b N)] at ho;contradiction
 have f4:a1.objs.size∉H++h:=λ q=>by
  have fr:=Ci a1;rcases AL.mp q with q |q
  ·obtain⟨o,ho⟩:=BL Q (U5 _ q);exact Do fr ho
  ·obtain⟨o,ho⟩:=c9 _ q;exact Do fr ho
 obtain⟨c,hc,d0⟩:=((R1.bi λ b o e n hd=>⟨D6 (Q.trans a2) e hd,n⟩).append (R2.bi λ b o e n hd=>⟨D6 a2 e hd,n⟩)).fn nd;have a5:XS W V z N ((H++h)++Z) ((H++h)++X) {s with heap:=b0,toks:=b7} O:=
  ⟨S.F.ee (S.gd B).ao a4 dd,S.le.trans a4,Aa S.tk (Aa a7 (Aa a9 b5)),λ a ha hz=>by
    rcases AL.mp ha with q |q
    ·exact absurd (A8 _ q) hz
    ·exact S.fr a q λ q'=>hz (AV _ q'),S.fc.bg a4⟩
 have nX:∀r∈H++h,r∉X:=λ r hr q=>DM (dd r hr).1 (S.F.an r q) rfl;have f5:∀r∈H++h,∀o vs,b0.get? r=Ab o->o.data≠.fields vs:=λ r hr o vs e=>by
  obtain⟨us,n,m,_⟩:=d0 r hr;obtain rfl:=A4 m e;simp
 refine⟨⟨(B.ao.trans a5.le).keep d8 c4 c5,d9⟩,?_⟩;refine oA Gk fo T d5 d6 hA g3.fr (g3.stack a5) (a5.gd B) e9 f4 nd (by rw[AQ,QS,Nr];exact hz) (λ r hr=>⟨DE (S.gd B).ao (dd r hr).1,d0 r hr⟩) hf (by rw[hc];exact e) (λ g4 ho a d1 f6 ha d2 b1 f7 d3=>?_) λ ho=>(by contradiction);cases ho;have f8:∀r∈H++h,∃o,d1.get? r=Ab o:=λ r hr=>by obtain⟨c',_,h2⟩:=d3;obtain⟨o,ho,_⟩:=(h2 r hr).some;exact⟨o,ho⟩
 have b6:=XS.drop (a5.over (λ r hr=>⟨A8 _ hr,λ q=>nX r hr (b9 _ (b8 _ q)),Hu S.le (dd r hr).1,f5 r hr⟩) d2 f8 b2 b1) b2 b8 b9 nX;have aX:a∉X:=λ q=>DM (Hu a4 ha) (S.F.an a q) rfl;refine FI.name b6.F hl λ w rw=>?_;refine Dq.of (P:=λ v' _=>v'=.bool Av) (λ J E hQ=>HA (op:=.NotEq) (Az (AS _ _) hA.units) (f7.rp aX) (.inl rw) (show(NU (.list (f.map .str)) (.list (f.map .str))).map (!·)=Ab Av by rw[d7];rfl) λ f9=>hQ _ _ f9 (.refl _) rfl) _ _ λ v' h5 g0 k5 l5 e=>?_
 subst e;refine CB (BN ?_);exact hQ h5 g0 (b6.ae k5 l5) (Aa a7 (Aa a9 (Aa b5 (Aa b1 l5))))
section
theorem Yf {kk:Nat}{M:List PV}{ps:List As}(Gk:E2 W C k mg mb)(hA:CY (k+2) A)(B:XB W V z N)(f4:ZG W A z N I)(S:XS W V z N Z X s O)(R:XI W mg mb Y)(d0:mg "reduce"=Ab (.ref Y))(b7:W.h0.NoLimit)
 (L:Mx W mg V z O j c u m ps φ) (d3:ps.length=2) (b8:Dc C V O p (.list M)) (d4:Cm p=Ag) (n1:Cm D=Ag) (n2:Cm G=Ag) (h1:Dc C V O D d1) (h2:Dc C V O G d2)
 {st:Nat->PV} (d5:st 0=.ba [d1,d2]) (d6:∀i x,M[i]? =Ab x->Dc C u (ps.zip [.aa (st i),.aa x]++φ) c (st (i+1))) (d7:Xc y=Ag) (d8:GH V y (st M.length) O=Ab T) (g1:CX V "reduce"=Ag)
  (hw:Dk [y] (.Call (.Name "reduce" q2) [.Lambda j c u m,p,.Tuple [D,G] kk q7] [] q8) U.line z=pure Av) (d9:swappedStores [y] (.Call (.Name "reduce" q2) [.Lambda j c u m,p,.Tuple [D,G] kk q7] [] q8) z=pure Ah) {a0:FG->Aq->Prop} (hQ:KA W V z N Z X s (.next T) a0):
 Aw W.M A (exec (.Assign [y] (.Call (.Name "reduce" q2) [.Lambda j c u m,p,.Tuple [D,G] kk q7] [] q8) U) z) a0 E s:=by
 have b3:=hA.ai (AS k 2);have R0:=R;obtain⟨e0,_,_,b9⟩:=R0;obtain⟨e3,c0,e4,c1,c2⟩:=b9.obj;refine CA d7 hw d9 (B4 (CH Gk S.F (S.gd B) g1 (.inl d0) ?_));refine Dm (by show(Ag&&(Cm p&&(Ag&&Ag)))=Ag;rw[d4];rfl) ?_;refine Cj (o:=e3) (fd:=e0) (Bf (AE (Ue Gk L S.F (S.gd B) λ c3 b4 f a6 a7 a8 cX e5=>?_)));have a2:=S.ae a7 a8;refine AE (b8 ⟨W,A,z,Z,X,_,mg,mb,Gk,b3⟩ {s with heap:=c3,toks:=b4} a2.F (a2.gd B) _ _ λ tv f5 e6 a3 a9 rt=>?_);have Q:=a2.ae a3 a9;refine AE (Zf Gk b3 Q.F (Q.gd B) n1 n2 h1 h2 λ b0 e7 t a1 b1 ht rT=>?_);have w:=Q.ae a1 b1;refine A6 ⟨⟨((B.ao.trans Q.le).trans a1).keep c0 c1 c2,e4⟩,?_⟩;have a4:=((e5 X λ a ha=>ha).ae a3).ae a1;obtain⟨c4,pr,pm,cd,ct,e8,_⟩:=a4.obj;have St:QA W (k+1) Ah X (.ref f) M (Iu b0 Ah) (λ i v h=>Rp W X h v (st i)):=by
  refine⟨λ i v h h' hk r=>r.bi λ b o e n hd=>⟨hk b o e hd,n⟩,λ i v h _ B q=>(nomatch q),⟨f,VR "<lambda>" c4 pr c u a6 pm cd ct,rfl,λ h H=>⟨_,H.keep e8 (by simp) (by simp),rfl⟩⟩,λ A' s' i v e x l e9 f6 f7 G' H' f0 hJ rx Q' E' f1=>?_⟩;have c5:=H';have up:∀{v d},Rp W X s'.heap v d->Rp W (a6.map (·.2)++X) s'.heap v d:=λ r=>r.ai λ a ha=>(AL.mp ha).elim (cX a) id
  refine Uf Gk (a4.ae c5) b7 e9 G' (λ b N=>⟨(w.F.alive b N).1,BL c5 (w.F.alive b N).2⟩) (.aa (up hJ) (.aa (up rx) .nil)) d3.symm (d6 i x f0) _ _ λ v' h' tk k l' r=>?_;exact f1 v' h' tk k l' (r.ai λ a ha=>AV _ ha)
 have f2:=hA;refine Oo (ob:=Ah) Gk R f2 (w.gd B) w.F.alive (rt.ae a1) (λ B' q=>nomatch q) f4.fr (f4.stack w) ⟨DE (Q.gd B).ao ht,(by obtain⟨_,_,_,e,g,_⟩:=rT.aj;cases e;exact⟨_,g⟩:∃o,b0.get? t=Ab o)⟩ St (by rw[d5];exact rT) λ f8 f3 v c6 b2 J=>?_;have a5:=c6;refine GY b3.handled B (w.ae a5 b2) d8 J λ c7 b5 c8 b6 c9=>?_;exact hQ c7 b5 c8 ((a7.trans (a3.trans (a1.trans a5))).ap.trans (b6.ap λ a ha=>S.F.br ha)) (Aa a8 (Aa a9 (Aa b1 (Aa b2 c9))))
end
def EV.comp (l:EV):Expr×FR×Bg:=(l.x 0,l.gs.getD 0 default,l.sc)
def Yl:Expr×FR×Bg:=(((((Ir (E3 22)).e 0).e 0).e 1).e 1).comp
theorem uI.all {c:Type}{l:List c}{g:c->PV}(f:c->List As)(k:OG C V O e (l.map g))(o:Ei V b=Ag)(s:(FS t).all (λ x=>((Br b O).lookup x).isNone)=Ag)
 (w:∀a∈l,∃h,Hl b t (g a) (Br b O)=Ab h/\HF C b h d (f a)) (z:l.length<=B2):uI C V O b d t e [] (l.map f):=
 ⟨c,l,g,λ _=>Ag,f,by rw[Qc],o,k,s,λ a A=>by obtain⟨r,x,y⟩:=w a A;exact⟨r,x,.nil,λ _=>y⟩,z⟩
theorem O! {a:List PV}(h:a.length=6):DV (.list a) (Ab 4) Ah Ah=Ab (.list (a.drop 4))/\DV (.list a) (Ab 2) (Ab 5) Ah=Ab (.list ((a.take 5).drop 2))/\DV (.list a) Ah (Ab 3) Ah=Ab (.list (a.take 3)):=by
 exact vH (P:=λ a=>DV (.list a) (Ab 4) Ah Ah=Ab (.list (a.drop 4))/\DV (.list a) (Ab 2) (Ab 5) Ah=Ab (.list ((a.take 5).drop 2))/\DV (.list a) Ah (Ab 3) Ah=Ab (.list (a.take 3))) (λ _ _ _ _ _ _=>⟨by kernel_rfl,rfl,rfl⟩) a h
theorem N? {c:Bd->Option Ae}(I:GT w h)(T:Top d b c mg mb h)(Z:Cn d=Ag)(L:LE w h A z N)(m:U7 w h A z N r (ZR a)):U7 w h A z N (E3 22::r) (ZR a):=.mk λ s Q E S n=>by
 have B:=Kz;have q:E2 (W1 w h) C0 2 mg mb:=ZO I T Z;have f:=oB;have l:=vU I T;simp only[f] at l;obtain⟨i,e⟩:=hH (HT a) (Nf (HT a) (QP a)) [] 7 (by unfold HT;rw[Al,FE,Jg];decide) (Vs (Rl a) (VD a) (MG a) (Jg a));rw[D1] at e;have t:((HT a).map PV.str).length=6:=by unfold HT;rw[Al,Al,FE,Jg]
 obtain⟨u,v,x⟩:=O! t;have y:=O4 a;have g:uI WV (Fe w 188).scope (ZR a) Yl.2.2 Yl.1 Yl.2.1.target Yl.2.1.iter [] ((QP a).map λ(p:Nat×Nat)=>[nm p.1,nm p.2]):=by
  refine .all (g:=λ(p:Nat×Nat)=>bR (nm p.1,nm p.2)) (λ(p:Nat×Nat)=>[nm p.1,nm p.2]) ?_ rfl rfl (λ p D=>?_) (Aa y (of_decide_eq_true (_root_.id (Cy Ag))))
  ·conv in Yl.2.1.iter=>whnf
   refine .list (.aa ?_) rfl;have:Hi (N8 a)=.list ((QP a).map λ(p:Nat×Nat)=>bR (nm p.1,nm p.2)):=by unfold Hi N8;rw[Be];rfl
   rw[<-this];kernel_rfl
  ·refine⟨[("b",.aa (.str (nm p.2))),("a",.aa (.str (nm p.1)))],rfl,?_⟩
   conv in Yl.1=>whnf
   exact .own (.list (.cons (.aa rfl) (.cons (.aa rfl) .nil rfl) rfl) (by show 2<=B2;omega))
 conv in E3 22=>whnf
 unfold Nf at e;refine Ay (wH q L.B L.O S l ((Ej I T _).trans rfl) zU wG ⟨(Ej I T _).trans rfl,PD T (by decide+kernel) rfl⟩ (L.hA.ai (by omega)) (SP rfl) (λ _ h=>h) (λ _ h=>h) rfl rfl rfl
  (.slice (.aa rfl) (.int .int) .no .no (u.trans (by rw[List.map_drop]))) (.slice (.aa rfl) (.int .int) (.int .int) .no (v.trans (by rw[List.map_drop,Hm]))) (.slice (.aa rfl) .no (.int .int) .no (x.trans (by rw[Hm]))) g (by rw[Al];omega) (fuel:=7) (by omega) e (lx:="line") rfl (NC _) rfl λ C k H O=>?_)
 exact m.go {s with heap:=C,toks:=k} Q E H λ V o j W=>n V o j (Aa O W)
variable {i:Nat} in
def jD (h:List (As×As))(p:List PV×List As):Nat->List PV×List As
 |0=>p
 |i+1=>Kw h (jD h p i)
section
theorem fC (p:List PV×List As)(i:Nat):jD a (Kw a p) i=jD a p (i+1):=by
 induction i with
 |zero=>rfl
 |succ i h=>show Kw a _=Kw a _;rw[h]
theorem YD (l:List As):(W6 a l).length<=l.length:=AX _ _
theorem Xh (p:List PV×List As)(i:Nat):(jD nx p i).1.length<=p.1.length+i/\(jD nx p i).2.length<=p.2.length:=by
 induction i with
 |zero=>exact⟨An _,An _⟩
 |succ i h=>
  refine⟨?_,Aa (YD _) h.2⟩;show(if _ then _ else _:List PV).length<=_;split
  ·exact BD h.1
  ·rw[AQ];exact Bv h.1
def jC (h:List (As×As))(a b:As):Bool:=decide ((a,b)∈h)
theorem ZV (l:List As)(n:As):(ZW b l).any (·==n)=l.any λ a=>jC b a n:=by
 rw[BJ,B9,B9];constructor
 ·rintro⟨x,o,e⟩;obtain⟨p,s,rfl⟩:=AH.mp o;obtain⟨w,z⟩:=Ax.mp s;obtain⟨a,h,k⟩:=B9.mp z;have k:=BQ k;have e:=BQ e;subst k;subst e;exact⟨_,h,decide_eq_true w⟩
 ·rintro⟨a,h,e⟩;exact⟨n,AH.mpr ⟨(a,n),Ax.mpr ⟨of_decide_eq_true e,B9.mpr ⟨a,h,beq_self_eq_true _⟩⟩,rfl⟩,beq_self_eq_true _⟩
theorem Uo (l:List As):Ox a l=Gc (jC a) l:=by
 delta Ox Gc
 simp only[ZV]
theorem cY (l:List As):W6 a l=Gb (jC a) l:=by
 delta W6 Gb
 rw[Uo];refine Cs λ x _=>?_;congr 1;rw[BJ,B9,E8];exact⟨λ⟨y,k,e⟩=>BQ e▸k,λ h=>⟨x,h,beq_self_eq_true _⟩⟩
theorem YV (i:Nat):∀p:List PV×List As,(jD nx p i).1.length=p.1.length+(DW (jC nx) i p.2).1/\(jD nx p i).2=(DW (jC nx) i p.2).2:=by
 induction i with
 |zero=>exact λ p=>⟨rfl,rfl⟩
 |succ i o=>
  intro p;obtain⟨h,k⟩:=o (Kw nx p);rw[fC] at h k;have e:(Kw nx p).2=Gb (jC nx) p.2:=cY _;rw[e] at h k;refine⟨h.trans ?_,k⟩;show(if(Ox nx p.2).isEmpty then p.1 else p.1++[Bj (Ox nx p.2)]).length+_=p.1.length+(if(Gc (jC nx) p.2).isEmpty then _ else _);rw[Uo];split
  ·rfl
  ·rw[AQ];exact(EZ _ _ _).trans (congrArg (p.1.length+·) (Ev 1 _))
end
theorem kR (k:List Nat)(w:a<6)(z:b<6):jC (N8 k) (nm a) (nm b)=EO (rI k) a b:=by
 rw[BJ];unfold jC;rw[decide_eq_true_iff,<-Sy];unfold N8;constructor
 ·intro h;obtain⟨⟨x,y⟩,o,e⟩:=AH.mp h;have s:=(VD k).six _ o;injection e with A C;obtain rfl:=K9 s.1 w A;obtain rfl:=K9 s.2 z C;exact o
 ·exact λ h=>AH.mpr ⟨(a,b),h,rfl⟩
theorem VX (k:List Nat):(jD (N8 k) ([],(K7 k).reverse.map nm) 6).1.length=(Gj (Dw (GE k)) 64).getD 63 0/\(jD (N8 k) ([],(K7 k).reverse.map nm) 6).2=[]:=by
 have o:∀x∈(K7 k).reverse,x<6:=λ x C=>(MG k).lt x (E0.mp C);have h:=YV (nx:=N8 k) 6 ([],(K7 k).reverse.map nm);have b:=(MG k).kf (Rl k) (Jg k) (cH k);generalize (Gj (Dw (GE k)) 64).getD 63 0=t at*;have m:=RH (nx:=jC (N8 k)) 6 (K7 k).reverse λ a s b w=>K9 (o a s) (o b w);simp only[Ov 6 (K7 k).reverse λ a s b w=>kR k (o a s) (o b w),b] at m;have z:=h.1;have A:=h.2;dsimp only at z A;rw[m] at z A;exact⟨z.trans (Ct _),A⟩
def Tp (h:List Nat)(i:Nat):List PV×List As:=jD (N8 h) ([],HT h) i
def wW (h:List Nat):A5:=[("pairs",.aa (IA (GE h))),("hours",.aa (.list (Tp h 6).1)),("left",.aa (Bj (Tp h 6).2))]
theorem YC (h:List Nat):(HT h).length=6:=by unfold HT;rw[Al,FE,Jg]
theorem dL:ZE Nt.1 Nt.2.1 Nt.2.2.1 ["state","turn"]:=by
 refine⟨rfl,rfl,rfl,?_,?_,by decide,λ h k w z A o s=>?_⟩
 ·decide+kernel
 ·decide+kernel
 ·obtain⟨a,b,rfl⟩:=Nr s
  conv in Nt.1=>whnf
  rfl
theorem mR (p:List PV×List As)(h:p.1.length<=100)(k:p.2.length<=100)(x:PV):Dc (CL (Nd a)) Nt.2.2.1 ((["state","turn"]:List As).zip [Dt.aa (Rf p),.aa x]++([("nexts",Dt.aa (Hi (N8 a)))]:A5)) Nt.2.1 (Rf (Kw (N8 a) p)):=by
 have o:(CL (Nd a)).fn "_law_hour"=Ab (RM (N8 a)):=by
  show YZ (Nd a) "_law_hour"=_;unfold YZ;simp;rfl
 conv in Nt.2.1=>whnf
 exact .fn rfl o (.cons (.aa (d:=Rf p) rfl) (.cons (.aa (d:=Hi (N8 a)) rfl) .nil rfl) rfl) (mS (nx:=N8 a) h k)
theorem N! {c:Bd->Option Ae}(I:GT w h)(T:Top d b c mg mb h)(g:Cn d=Ag)(L:LE w h A z N)(G:U7 w h A z N r (wW a)):U7 w h A z N (E3 23::r) (ZR a):=.mk λ s Q E S J=>by
 have b1:=Kz;have M:E2 (W1 w h) (CL (Nd a)) 2 mg mb:=yX (k:=0) I T g (bB a);have R:=dL;have U:(Nt.2.2.1.names.map (·.1)).Nodup:=by decide+kernel
 have Y:Nt.2.2.1.names.all (λ p=>!(p.2== .free)||(Fe w 188).scope.names.lookup p.1==Ab .cell)=Ag:=rfl;have j:Nt.2.2.1.names.lookup ("nexts":As)=Ab .free:=rfl;have hp:(Nt.2.2.2,("law.<locals>.<lambda>":As))∈uF:=Af _ Ad;have l6:=YC a;have bd:∀i≤6,(Tp a i).1.length<=100/\(Tp a i).2.length<=100:=λ i Z=>by
  obtain⟨l,m⟩:=Xh (nx:=N8 a) ([],HT a) i;exact⟨Aa l (Aa (AB (Ct _)) (Aa Z (by decide))),Aa m (Aa (AB l6) (by decide))⟩
 have B:((HT a).map PV.str).length=6:=by rw[Al,l6]
 have n:∀i x,((HT a).map PV.str)[i]? =Ab x->Dc (CL (Nd a)) Nt.2.2.1 ((["state","turn"]:List As).zip [Dt.aa (Rf (Tp a i)),.aa x]++([("nexts",Dt.aa (Hi (N8 a)))]:A5)) Nt.2.1 (Rf (Tp a (i+1))):=λ i x e=>by
  have Z:=(Co.mp e).1;rw[B] at Z;obtain⟨l,m⟩:=bd i (AY Z);exact mR (Tp a i) l m x
 have hZ:(ZR a).lookup ("nexts":As)=Ab (.aa (Hi (N8 a))):=rfl;have D:∀q,Dc (CL (Nd a)) (Fe w 188).scope (ZR a) (.Name "line" q) (.list ((HT a).map PV.str)):=λ q=>.aa rfl;have z0:∀q,Dc (CL (Nd a)) (Fe w 188).scope (ZR a) (.List [] q) (.list []):=λ q=>.list .nil (AZ _);have t:Rf (Tp a 0)=.ba [.list [],.list ((HT a).map PV.str)]:=rfl;have u:∀q1 q2 q3,GH (Fe w 188).scope (.Tuple [.Name "hours" q1,.Name "left" q2] 0 q3) (Rf (Tp a 6)) (ZR a)=Ab (Bu (Bu (ZR a) "hours" (.aa (.list (Tp a 6).1))) "left" (.aa (Bj (Tp a 6).2))):=λ _ _ _=>rfl;have v:wW a=Ek ["pairs","hours","left"] (Bu (Bu (ZR a) "hours" (.aa (.list (Tp a 6).1))) "left" (.aa (Bj (Tp a 6).2))):=rfl
 conv in E3 23=>whnf
 refine Ay (Yf M (L.hA.ai (by omega)) L.B L.O S (u0 I T) ((Ej I T _).trans rfl) T.nolimit (dH I T L (ps:=["state","turn"]) (φ:=[("nexts",.aa (Hi (N8 a)))]) hp (λ _=>rfl) R U Y λ x sl f=>?_) rfl (D _) rfl rfl rfl (z0 _) (D _) (st:=λ i=>Rf (Tp a i)) t n rfl (by rw[B];exact u _ _ _) rfl (by rfl) (by rfl) λ C k H kd O=>?_)
 ·rw[J9] at f;split at f
  ·rename_i q;subst q;cases f;exact⟨j,by decide+kernel,hZ,_,rfl⟩
  ·cases f
 ·exact G.go {s with heap:=C,toks:=k} Q E (H.aw (by rw[v];exact EN)) λ V o y W=>J V o y (Aa O W)
theorem Dc.kg (W:Dc C V O a (.bool Ag))(Z:Dc C V O b (.bool Ag)):Dc C V O (.BoolOp .And [a,b] p) (.bool Ag):=λ c=>.mk λ Q E s S=>by
 refine S.cr λ Q E w=>iO (λ Q E w=>W c s S.F S.G Q E λ v z A k l r=>w v z A k l r.aj) (λ _ H o h N=>?_) _ _ λ v z A k l e=>w v z A k l (by rw[e];exact .bool _);exact λ Q E w=>Z c {s with heap:=H,toks:=o} (S.F.ae h) (S.G.step h N) Q E λ v z A k l r=>w v z A k l r.aj
theorem J? (s:E2 (W1 w h) (CL (Nd a)) k mg mb)(C:CY k A)(B:Kr w h 188 z N):QG w h A z N (exec (E3 24) z) (wW a) (.ret (.bool Ag)):=by
 have W:=Kz;have E:(CL (Nd a)).fn "_law_fewest"=Ab (JK [IA (GE a)] (.int (((Gj (Dw (GE a)) 64).getD 63 0:Nat):Int))):=by
  show YZ (Nd a) "_law_fewest"=_;unfold YZ;simp;rfl
 have H:=MI [IA (GE a)] (.int (((Gj (Dw (GE a)) 64).getD 63 0:Nat):Int));obtain⟨O,Q⟩:=VX a;have Z:(Tp a 6).1.length<=6:=Aa (Xh ([],HT a) 6).1 (by simp);generalize (Gj (Dw (GE a)) 64).getD 63 0=o at*;have ez:wW a=([("pairs",.aa (IA (GE a))),("hours",.aa (.list (Tp a 6).1)),("left",.aa (.list []))]:A5):=by
  unfold wW;rw[Q];rfl
 have V:Q2 .len [.list (Tp a 6).1]=Ab (.int o):=by
  rw[<-O];rfl
 rw[ez];generalize (Tp a 6).1=b at*
 conv in E3 24=>whnf
 refine He s C B (.bn (.kg (.au (.aa rfl) (.list .nil (AZ _)) rfl rfl) (.au (.blt rfl rfl (.cons (.aa rfl) .nil rfl) V) (.fn rfl E (.cons (.aa rfl) .nil rfl) H) rfl ?_)));rw[ZP];simp
theorem dF:O7=[E3 0,E3 1,E3 2,E3 3,E3 4,E3 5,E3 6,E3 7,E3 8,E3 9,E3 10,E3 11,E3 12,E3 13,E3 14,E3 15,E3 16,E3 17,E3 18,E3 19,E3 20,E3 21,E3 22,E3 23,E3 24]:=by kernel_rfl
theorem dG {c:Bd->Option Ae}(k:Cn d=Ag)(I:GT w h)(T:Top d a c mg mb h)(L:LE w h A z N){b:List Int}(H:b.length<=B2):U7 w h A z N O7 (Y0 b):=by
 rw[dF];refine t0 (ZO I T k:E2 (W1 w h) C0 2 mg mb) L (by omega) H ?_;generalize Op (b.take 60)=C;have o:E2 (W1 w h) (CL (Nd C)) 2 mg mb:=yX (k:=0) I T k (bB C);have s:CY 2 A:=L.hA.ai (by omega);have B:=L.B;have E:z7 C=Ek ["names","rights"] (xK C):=by kernel_rfl
 exact t1 I T k L (Ht (M! o s B) (Ht (M' o s B) (Pj E (Ht (L? o s B) (Ht (L! o s B) (Ht (L' o s B) (Ht (K? o s B) (Ht (K! (V! I T k) (L.hA.ai (by exact Aj _ _)) B) (Ht (K' o s B) (O' I T k L (N? I T k L (N! I T k L (qI (J? o s B))))))))))))))
theorem Qo:CY 13 callerA:=⟨rfl,by show 1+claimMargin+10*13<900;decide+kernel,by show 4+100*13<9000;decide⟩
theorem uL:∀q l X(d:DefRec) k,Cn q=Ag->d.name=("law":As)->WalkO q l X (kmHook hk.1 hk.2.1 (λ _=>by kernel_rfl) [16,170,185]).says (OpenLaw.row PySem.Challenge.rw_oy0180_02).toRowW d k λ f v=>call f v:=λ _ _ _ _ _ O c=>qW c λ w s p t V a I g T i v r Q E j=>by
 have m:i.length<=B2:=by
  obtain⟨_,_,_,_,e,n,z,l⟩:=r.aj;have:=l.length;simp only[DP,Al] at this;exact this▸z
 have W:=sS I T;refine YF (k:=12) W (by kernel_rfl) Qo (.refl _) (X1 I g) r λ h C o N B S=>?_;have L:LE w s.heap (callerA.deeper h) h s.heap:=⟨B,Qo.down h,⟨rfl,by rw[N];show(Fe w 188).scope.kind≠_;rw[W.kind];simp,by rw[N]<;>rfl,trivial,rfl⟩,by rw[N];exact fN W.names _ _,⟨_,N⟩⟩;exact(dG O I T L m).go {s with heap:=C,toks:=o} _ _ S λ H A Z b=>j H A Z
theorem holds2.tw9841220219391796086:True:=trivial
theorem holds2.tw16463812534879964731:True:=trivial
theorem holds2.tw7898789944990446398:True:=trivial
theorem holds2.tw5538311330986586492:True:=trivial
theorem holds2.tw1096132330445636691:True:=trivial
theorem holds2.tw8457092177296701508:True:=trivial
theorem holds2.tw10748551539838037586:True:=trivial
theorem holds2.tw14350671579296989519:True:=trivial
theorem holds2.tw14396302231635698566:True:=trivial
theorem holds2.tw3751607680437103778:True:=trivial
theorem holds2.tw3940033223963938415:True:=trivial
theorem holds2.tw749044318469649426:True:=trivial
theorem holds2.tw4711387853647248737:True:=trivial
theorem holds2.tw10736648861694685830:True:=trivial
theorem holds2.tw9409093223280850331:True:=trivial
theorem holds2.tw3887889549693514967:True:=trivial
theorem holds2.tw10258525514413171621:True:=trivial
theorem holds2.tw16004677229718636170:True:=trivial
theorem holds2.tw7234050155932716342:True:=trivial
theorem holds2.tw2758241545572931466:True:=trivial
theorem holds2.tw3249783178552804888:True:=trivial
theorem holds2.tw5714164617061283974:True:=trivial
theorem holds2.tw1375480318061802285:True:=trivial
theorem holds2.tw6530274973760512313:True:=trivial
theorem holds2.tw7468118089793545136:True:=trivial
theorem holds2.tw16844206709685894484:True:=trivial
theorem holds2.tw15832984399505329199:True:=trivial
theorem holds2.tw15259348283762490336:True:=trivial
theorem holds2.tw17559178184360285856:True:=trivial
theorem holds2.tw16204205365925010202:True:=trivial
theorem holds2.tw10541874661636800932:True:=trivial
theorem holds2.tw123351286650413590:True:=trivial
theorem holds2.tw10008039608717428645:True:=trivial
theorem holds2.tw3946673196280863423:True:=trivial
theorem holds2.tw15918400209723202716:True:=trivial
theorem holds2.tw2620746649278526064:True:=trivial
theorem holds2.tw7562441958909266574:True:=trivial
theorem holds2.tw3584430569689640129:True:=trivial
theorem holds2.tw13592916185908309416:True:=trivial
theorem holds2.tw11995673510999836856:True:=trivial
theorem holds2.tw16245935016768020767:True:=trivial
theorem holds2.tw2165153028840040828:True:=trivial
theorem holds2.tw7554171052340202981:True:=trivial
theorem holds2.tw7486311497160414052:True:=trivial
theorem holds2.tw16534113342203198601:True:=trivial
theorem holds2.tw14514996853120130799:True:=trivial
theorem holds2.tw4409555611400327214:True:=trivial
theorem holds2.tw4036022671705554193:True:=trivial
theorem holds2.tw17040052187789276382:True:=trivial
theorem holds2.tw17303049178160288960:True:=trivial
theorem holds2.tw1338893418316276918:True:=trivial
theorem holds2.tw11905306754465202865:True:=trivial
theorem holds2.tw3259073567608679305:True:=trivial
theorem holds2.tw14249228290333365127:True:=trivial
theorem holds2.tw3744045633890732752:True:=trivial
theorem holds2.tw18243138536528033256:True:=trivial
theorem holds2.tw1671287920431555779:True:=trivial
theorem holds2.tw13934765135214457357:True:=trivial
theorem holds2.tw10106791493851981683:True:=trivial
theorem holds2.tw8513968734966791559:True:=trivial
theorem holds2.tw12829347206380451327:True:=trivial
theorem holds2.tw3195841313215818676:True:=trivial
theorem holds2.tw14307511296891064112:True:=trivial
theorem holds2.tw17412194348689742377:True:=trivial
theorem holds2.tw15065817354073919674:True:=trivial
theorem holds2.tw15036418280847670017:True:=trivial
theorem holds2.tw16553575663181140944:True:=trivial
theorem holds2.tw2405693849731512785:True:=trivial
theorem holds2.tw5570730253689391894:True:=trivial
theorem holds2.tw8416694087092913159:True:=trivial
theorem holds2.tw6886867133794050521:True:=trivial
theorem holds2.tw5946886173678348291:True:=trivial
theorem holds2.tw371564207148792419:True:=trivial
theorem holds2.tw7260173400999269984:True:=trivial
theorem holds2.tw7582952491785815679:True:=trivial
theorem holds2.tw10642832896659052892:True:=trivial
theorem holds2.tw12706230712072791952:True:=trivial
theorem holds2.tw1497025814184064929:True:=trivial
theorem holds2.tw16305484260208991058:True:=trivial
theorem holds2.tw4660274137581950534:True:=trivial
theorem holds2.tw6470751281483851456:True:=trivial
theorem holds2.tw3273948514163044671:True:=trivial
theorem holds2.tw9704488602052689957:True:=trivial
theorem holds2.tw4098647931815193294:True:=trivial
theorem holds2.tw10917294295690899990:True:=trivial
theorem holds2.tw10066398627358089225:True:=trivial
theorem holds2.tw6723674783376961503:True:=trivial
theorem holds2.tw4546292566427648870:True:=trivial
theorem holds2.tw18432844781865108980:True:=trivial
theorem holds2.tw4083610661930713457:True:=trivial
theorem holds2.tw981346261192460977:True:=trivial
theorem holds2.tw9643554045684457298:True:=trivial
theorem holds2.tw3600384936787351846:True:=trivial
theorem holds2.tw17727924899855989048:True:=trivial
theorem holds2.tw7434744568853794098:True:=trivial
theorem holds2.tw12846630788444474832:True:=trivial
theorem holds2.tw8668504498368040830:True:=trivial
theorem holds2.tw12919953842215791929:True:=trivial
theorem holds2.tw12405734837584832333:True:=trivial
theorem holds2.tw2491606074742956222:True:=trivial
theorem holds2.tw8181303327880946099:True:=trivial
theorem holds2.tw9381876830724287723:True:=trivial
theorem holds2.tw11732432248227208449:True:=trivial
theorem holds2.tw6783630104334965078:True:=trivial
theorem holds2.tw14837813771056953702:True:=trivial
theorem holds2.tw7768120470618220393:True:=trivial
theorem holds2.tw5842786635099085250:True:=trivial
theorem holds2.tw3587074100592783098:True:=trivial
theorem holds2.tw15124672647970523304:True:=trivial
theorem holds2.tw2048913636709199625:True:=trivial
theorem holds2.tw12437125808019150097:True:=trivial
theorem holds2.tw17571320149253225256:True:=trivial
theorem holds2.tw6606720526951128164:True:=trivial
theorem holds2.tw13795908423971136331:True:=trivial
theorem holds2.tw2085395159791932024:True:=trivial
theorem holds2.tw1604971351436918898:True:=trivial
theorem holds2.tw13076663445972401142:True:=trivial
theorem holds2.tw18436849995025068223:True:=trivial
theorem holds2.tw1833497058632236990:True:=trivial
theorem holds2.tw5714235954285754485:True:=trivial
theorem holds2.tw13846961764995374786:True:=trivial
theorem holds2.tw10241433876968535864:True:=trivial
theorem holds2.tw2953924708134558591:True:=trivial
theorem holds2.tw15207039257646820783:True:=trivial
theorem holds2.tw14637347359017071732:True:=trivial
theorem holds2.tw7942503939883684579:True:=trivial
theorem holds2.tw8210540626169644811:True:=trivial
theorem holds2.tw4869617404680236115:True:=trivial
theorem holds2.tw1247190295429077549:True:=trivial
theorem holds2.tw5544219102520475815:True:=trivial
theorem holds2.tw12603962534469907352:True:=trivial
theorem holds2.tw17962194051795899985:True:=trivial
theorem holds2.tw459790434132459464:True:=trivial
theorem holds2.tw5400935671310040032:True:=trivial
theorem holds2.tw5425364179145508180:True:=trivial
theorem holds2.tw12152761812997003944:True:=trivial
theorem holds2.tw9909795252630298412:True:=trivial
theorem holds2.tw15511537021553817297:True:=trivial
theorem holds2.tw14480249953465753576:True:=trivial
theorem holds2.tw186640071578631123:True:=trivial
theorem holds2.tw12918611035007954073:True:=trivial
theorem holds2.tw14202645885940448412:True:=trivial
theorem holds2.tw8457450266812620304:True:=trivial
theorem holds2.tw15919969014481006953:True:=trivial
theorem holds2.tw17168815702718424863:True:=trivial
theorem holds2.tw9127295582768622813:True:=trivial
theorem holds2.tw9532992850360990971:True:=trivial
theorem holds2.tw15567822491219202711:True:=trivial
theorem holds2.tw7677256949157042998:True:=trivial
theorem holds2.tw6964109225151321999:True:=trivial
theorem holds2.tw16540165634302168050:True:=trivial
theorem holds2.tw2776012051493159545:True:=trivial
theorem holds2.tw15018034304434179615:True:=trivial
theorem holds2.tw5317361403271262298:True:=trivial
theorem holds2.tw11734184374450932817:True:=trivial
theorem holds2.tw3269343583344560313:True:=trivial
theorem holds2.tw15937234456717557304:True:=trivial
theorem holds2.tw528654697579846172:True:=trivial
theorem holds2.tw12982566210494272:True:=trivial
theorem holds2.tw1746943939231425790:True:=trivial
theorem holds2.tw3687532545918627499:True:=trivial
theorem holds2.tw12156396884124422530:True:=trivial
theorem holds2.tw8394356481365537545:True:=trivial
theorem holds2.tw9071667045096245714:True:=trivial
theorem holds2.tw7197685998488594955:True:=trivial
theorem holds2.tw7458732290726068199:True:=trivial
theorem holds2.tw3632233672916711603:True:=trivial
theorem holds2.tw12231879003427140603:True:=trivial
theorem holds2.tw1508498212538435967:True:=trivial
theorem holds2.tw11745445730209819403:True:=trivial
theorem holds2.tw2417657719225332339:True:=trivial
theorem holds2.tw11060440426239479765:True:=trivial
theorem holds2.tw15366728792871400825:True:=trivial
theorem holds2.tw3529777913436947598:True:=trivial
theorem holds2.tw7886793056388224190:True:=trivial
theorem holds2.tw11849110156099345590:True:=trivial
theorem holds2.tw4502385165063216213:True:=trivial
theorem holds2.tw11303181857069957749:True:=trivial
theorem holds2.tw3783386487564767895:True:=trivial
theorem holds2.tw10882875028243481570:True:=trivial
theorem holds2.tw1478772545986026842:True:=trivial
theorem holds2.tw1552633862865485778:True:=trivial
theorem holds2.tw1150673111279255929:True:=trivial
theorem holds2.tw13470822530825563399:True:=trivial
set_option Elab.async true in
theorem holds2:PySem.Challenge.rw_oy0180_02.Holds:=by
 w_on;o_law;o_head (kmHook hk.1 hk.2.1 (λ _=>by kernel_rfl) [16,170,185])
 case hw=>w_witness2
 case hc=>exact uL _ _ _ _ _ (by kernel_rfl) (by kernel_rfl)
end Mine.Internal
theorem PySem.Challenge.cw_oy0180_02_holds : PySem.Challenge.rw_oy0180_02.Holds :=
  Mine.Internal.holds2
