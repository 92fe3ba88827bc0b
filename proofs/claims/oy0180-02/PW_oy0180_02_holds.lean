import PyProof.Rows.All
import Wide.All
import OpenK.AllK
import Wide.FinOn
import KE.KSortTup
import KE.KEqDict
import PyProof.IsiHeapPairs
import Lean
import PySem.Challenge.RW_oy0180_02
set_option Elab.async false
set_option genCtorIdx false
set_option genInjectivity false
set_option genSizeOf false
set_option tactic.hygienic false
set_option compiler.extract_closed false
set_option linter.unusedVariables false
set_option maxRecDepth 1000000
set_option maxHeartbeats 8000000
open PySem PySem.W PyProof.Rows
namespace Mine.Internal
@[elab_as_elim] theorem RwS1 {α : Sort _} {p : α → Prop} {a b : α} (h : b = a) (n : p a) : p b := Eq.substr h n
@[elab_as_elim] theorem RwT1 {α : Sort _} {p : α → Prop} {a b : α} (h : a = b) (n : p a) : p b := Eq.subst h n
local macro_rules (kind := Lean.Parser.Tactic.rewriteSeq) | s => do
  let q := s[2]
  let a := q[1]
  let f := a[0]
  if s[1][0].getNumArgs + s[3].getNumArgs != 0 then Lean.Macro.throwUnsupported
  if a.getNumArgs == 1 then
    let h := ⟨f[1]⟩
    let c := Lean.mkCIdent (if f[0].getNumArgs == 0 then ``RwS1 else ``RwT1)
    `(tactic| first | refine $c $h ?_ | refine $c ($h ..) ?_ | fail)
  else
    let g := fun x => s.setArg 2 (q.setArg 1 (Lean.mkNullNode x))
    return Lean.mkNullNode #[g #[f], g (a.getArgs.drop 2)]
local macro_rules (kind := Lean.Parser.Tactic.omega) | s => `(tactic| lia)
local macro_rules (kind := Lean.Parser.Tactic.omega) | s => `(tactic| decide)
open _root_.Nat renaming le_trans->Aa,le_add_left->Ak,le_refl->An,lt_of_lt_of_le->Ao,lt_of_le_of_lt->Ay,le_of_eq->Az,le_of_ble_eq_true->AM,le_add_right->AR,le_of_lt->AX,zero_le->AY,add_le_add_left->A0,le_of_lt_succ->A7,le_succ->Bo,succ_le_succ->Bt,le_of_not_lt->By,le_succ_of_le->BC,succ->BZ,not_lt->B6,add_le_add_right->B7,add_right_comm->Cg,zero_add->Cs,ne_of_lt->Ct,lt_trans->Cu,lt_succ_self->CH,lt_succ_of_le->CK,le_of_succ_le->CM,ne_of_gt->Dy,min_eq_left->Dz,succ_pos->DN,lt_of_succ_lt_succ->DO,ble_eq->DP,add_comm->DQ,not_lt_of_le->El,blt->Es,add_assoc->Et,testBit_or->Ey,add_sub_of_le->EE,min_le_left->EH,le_antisymm->EI,lt_irrefl->EW,eq_of_testBit_eq->Fo,sub_lt_sub_left->FE,mul_le_mul_left->FF,min_le_right->FK,add_le_add->FL,or_lt_two_pow->Gj,lt_succ_of_lt->Gl,mod_two_eq_zero_or_one->GL,min_eq_right->GV,le_of_not_le->GX,testBit_two_pow->G4,not_lt_zero->Hl,lt_add_of_pos_right->HD,toDigits->Ig,le_of_add_right_le->Ih,succ_lt_succ->IK,pow_lt_pow_right->I1,pow_le_pow_right->I2,zero_lt_two->Jj,sub_le->JY,lt_of_le_of_ne->JZ,pow_succ'->KX,mul_assoc->KY,sub_sub_self->LU,mul_div_cancel_left->LV,testBit_lt_two_pow->Mr,lt_or_ge->Ms,lt_min->Mt,lt_asymm->Mu,le_of_succ_le_succ->Mv
open _root_.Option renaming some->Ab,none->Ah,bind_eq_some_iff->AL,map_eq_some_iff->Bl,none->CC,isSome_iff_exists->G3,or_eq_some_iff->L7
open _root_.PySem renaming wpAny_bind->Ac,Value->Ae,Addr->Ai,Shared->Aq,wpAny_pure->Ar,wpAny->Av,wpAny_execs_cons->Ax,Heap->AS,wpAny_standAt->AZ,wpAny_loadPart'->Bb,ExcName->Bc,Scope->Bf,Stmt->Bq,wpAny_holding->Br,wpAny_execs_nil->BL,rawInt->BS,wpAny_newObj_type->B2,wpAny_Call_NameR->B3,callEnvC->B4,sliceBounds->Cc,mainGlobals->Cd,codeAmong->Cf,wpAny_with_toks->Cy,wpAny_truthy_bool->CA,GenState->CB,cellsFrom->CD,wpAny_field->CS,Around->Dj,swapsWithSole->Dk,Model->Dq,wpAny_isTrue_Compare1->DA,wpAny_mono->DH,Arguments->D8,pushCells_keeps->Eb,codeAny->Ep,Result->Ev,wpAny_of_eq->EG,wpAny_Return_some->EM,compareOp->EN,excClassObj->E8,typeLookup->Ff,binaryOp->Fi,wpAny_loadName_local->Fu,Program->Fw,FuncData->Fz,Flow->FB,Comprehension->FM,newFunctionEnv->F3,codeAny_builtin->Gq,NameKind->Gs,seqIndex?->Gw,wpAny_loadPart_at->GO,OsState->GS,sizeLine->HG,wpAny_setField_rec->H9,wpAny_call->Ia,nsFind->Ic,call_meets->Ie,wpAny_getItem_str_slice->Ii,wpAny_callSpecial?_slot->Ij,Fin->Iw,wpAny_setField->IF,wpAny_assign_Name->IG,cLine->I7,wpAny_call_entry->Ja,builtinsNs->Jg,assignEach->Ji,Builtin->Jw,unbindBehindTheSuite->Jy,compPost->Jz,codeAny_call_builtin->JA,IsEnum->J0,wpAny_loadName_cell->J2,codeAny_forLoop_any->Kk,wpAny_ite->KB,strKind->KD,wpAny_If->KR,wpAny_Constant_str->KS,typeIs_str->KT,sliceRange->KU,arm_eval_Tuple->KV,wpAny_BinOp->LX,getItem->L0,InCallC->Mb,typeOf->Md,comprehension->Mk,arm_eval_List->Mq,wpAny_updatePart->MZ,wpAny_Try_except->M0,storeName->M3,starEach->M4,pushCells->M5,callWith_excType->M7,intText?->M8,Drawn->M9,wpAny_runOwn->NQ,wpAny_rule->NR,wpAny_Name->NS,sysModules->NT,relabel->NU,assign->NX,post_val_or_str->N6,letOwnedTupleGo->Of,bindL->Om,codeAny_call_function->OI,Code->ON,wpAny_alloc->OY,recursionLimit->O3,bindC->Q2,noteFrame->UZ
open _root_.List renaming mem_cons_self->Ad,mem_cons_of_mem->Af,length_map->Aj,mem_cons->Al,getD_eq_getElem?_getD->Am,range->Ap,mem_range->As,mem_filter->Aw,getElem?_eq_getElem->AA,mem_map->AF,mem_append->AK,length_append->AP,all_eq_true->AQ,mem_append_right->AU,length_filter_le->AW,mem_append_left->A8,map_map->Bd,replicate->Bg,getElem?_map->Bk,map_cons->Bu,nodup_cons->Bz,not_mem_nil->BG,length->BP,append_assoc->BQ,any_eq_true->B8,mem_singleton->Ce,getElem?_eq_some_iff->Cn,mem_of_getElem?->Cp,mem_iff_getElem->Cq,filter_congr->Cr,toArray->CE,length_range->CJ,drop_eq_nil_of_le->CP,idxOf_lt_length_of_mem->CY,lookup->C9,length_take->Dd,isEmpty_iff->De,getElem_mem->Dg,getElem?_take_of_lt->Dt,all_cons->Du,map_append->Dx,filter_eq_nil_iff->DL,mem_map_of_mem->DR,nil_append->DU,append_nil->DV,length_cons->Ec,getElem_idxOf->Ed,cons_append->Ee,forIn_cons->EF,map_congr_left->EK,take_of_length_le->EO,find?_cons_of_neg->EP,mem_reverse->EX,take_append_drop->E4,contains_iff_mem->E5,drop_eq_getElem_cons->Fe,length_reverse->Fy,length_eq_zero_iff->FG,filter_cons->FH,getElem?_drop->FZ,find?_cons_of_pos->F2,length_drop->GT,pairwise_iff_getElem->GY,map_take->Hg,filter_map->Hi,contains_cons->Hm,nodup_append->HW,mapM_cons->HX,getElem_take->HY,mem_iff_getElem?->Ix,nodup_range->ID,sum_cons->IL,filter_eq_self->Jk,zipWith->Ju,take_subset_take_left->JS,pairwise_cons->JT,getElem?_append_left->Kp,getElem?_nil->Kz,take_nil->KJ,filter_cons_of_pos->Ls,filter_cons_of_neg->Lu,pairwise_lt_range->L9,length_pos_of_mem->Ma,length_singleton->MU,length_replicate->MV,mem_of_mem_drop->NP
open _root_.Bool renaming true->Ag,false->Au,and_eq_true_iff->AB,and_eq_true->AG,noConfusion->Bv,eq_iff_iff->BH,false_eq_true->BR,false_ne_true->CQ,or_eq_true->CV,not_eq_true'->CZ,and_true->ES,and_false->H8,or_true->Jx,not_true->KQ,not_not->Mc
open _root_.PySem.Heap renaming get?_push_size->AD,get?_push_of_some->AH,lt_size->AT,ExtBut->BB,SameBut->BK,get?_update_self->B1,size_push->CU,get?_update_other->Dh
open _root_.PySem.Calls renaming spliced_cons->AE,spliced_nil->A6,evalArgs_plain->Be,callWith_function->Ci,callWith_builtin->FX
open _root_.PySem.W.Fast renaming tw7966671052430208091->AJ,tw15066281185411960212->Ew,tw12456147031677567982->Ex,tw4202317264376624991->GD,tw16098473122060591676->LS,tw8938917530802602619->L5,tw1166467894219422925->L6
open _root_.Option.some renaming inj->AN
open _root_.PySem.Builtin renaming bitAnd->AO,bitNot->Gg
open _root_.PySem.PyData renaming strOk->A9,eqv->C7
open _root_.Int renaming natCast_nonneg->BD,ofNat_lt->BM,ediv_ediv_of_nonneg->Cj,le_trans->Cw,toNat_of_nonneg->Do,lt_of_le_of_lt->DB,ofNat_le->ER,emod_nonneg->Gb,natCast_mul->Hn,not_lt->Hq,lt_of_lt_of_le->Hr,emod_lt_of_pos->Hs,mul_assoc->IZ,sub_nonneg_of_le->I4,add_mul_emod_self_left->J1,mul_left_comm->KM,ofNat_inj->KZ,not_le->Mx,add_zero->My,negSucc->NY
open _root_.PySem.Value renaming ref->BI,none->E0
open _root_.PySem.Heap.SameBut renaming update->BN
open _root_.LawfulBEq renaming eq_of_beq->BO
open _root_.Int.NonNeg renaming mk->BW
open _root_.PySem.Str renaming empty->Ca,ofString->Fn
open _root_.PyProof.Rows renaming importsNone->Cm,tail_any->DI,seqObj->Ef,StrsAre->QC
open _root_.PySem.NameKind renaming cell->Co,free->Fd
open _root_.Eq renaming refl->Cx
open _root_.PySem.Obj renaming mapSeq->CG,isFreed_of_fields->D9,data_mapFields->Ek,mapFields->Er,cls_mapFields->KG
open _root_.PySem.W.R renaming bindR->C3
open _root_.Array renaming getElem?_eq_some_iff->C8,length_toList->DM,all_eq_true_iff_forall_mem->HI,getElem?_toList->Im,getElem?_modify->Io,mem_toList_iff->IN,getElem?_eq_none->LW
open _root_.PySem.Builtin.List renaming listSameRef->DE
open _root_.PySem.Builtin.Str renaming strKind->EB,strSliceIndices->Gp
open _root_.Classical renaming byContradiction->E2
open _root_.ForInStep renaming yield->E3
open _root_.PySem.F renaming slot_tuple_iterator_next->Fb,slot_enumerate_next->F9,slot_str_split->Mz
open _root_.PySem.W.Looks renaming of_pure->Fp,ld->HH
open _root_.PySem.ScopeKind renaming function->Fv
open _root_.PySem.W renaming Looks->FS,looks_field->Il,handedIn->IH,tabObj->Me,emptyDict->M6,codeHd_of_K->Ph
open _root_.PySem.MeetsSeq3 renaming plain_eq_loop->Gz
open _root_.List.Nodup renaming idxOf_getElem->GF
open _root_.List.Perm renaming eq_of_pairwise->GM
open _root_.List.Pairwise renaming nil->GZ,imp_of_mem->I3,filter->KA
open _root_.False renaming elim->Hj
open _root_.Nat.succ renaming inj->Hk
open _root_.List.cons renaming inj->HZ
open _root_.PySem.Around renaming under_plainId->IE
open _root_.PySem.Txt renaming split->IJ,slice->JR,replace->KE
open _root_.Int.ofNat renaming inj->JB
open _root_.Iff renaming of_eq->JU
open _root_.Char renaming toNat->JW
open _root_.PySem.Builtin.SmallTypes renaming nextOf->Na
open _root_.ToString renaming toString->O0
noncomputable abbrev I9:=Ae->Aq->Prop
theorem Jr {G:Prop}(H:∀g:Prop,(G->g)->g):G:=H G id
theorem qS (h:n=L-i):n-1=L-(i+1):=h▸Nat.sub_sub L i 1
theorem xX (h:n=L-i)(a:i<L):n-1<n:=Nat.sub_lt (h▸Nat.sub_pos_of_lt a) Nat.one_pos
theorem qY (n:Nat):((n:Int)<0)=False:=eq_false (Hq.mpr (BD n))
theorem UF (i n:Nat):max (0:Int) (min (i:Int) (n:Int))=((min i n:Nat):Int):=by
 rcases Nat.le_total i n with h |h
 ·rw[Dz h,Int.min_eq_left (ER.mpr h),Int.max_eq_right (BD _)]
 ·rw[GV h,Int.min_eq_right (ER.mpr h),Int.max_eq_right (BD _)]
theorem xZ (x:Int){n:Nat}(h:0<n):(x%(n:Int)).toNat<n:=(Int.toNat_lt (Gb _ (Int.ne_of_gt (BM.mpr h)))).mpr (Hs _ (BM.mpr h))
theorem tD {x:Int}{n:Nat}(a:-(n:Int)<x)(b:x<n):x.natAbs<n:=by
 cases x with
 |ofNat m=>exact BM.mp b
 |negSucc m=>exact BM.mp (Int.neg_lt_neg_iff.mp a)
theorem uB {x:Int}{n:Nat}(a:0<=x)(h:x<n):∃m:Nat,x=m/\m<n:=⟨x.toNat,(Do a).symm,BM.mp ((Do a).symm▸h)⟩
theorem zL (p:Int):0+p*1=p:=by rw[Int.mul_one,Int.zero_add]
theorem Fc {P:Nat->Prop}(h:∀n<m,P n)(k:P m):∀n<m+1,P n:=λ n a=>(Nat.lt_succ_iff_lt_or_eq.mp a).elim (h n) λ e=>e▸k
theorem Kr {P:Nat->Prop}:∀n<0,P n:=λ n h=>absurd h (Hl n)
theorem x7 {b:Type}{P:List b->Prop}(h:P []):∀l:List b,l.length<=0->P l:=λ l c=>by
 cases l with
 |nil=>exact h
 |cons a l=>exact absurd c (Nat.not_succ_le_zero _)
theorem Ua {b:Type}{P:List b->Prop}(c:P [])(h:∀(a:b)(l:List b),l.length<=n->P (a::l)):∀l:List b,l.length<=n+1->P l:=λ l d=>by
 cases l with
 |nil=>exact c
 |cons a l=>exact h a l (Mv d)
theorem QQ {b:Type}{P:List b->Prop}(h:∀(a:b)(l:List b),l.length=n->P (a::l)):∀l:List b,l.length=n+1->P l:=λ l c=>by
 cases l with
 |nil=>contradiction
 |cons a l=>exact h a l (Hk c)
theorem x5 {e:Type}{P:List e->Prop}(h:∀a b c d:e,P [a,b,c,d]):∀l:List e,l.length=4->P l:=
 QQ λ a=>QQ λ b=>QQ λ c=>QQ λ d l f=>by rw[FG.mp f];exact h a b c d
theorem Dn {a:Type}{P:Prop}{x:Option a}{o:a}(h:x=Ah)(k:x=Ab o):P:=by rw[h] at k;contradiction
theorem A4 {c:Type}{x:Option c}{a b:c}(h:x=Ab a)(k:x=Ab b):a=b:=AN (h.symm.trans k)
theorem qX {i L:Nat}(h:i<=L)(k:¬i<L):i=L:=EI h (B6.mp k)
theorem TU (h:a+c*(n+1)<m)(d:b<=c):a+b+c*n<m:=
 Ay (by rw[Nat.mul_succ,Cg,<-Et];exact A0 d _) h
set_option genInjectivity true in
inductive PV where
 |none
 |bool (b:Bool)
 |int (i:Int)
 |str (s:Str)
 |list (xs:List PV)
 |ba (xs:List PV)
 |dict (es:List (Str×PV))
 |obj (v:Ae)
 deriving Inhabited
noncomputable def BX:Nat:=1048576
theorem Kx:5000<=BX:=by decide+kernel
theorem FR:BX<=HG:=by decide+kernel
structure BV where
 prog:Fw
 w:World
 h0:AS
 TB:List Ai
 di:AS->Prop
 ch:∀h h',(∀b o vs,h.get? b=Ab o->o.data=.fields vs->(o.cls=.none\/o.cls=.type "code")->h'.get? b=Ab o)->di h->di h'
noncomputable abbrev BV.M (W:BV):Dq:=model W.prog W.w
noncomputable abbrev BV.K (W:BV):KeyKind W.prog W.w Str:=KD W.prog W.w
noncomputable abbrev I0 (a:Array Ae)(n:Nat):Obj:={cls:=.type "list",data:=.seq a n}
noncomputable abbrev M1 (a:Array Ae)(n:Nat):Obj:={cls:=.type "tuple",data:=.seq a n}
mutual
inductive Rp (W:BV)(X:List Ai)(h:AS):Ae->PV->Prop
 |none:Rp W X h .none .none
 |bool (b):Rp W X h (.bool b) (.bool b)
 |int (i t):Rp W X h (.int i t) (.int i)
 |str (x t):A9 x=Ag->x.length<=BX->Rp W X h (.str x t) (.str x)
 |obj (v):Rp W X h v (.obj v)
 |list {a vs n xs}:h.get? a=Ab (I0 vs n)->a∉X->vs.size<=BX->RpL W X h vs.toList xs->Rp W X h (.ref a) (.list xs)
 |ba {a vs n xs}:h.get? a=Ab (M1 vs n)->a∉X->vs.size<=BX->RpL W X h vs.toList xs->Rp W X h (.ref a) (.ba xs)
 |dict {a kvs es}:h.DictOf W.K a kvs->a∉X->(a==NT)=Au->kvs.length<=BX->kvs.map (·.1)=es.map (·.1)->RpL W X h (kvs.map (·.2)) (es.map (·.2))->Rp W X h (.ref a) (.dict es)
inductive RpL (W:BV)(X:List Ai)(h:AS):List Ae->List PV->Prop
 |nil:RpL W X h [] []
 |cons {v vs d ds}:Rp W X h v d->RpL W X h vs ds->RpL W X h (v::vs) (d::ds)
end
inductive z4 (W:BV)(X:List Ai)(h:AS)(v:Ae)(xs:List PV):Prop
 |mk (a:Ai) (vs:Array Ae) (n:Nat) (e:v=.ref a) (g:h.get? a=Ab (I0 vs n)) (x:a∉X) (z:vs.size<=BX) (r:RpL W X h vs.toList xs)
inductive zT (W:BV)(X:List Ai)(h:AS)(v:Ae)(xs:List PV):Prop
 |mk (a:Ai) (vs:Array Ae) (n:Nat) (e:v=.ref a) (g:h.get? a=Ab (M1 vs n)) (x:a∉X) (z:vs.size<=BX) (r:RpL W X h vs.toList xs)
inductive z6 (W:BV)(X:List Ai)(h:AS)(v:Ae)(es:List (Str×PV)):Prop
 |mk (a:Ai) (kvs:List (Str×Ae)) (e:v=.ref a) (g:h.DictOf W.K a kvs) (x:a∉X) (y:(a==NT)=Au) (z:kvs.length<=BX) (q:kvs.map (·.1)=es.map (·.1)) (r:RpL W X h (kvs.map (·.2)) (es.map (·.2)))
noncomputable def X? (W:BV)(X:List Ai)(h:AS)(v:Ae):PV->Prop
 | .none=>v=.none
 | .bool b=>v=.bool b
 | .int i=>∃t,v=.int i t
 | .str x=>∃t,v=.str x t/\A9 x=Ag/\x.length<=BX
 | .obj w=>v=w
 | .list a=>z4 W X h v a
 | .ba a=>zT W X h v a
 | .dict c=>z6 W X h v c
theorem Rp.aj (r:Rp W X h v d):X? W X h v d:=by
 cases r with
 |none=>exact rfl
 |bool=>exact rfl
 |int _ t=>exact⟨t,rfl⟩
 |str _ t a b=>exact⟨t,rfl,a,b⟩
 |obj=>exact rfl
 |list e n z r=>exact⟨_,_,_,rfl,e,n,z,r⟩
 |ba e n z r=>exact⟨_,_,_,rfl,e,n,z,r⟩
 |dict e n y z q r=>exact⟨_,_,rfl,e,n,y,z,q,r⟩
noncomputable def zX (W:BV)(X:List Ai)(h:AS)(a:List Ae):List PV->Prop
 |[]=>a=[]
 |d::b=>∃v r,a=v::r/\Rp W X h v d/\RpL W X h r b
theorem RpL.aj (r:RpL W X h c d):zX W X h c d:=by
 cases r with
 |nil=>exact rfl
 |cons a b=>exact⟨_,_,rfl,a,b⟩
theorem RpL.gy (r:RpL W X h (v::c) (d::f)):Rp W X h v d/\RpL W X h c f:=by
 obtain⟨_,_,e,a,b⟩:=r.aj;cases e;exact⟨a,b⟩
theorem RpL.bt {P:List Ae->List PV->Prop}(r:RpL W X h c e)(f:P [] [])(g:∀v c d e,Rp W X h v d->RpL W X h c e->P c e->P (v::c) (d::e)):P c e:=
 r.rec (motive_1:=λ _ _ _=>True) trivial (λ _=>trivial) (λ _ _=>trivial) (λ _ _ _ _=>trivial) (λ _=>trivial) (λ _ _ _ _ _=>trivial) (λ _ _ _ _ _=>trivial) (λ _ _ _ _ _ _ _=>trivial) f λ a b _ i=>g _ _ _ _ a b i
theorem RpL.k6 (r:RpL W X h b [a]):∃x,b=[x]/\Rp W X h x a:=by
 obtain⟨x,d,rfl,c,r⟩:=r.aj;cases r.aj;exact⟨x,rfl,c⟩
theorem RpL.kz (r:RpL W X h c [a,b]):∃x y,c=[x,y]/\Rp W X h x a/\Rp W X h y b:=by
 obtain⟨x,f,rfl,d,r⟩:=r.aj;obtain⟨y,rfl,e⟩:=r.k6;exact⟨x,y,rfl,d,e⟩
theorem RpL.lw (r:RpL W X h vs [a,b,c]):∃x y z,vs=[x,y,z]/\Rp W X h x a/\Rp W X h y b/\Rp W X h z c:=by
 obtain⟨x,g,rfl,d,r⟩:=r.aj;obtain⟨y,z,rfl,e,f⟩:=r.kz;exact⟨x,y,z,rfl,d,e,f⟩
section
variable {A:Dj}{E:I9}{s:Aq}{α β:Type}
theorem ML {M:Dq}{Q:α->Aq->Prop}(h:∀b d,(∀v a,Q v a->b v a)->(∀v a,E v a->d v a)->Av M A c b d s):Av M A c Q E s:=h Q E (λ _ _ h=>h) λ _ _ h=>h
theorem vH {M:Dq}{Q:α->Aq->Prop}(h:∀a,(∀v b,Q v b->a v b)->Av M A c a E s):Av M A c Q E s:=h Q λ _ _ h=>h
theorem P3 {a b:Prop}(h:a):if Ag=Ag then a else b:=by rw[if_pos rfl];exact h
theorem VO {a b:Prop}(h:b):if Au=Ag then a else b:=by rw[if_neg CQ];exact h
theorem MN {M:Dq}{st:Bq}{a:List Bq}{b:Env}{Q:FB->Aq->Prop}(h:∀K:FB->Aq->Prop,(∀c,Av M A (execs a b) Q E c->K .next c)->(∀f c,f≠.next->Q f c->K f c)->Av M A (exec st b) K E s):Av M A (execs (st::a) b) Q E s:=
 Ax (h _ (λ _ h=>h) λ f c d h=>by
  cases f
  ·exact absurd rfl d
  all_goals exact h)
theorem Xw {M:Dq}{f:α->Sem β}{Q:β->Aq->Prop}(h:∀K:α->Aq->Prop,(∀x a,Av M A (f x) Q E a->K x a)->Av M A c K E s):Av M A (c >>=f) Q E s:=Ac (h _ λ _ _ h=>h)
end
theorem rM {b:List Ae}(h:b.length=n+1):∃a r,b=a::r/\r.length=n:=by
 cases b with
 |nil=>contradiction
 |cons a r=>exact⟨a,r,rfl,Hk h⟩
theorem QR {b:List Ae}(h:b.length=1):∃a,b=[a]:=by
 obtain⟨a,r,rfl,q⟩:=rM h;exact⟨a,congrArg _ (List.eq_nil_of_length_eq_zero q)⟩
theorem Nu {c:List Ae}(h:c.length=2):∃a b,c=[a,b]:=by
 obtain⟨a,r,rfl,q⟩:=rM h;obtain⟨b,rfl⟩:=QR q;exact⟨a,b,rfl⟩
theorem u6 {d:List Ae}(h:d.length=3):∃a b c,d=[a,b,c]:=by
 obtain⟨a,r,rfl,q⟩:=rM h;obtain⟨b,c,rfl⟩:=Nu q;exact⟨a,b,c,rfl⟩
noncomputable def BA (W:BV)(h c:AS):Prop:=
 (∀b o,h.get? b=Ab o->c.get? b=Ab o\/(W.h0.get? b=CC/\o.cls=.type "frame"/\∃e,c.get? b=Ab {o with slots:=e})\/
  (b∈W.TB/\∃d a,o=Me d/\c.get? b=Ab (Me (d++a))))/\(W.di h->W.di c)
section
variable {W:BV}{X:List Ai}{h H:AS}
theorem BA.af (k:∀b o,h.get? b=Ab o->H.get? b=Ab o):BA W h H:=
 ⟨λ b o e=>.inl (k b o e),W.ch _ _ λ b o _ e _ _=>k b o e⟩
theorem BA.refl (h:AS):BA W h h:=.af λ _ _ e=>e
theorem BA.push (h:AS)(o:Obj):BA W h (h.push o):=.af λ _ _ e=>AH _ e
theorem BA.keep (c:BA W h H)(e:h.get? b=Ab o)(d:o.cls≠.type "frame")(f:o.cls≠.none):H.get? b=Ab o:=by
 rcases c.1 b o e with k |⟨_,k,_⟩ |⟨_,g,a,k,_⟩
 ·exact k
 ·exact absurd k d
 ·subst k;exact absurd rfl f
theorem BA.trans (p:BA W h H)(G:BA W H a):BA W h a:=by
 refine⟨λ b o e=>?_,λ t=>G.2 (p.2 t)⟩;rcases p.1 b o e with k |⟨n,k,q,j⟩ |⟨n,f,c,k,j⟩
 ·exact G.1 b o k
 ·rcases G.1 b _ j with g |⟨_,g,l,i⟩ |⟨_,f,c,g,i⟩
  ·exact .inr (.inl ⟨n,k,q,g⟩)
  ·exact .inr (.inl ⟨n,k,l,i⟩)
  ·have:({o with slots:=q}:Obj).cls=.none:=by rw[g]
   have:=this;cases k.symm.trans this
 ·subst k;rcases G.1 b _ j with g |⟨_,g,_⟩ |⟨_,m,d,g,i⟩
  ·exact .inr (.inr ⟨n,f,c,rfl,g⟩)
  ·contradiction
  ·have r:f++c=m:=by injection g with _ _ g;injection g
   subst r;exact .inr (.inr ⟨n,f,c++d,rfl,by rw[<-Array.append_assoc];exact i⟩)
theorem BA.az (f:BA W h H)(l:h.get? a=Ah)(g:∀o i,H.get? a=Ab o->o.data=.fields i->o.cls≠.none/\o.cls≠.type "code")(j:BK a H c):BA W h c:=by
 refine⟨λ b o e=>?_,λ t=>W.ch _ _ (λ b o i e k hc=>?_) (f.2 t)⟩
 ·have d:b≠a:=by rintro rfl;exact Dn l e
  rw[j.2 b d];exact f.1 b o e
 ·have d:b≠a:=by
   rintro rfl;rcases hc with hc |hc
   ·exact(g _ _ e k).1 hc
   ·exact(g _ _ e k).2 hc
  rw[j.2 b d];exact e
theorem OG (d:h.DictOf W.K a b)(hk:∀o,h.get? a=Ab o->o.cls=.type "dict"->H.get? a=Ab o):H.DictOf W.K a b:=by
 obtain⟨o,e,f,g,c,r⟩:=d;exact⟨o,e,f,hk o g c.1,c,r⟩
theorem Rp.to {W':BV}(hk:∀b o,h.get? b=Ab o->b∉X->(o.cls=.type "list"\/o.cls=.type "tuple"\/o.cls=.type "dict")->H.get? b=Ab o/\b∉Y)(f:∀a c,h.DictOf W.K a c->a∉X->H.DictOf W'.K a c/\a∉Y)(r:Rp W X h v d):Rp W' Y H v d:=
 r.rec (motive_2:=λ g k _=>RpL W' Y H g k) .none .bool .int .str .obj (λ e n z _ i=>.list (hk _ _ e n (.inl rfl)).1 (hk _ _ e n (.inl rfl)).2 z i)
   (λ e n z _ i=>.ba (hk _ _ e n (.inr (.inl rfl))).1 (hk _ _ e n (.inr (.inl rfl))).2 z i) (λ e n y z q _ i=>.dict (f _ _ e n).1 (f _ _ e n).2 y z q i) .nil λ _ _ i j=>.cons i j
theorem RpL.map (f:∀v d,Rp W X h v d->Rp b Y H v d)(r:RpL W X h c e):RpL b Y H c e:=r.bt .nil λ _ _ _ _ a _ i=>.cons (f _ _ a) i
theorem Rp.bi (hk:∀b o,h.get? b=Ab o->b∉X->(o.cls=.type "list"\/o.cls=.type "tuple"\/o.cls=.type "dict")->H.get? b=Ab o/\b∉Y)(r:Rp W X h v d):Rp W Y H v d:=
 r.to hk λ a f e n=>by
   obtain⟨o,_,_,c,g,_⟩:=id e;exact⟨OG e λ o c hc=>(hk _ o c n (.inr (.inr hc))).1,(hk _ o c n (.inr (.inr g.1))).2⟩
theorem RpL.bi (hk:∀b o,h.get? b=Ab o->b∉X->(o.cls=.type "list"\/o.cls=.type "tuple"\/o.cls=.type "dict")->H.get? b=Ab o/\b∉Y)(r:RpL W X h a c):RpL W Y H a c:=r.map λ _ _=>Rp.bi hk
theorem D3 (a:BA W h H)(e:h.get? b=Ab o)(c:o.cls=.type "list"\/o.cls=.type "tuple"\/o.cls=.type "dict"):H.get? b=Ab o:=by
 refine a.keep e ?_ ?_<;>(rcases c with c |c |c<;>rw[c]<;>decide)
theorem Rp.ae (a:BA W h H)(r:Rp W X h v d):Rp W X H v d:=r.bi λ _ _ e n c=>⟨D3 a e c,n⟩
theorem RpL.ae (d:BA W h H)(r:RpL W X h a b):RpL W X H a b:=r.bi λ _ _ e n c=>⟨D3 d e c,n⟩
theorem Rp.az (c:BK a h H)(f:a∈X)(r:Rp W X h v d):Rp W X H v d:=
 r.bi λ b _ e n _=>⟨by rw[c.2 b (λ q=>n (q▸f))];exact e,n⟩
theorem RpL.az (f:BK a h H)(g:a∈X)(r:RpL W X h c d):RpL W X H c d:=
 r.bi λ b _ e n _=>⟨by rw[f.2 b (λ q=>n (q▸g))];exact e,n⟩
theorem Rp.be (H:h.get? a=CC)(r:Rp W X h v d):Rp W (a::X) h v d:=
 r.bi λ b _ e n _=>⟨e,λ q=>by
  rcases Al.mp q with q |q
  ·subst q;exact Dn H e
  ·exact n q⟩
theorem RpL.be (H:h.get? a=CC)(r:RpL W X h c d):RpL W (a::X) h c d:=
 r.bi λ b _ e n _=>⟨e,λ q=>by
  rcases Al.mp q with q |q
  ·subst q;exact Dn H e
  ·exact n q⟩
theorem Rp.ai (H:∀a∈Y,a∈X)(r:Rp W X h v d):Rp W Y h v d:=r.bi λ _ _ e n _=>⟨e,λ q=>n (H _ q)⟩
theorem RpL.ai (H:∀a∈Y,a∈X)(r:RpL W X h b c):RpL W Y h b c:=r.bi λ _ _ e n _=>⟨e,λ q=>n (H _ q)⟩
theorem RpL.length {a:List Ae}{b:List PV}(r:RpL W X h a b):a.length=b.length:=r.bt (P:=λ a b=>a.length=b.length) rfl λ _ _ _ _ _ _ i=>congrArg (·+1) i
theorem RpL.append (r:RpL W X h b c)(q:RpL W X h d e):RpL W X h (b++d) (c++e):=r.bt (P:=λ b c=>RpL W X h (b++d) (c++e)) q λ _ _ _ _ a _ i=>.cons a i
theorem RpL.bq (r:Rp W X h v d):RpL W X h [v] [d]:=.cons r .nil
theorem RpL.get {b:List Ae}{c:List PV}(r:RpL W X h b c){k:Nat}{d:PV}:c[k]? =Ab d->∃v,b[k]? =Ab v/\Rp W X h v d:=
 r.bt (P:=λ b c=>∀k,c[k]? =Ab d->∃v,b[k]? =Ab v/\Rp W X h v d) (λ _ e=>absurd (Kz.symm.trans e) nofun) (λ v _ _ _ a _ i k=>k.casesOn (λ e=>⟨v,rfl,AN e▸a⟩) i) k
theorem RpL.lv {b:List Ae}{c:List PV}(r:RpL W X h b c){k:Nat}{v:Ae}:b[k]? =Ab v->∃d,c[k]? =Ab d/\Rp W X h v d:=
 r.bt (P:=λ b c=>∀k,b[k]? =Ab v->∃d,c[k]? =Ab d/\Rp W X h v d) (λ _ e=>absurd (Kz.symm.trans e) nofun) (λ _ _ d _ a _ i k=>k.casesOn (λ e=>⟨d,rfl,AN e▸a⟩) i) k
end
noncomputable def Dp {b:Type}(W:BV)(A:Dj)(t:Sem b)(s:Aq)(P:b->AS->Prop):Prop:=
 ∀(Q:b->Aq->Prop)(E:I9),(∀a c d,BA W s.heap c->s.toks<=d->P a c->Q a {s with heap:=c,toks:=d})->Av W.M A t Q E s
section
variable {α β:Type}{W:BV}{A:Dj}{s:Aq}
theorem Dp.ae {P R:α->AS->Prop}(h:Dp W A t s P)(c:∀a b,BA W s.heap b->P a b->R a b):Dp W A t s R:=λ Q E d=>h Q E λ a b tk k l p=>d a b tk k l (c a b k p)
end
variable {A:Dj}{E Q:I9}{k:Nat}{W:BV}{X Z:List Ai}{z:Env}{fd:Fz}{h H N:AS}{V:Bf}{mb mg:Str->Option Ae}{o:Obj}{s:Aq}{w:World}
theorem TI (name:Str)(o:Int)(h v:Ae)(k:Obj)(z:k.data=.dict a b):(Obj.putName name o h v k).cls=k.cls/\(Obj.putName name o h v k).isFreed=Au/\∃s w,(Obj.putName name o h v k).data=.dict s w:=by
 obtain⟨c,d,A,E⟩:=k;simp only at z;subst z;rw[Obj.putName_eq,Obj.putNameByArray];cases a.findIdx? (·.key.isStr name)<;>exact⟨rfl,rfl,_,_,rfl⟩
noncomputable def FW (w z:AS):Prop:=∀b o A E,w.get? b=Ab o->o.data=.dict A E->∃h k s,z.get? b=Ab h/\h.cls=o.cls/\h.data=.dict k s
theorem R5 {M:Dq}{m:Str->Option Ae}{c:Unit->Aq->Prop}(f:s.heap.Ns a m)
 (N:∀h,h.Ns a (λ x=>if x=name then Ab v else m x)->BK a s.heap h->FW s.heap h->c () {s with heap:=h,toks:=s.toks+1}):
 Av M A (nsSet a name v) c E s:=by
 intro l p Q;have k:=(wpAny_nsSet (M:=M) (A:=A) (E:=E) f (Q:=λ _ g=>FW s.heap g.heap->c () g) λ h r u y=>N h r u y) l p Q;obtain⟨o,B,L,V,i,hk,O⟩:=f;have w:B.any (·.refKey)=Au:=by
  rw[Array.any_eq_false'];intro e C;obtain⟨n,t,N⟩:=hk e C;simp[DictEntry.refKey,N]
 simp -iota only[nsSet,strHash,Sem.wp_bind',Sem.wp_cmd_ask,Sem.wp_pure',Sem.wp_cmd_mkText] at k ⊢;rw[Sem.wp_loadPart_of _ _ _ _ {s with toks:=s.toks+1} _ V] at k ⊢;simp only[i,aRefKeyMayBeTheName_eq,aRefKeyMayBeTheNameByArray,w,H8,BR,if_false,Sem.wp_cmd_updatePart] at k ⊢;refine⟨k.1,k.2 λ b D W Z j d=>?_⟩;by_cases q:b=a
 ·subst b;obtain rfl:=A4 V j;obtain⟨G,I,z,H,J⟩:=TI name _ _ v o i;exact⟨_,z,H,B1 _ V I,G,J⟩
 ·exact⟨D,W,Z,by rw[Dh _ _ (Ne.symm q)];exact j,rfl,d⟩
theorem C4 {M:Dq}{m:Str->Option Ae}{a:Unit->Aq->Prop}(k:z.kindOf name=Ab .local)(o:s.heap.Ns z.locals m)
 (w:∀h,h.Ns z.locals (λ x=>if x=name then Ab v else m x)->BK z.locals s.heap h->FW s.heap h->a () {s with heap:=h,toks:=s.toks+1})
 (H:(z.scope.kind== .class||(z.scope.kind== .module&&z.locals !=z.globals))=Au):Av M A (M3 z name v) a E s:=by
 rw[storeName_local k H];exact R5 o w
theorem FW.af (k:∀b o,h.get? b=Ab o->H.get? b=Ab o):FW h H:=λ b o s w e z=>⟨o,s,w,k b o e,rfl,z⟩
theorem FW.trans (a:FW h H)(b:FW H d):FW h d:=λ c o w z e A=>by
 obtain⟨_,_,_,E,N,Q⟩:=a c o w z e A;obtain⟨V,k,s,W,Z,f⟩:=b c _ _ _ E Q;exact⟨V,k,s,W,Z.trans N,f⟩
variable {v:Ae} in
set_option genCtorIdx true in
inductive Ds where
 |aa (d:PV)
 |own (d:PV)
 |av (v:Ae)
 |cg (v:Ae) (d:PV)
noncomputable abbrev A5:=List (Str×Ds)
variable {O:A5}
noncomputable def D1 (x:Str):Bool:=!(x==("__debug__":Str))&&!(x==("__classdict__":Str))
structure CX (k:Nat)(A:Dj):Prop where
 handled:A.handled=Ah
 depth:A.depth+10*k<900
 units:A.units+100*k<9000
theorem CX.ai (h:CX k A)(o:j<=k):CX j A:=⟨h.handled,Ay (A0 (FF 10 o) _) h.depth,Ay (A0 (FF 100 o) _) h.units⟩
theorem CX.u (h:CX k A)(o:9000+b<=d):A.units+b<d:=Ao (Nat.add_lt_add_right (Ay (AR ..) h.units) b) o
theorem CX.d (h:CX k A){d:Nat}(o:900<=d):A.depth<d:=Ao (Ay (AR ..) h.depth) o
variable {r:List Bq}{g:Array CB} in
inductive wN (W:BV)(X:List Ai)(h:AS)(a:Ai)(xs:List PV):Prop
 |mk (vs0:Array Ae) (n0:Nat) (g:h.get? a=Ab (I0 vs0 n0)) (z:vs0.size<=BX) (r:RpL W X h vs0.toList xs)
variable {r:List Bq}{q:Pos}{g:Array CB}{y:Str} in
inductive wO (W:BV)(X:List Ai)(h:AS)(a:Ai)(es:List (Str×PV)):Prop
 |mk (kvs:List (Str×Ae)) (g:h.DictOf W.K a kvs) (y:(a==NT)=Au) (z:kvs.length<=BX) (q:kvs.map (·.1)=es.map (·.1)) (r:RpL W X h (kvs.map (·.2)) (es.map (·.2)))
variable {b:List PV}{c:List (Str×PV)} in
noncomputable def BY (h:BV)(X:List Ai)(k:AS)(a:Ai):PV->Prop
 | .list b=>wN h X k a b
 | .dict c=>wO h X k a c
 |_=>False
noncomputable def BU (h:BV)(o X:List Ai)(k:AS)(v:Ae):Ds->Prop
 | .aa d=>Rp h X k v d
 | .own d=>∃a,v=.ref a/\a∈X/\a∉o/\BY h X k a d
 | .av u=>v=u
 | .cg u d=>v=u/\Rp h X k v d
noncomputable def AV (h:Env):List Ai:=h.locals::h.cells.map (·.2)
noncomputable def dT (h:Bf)(x:Str):Prop:=h.names.lookup x=Ab .local\/h.names.lookup x=Ab .cell\/h.names.lookup x=Ab .free
variable {m:Str->Option Ae} in
inductive zZ (W:BV)(sc:Bf)(ah:Env)(Z X:List Ai)(h:AS)(ρ:A5):Prop
 |mk (m:Str->Option Ae) (hm:h.Ns ah.locals m) (hv:∀x sl,sc.names.lookup x=Ab .local->ρ.lookup x=Ab sl->∃v,m x=Ab v/\BU W Z X h v sl)
variable {c:Ai}{i:Nat} in
inductive iM (W:BV)(ah:Env)(Z X:List Ai)(h:AS)(ρ:A5)(x:Str):Prop
 |mk (c:Ai) (ov:Option Ae) (e:ah.cells.lookup x=Ab c) (i:h.IsCell c ov) (k:∀sl,ρ.lookup x=Ab sl->∃v,ov=Ab v/\BU W Z X h v sl)
structure FI (W:BV)(sc:Bf)(ah:Env)(Z X:List Ai)(h:AS)(ρ:A5):Prop where
 bb:∀a∈AV ah,a∈Z
 zx:∀a∈Z,a∈X
 kind:ah.scope.kind=.function
 bx:ah.globals=Cd
 blt:ah.builtins=Jg
 ea:∀x,sc.names.lookup x=Ab .local->ah.kindOf x=Ab .local
 da:∀x,sc.names.lookup x=Ab .cell->ah.kindOf x=Ab .cell
 df:∀x,sc.names.lookup x=Ab .free->ah.kindOf x=Ab .free\/ah.kindOf x=Ab .cell
 dp:∀x,sc.names.lookup x=Ab .globalImplicit->ah.kindOf x=Ab .globalImplicit
 ns:zZ W sc ah Z X h ρ
 cell:∀x,(sc.names.lookup x=Ab .cell\/sc.names.lookup x=Ab .free)->iM W ah Z X h ρ x
 inj:∀x y c,ah.cells.lookup x=Ab c->ah.cells.lookup y=Ab c->x=y
 dt:∀x sl,ρ.lookup x=Ab sl->dT sc x/\D1 x=Ag
 alive:∀a∈X,W.h0.get? a=CC/\∃o,h.get? a=Ab o
 ci:∀x y d e,ρ.lookup x=Ab (.own d)->ρ.lookup y=Ab (.own e)->x=y
section
theorem BY.to {W':BV}(hk:∀o,h.get? a=Ab o->(o.cls=.type "list"\/o.cls=.type "tuple"\/o.cls=.type "dict")->H.get? a=Ab o)(E:∀k,h.DictOf W.K a k->H.DictOf W'.K a k)(w:∀s A,RpL W X h s A->RpL W' Y H s A)(r:BY W X h a d):BY W' Y H a d:=by
 cases d with
 |list=>obtain⟨s,n,e,z,r⟩:=r;exact⟨s,n,hk _ e (.inl rfl),z,w _ _ r⟩
 |dict=>obtain⟨k,e,y,z,q,r⟩:=r;exact⟨k,E _ e,y,z,q,w _ _ r⟩
 |_=>exact r.elim
theorem BY.map (hk:∀o,h.get? a=Ab o->(o.cls=.type "list"\/o.cls=.type "tuple"\/o.cls=.type "dict")->H.get? a=Ab o)(w:∀k s,RpL W X h k s->RpL W Y H k s)(r:BY W X h a d):BY W Y H a d:=
 r.to hk (λ _ e=>OG e λ o z hc=>hk o z (.inr (.inr hc))) w
theorem BU.to (k:∀v d,Rp W X h v d->Rp W' Y H v d)(s:∀a d,a∈X->a∉Z->BY W X h a d->a∈Y/\a∉c/\BY W' Y H a d)(r:BU W Z X h v b):BU W' c Y H v b:=by
 cases b with
 |aa=>exact k _ _ r
 |own=>obtain⟨a,e,m,z,o⟩:=r;exact⟨a,e,s a _ m z o⟩
 |av=>exact r
 |cg=>exact⟨r.1,k _ _ r.2⟩
theorem BY.ae (k:BA W h H)(r:BY W X h a d):BY W X H a d:=r.map (λ _=>D3 k) λ _ _=>RpL.ae k
theorem BU.ae (k:BA W h H)(r:BU W Z X h v a):BU W Z X H v a:=r.to (λ _ _=>Rp.ae k) λ _ _ m z o=>⟨m,z,o.ae k⟩
theorem BY.az (o:BK b h H)(s:b∈X)(k:a≠b)(r:BY W X h a d):BY W X H a d:=r.map (λ _ e _=>(o.2 _ k).trans e) λ _ _=>RpL.az o s
theorem kH {m:Str->Option Ae}(N:BA W h H)(n:h.Ns a m)(Q:∀o,h.get? a=Ab o->∀s,o.data≠.fields s):H.Ns a m:=by
 obtain⟨o,w,z,O,A,r⟩:=n;rcases N.1 a o O with k |⟨_,_,V,k⟩ |⟨_,s,E,k,Z⟩
 ·exact⟨o,w,z,k,A,r⟩
 ·exact⟨_,w,z,k,A,r⟩
 ·subst k;contradiction
theorem Dl {m:Str->Option Ae}(s:BA W h H)(n:h.Ns a m):H.Ns a m:=
 kH s n λ o w E z=>by obtain⟨N,O,Q,k,A,_⟩:=n;obtain rfl:=A4 w k;cases A.symm.trans z
theorem GU (z:BA W h H)(n:h.IsCell c a):H.IsCell c a:=by
 obtain⟨o,A,s⟩:=n;rcases z.1 c o A with k |⟨_,_,E,k⟩ |⟨_,N,w,k,O⟩
 ·exact⟨o,k,s⟩
 ·exact⟨_,k,s⟩
 ·subst k;contradiction
theorem BJ (w:BA W h H)(n:∃o,h.get? a=Ab o):∃o,H.get? a=Ab o:=by
 obtain⟨o,z⟩:=n;rcases w.1 a o z with k |⟨_,_,A,k⟩ |⟨_,E,s,_,k⟩<;>exact⟨_,k⟩
theorem BA.bh (s:BA W h H)(e:H.get? a=CC):h.get? a=CC:=by
 cases q:h.get? a with
 |none=>rfl
 |some o=>obtain⟨w,k⟩:=BJ s ⟨o,q⟩;exact Dn e k
theorem FI.map {l:BV}{f:A5}(F:FI W V z Z X h O)(n:∀a∈AV z,a∈g)(p:∀a∈g,a∈j)(t:∀m,h.Ns z.locals m->H.Ns z.locals m)(hc:∀x c A,z.cells.lookup x=Ab c->h.IsCell c A->H.IsCell c A)
 (E:∀x s,f.lookup x=Ab s->∃w,O.lookup x=Ab w/\∀v,BU W Z X h v w->BU l g j H v s) (u:∀a∈j,l.h0.get? a=Ah/\∃o,H.get? a=Ab o) (N:∀x y d e,f.lookup x=Ab (.own d)->f.lookup y=Ab (.own e)->x=y):FI l V z g j H f where
 bb:=n
 zx:=p
 kind:=F.kind
 bx:=F.bx
 blt:=F.blt
 ea:=F.ea
 da:=F.da
 df:=F.df
 dp:=F.dp
 ns:=by
  obtain⟨m,B,k⟩:=F.ns;refine⟨m,t m B,λ x s a b=>?_⟩;obtain⟨w,e,r⟩:=E x s b;obtain⟨v,Q,q⟩:=k x w a e;exact⟨v,Q,r v q⟩
 cell:=λ x C=>by
  obtain⟨c,A,e,i,k⟩:=F.cell x C;refine⟨c,A,e,hc x c A e i,λ s b=>?_⟩;obtain⟨w,e,r⟩:=E x s b;obtain⟨v,Q,q⟩:=k w e;exact⟨v,Q,r v q⟩
 inj:=F.inj
 dt:=λ x s b=>by
  obtain⟨w,e,_⟩:=E x s b;exact F.dt x w e
 alive:=u
 ci:=N
theorem FI.same {f:BV}(F:FI W V z Z X h O)(w:∀a∈AV z,a∈b)(A:∀a∈b,a∈d)(E:∀m,h.Ns z.locals m->H.Ns z.locals m)(hc:∀x c s,z.cells.lookup x=Ab c->h.IsCell c s->H.IsCell c s)
 (N:∀x v k,O.lookup x=Ab k->BU W Z X h v k->BU f b d H v k) (Q:∀a∈d,f.h0.get? a=Ah/\∃o,H.get? a=Ab o):FI f V z b d H O:=
 F.map w A E hc (λ x k e=>⟨k,e,λ v=>N x v k e⟩) Q F.ci
theorem FI.ae (F:FI W V z Z X h O)(k:BA W h H):FI W V z Z X H O:=
 F.same F.bb F.zx (λ _=>Dl k) (λ _ _ _ _=>GU k) (λ _ _ _ _=>BU.ae k) λ a o=>⟨(F.alive a o).1,BJ k (F.alive a o).2⟩
theorem FI.aw (F:FI W V z Z X h O)(o:∀x k,c.lookup x=Ab k->O.lookup x=Ab k):FI W V z Z X h c:=
 F.map F.bb F.zx (λ _ h=>h) (λ _ _ _ _ h=>h) (λ x k e=>⟨k,o x k e,λ _ h=>h⟩) F.alive λ x y d e a b=>F.ci x y d e (o _ _ a) (o _ _ b)
theorem HU (h:D1 x=Ag):(x==("__debug__":Str))=Au/\(x==("__classdict__":Str))=Au:=by
 unfold D1 at h;cases k:x==("__debug__":Str)<;>cases o:x==("__classdict__":Str)<;>simp_all
theorem FI.load (F:FI W V z Z X s.heap O)(w:O.lookup x=Ab a)(o:∀v,BU W Z X s.heap v a->Q v s):
 Av W.M A (loadName z x) Q E s:=by
 obtain⟨b,H⟩:=F.dt x a w;rcases b with h |h
 ·obtain⟨m,d,N⟩:=F.ns;obtain⟨v,e,r⟩:=N x a h w;exact Fu F.kind (F.ea x h) d e (o v r)
 ·obtain⟨c,f,e,i,N⟩:=F.cell x h;obtain⟨v,rfl,r⟩:=N a w;rcases h with h |h
  ·exact J2 F.kind (F.da x h) e i (o v r)
  ·rcases F.df x h with k |k
   ·exact wpAny_loadName_free F.kind k e i (o v r) (HU H).2
   ·exact J2 F.kind k e i (o v r)
theorem FI.name (F:FI W V z Z X s.heap O)(h:O.lookup x=Ab sl)(k:∀v,BU W Z X s.heap v sl->Q v s):
 Av W.M A (eval (.Name x a) z) Q E s:=
 NS (F.load h k) (HU (F.dt x sl h).2).1
noncomputable def Ea (k:Bf)(h:Env)(a:Ai):Prop:=a=h.locals\/∃x,k.names.lookup x=Ab .cell/\h.cells.lookup x=Ab a
noncomputable def tM (k:BV)(P:Ai->Prop)(o s:AS):Prop:=∀h,(∀a,P a->h.get? a=CC)->BA k h o->BA k h s
structure Lr (W:BV)(P:Ai->Prop)(h h':AS):Prop where
 keep:∀b o,¬P b->h.get? b=Ab o->h'.get? b=Ab o
 j9:tM W P h h'
 cls:FW h h'
theorem tM.gj {P:Ai->Prop}(o:BA W h H):tM W P h H:=λ _ _ k=>k.trans o
theorem tM.trans {P:Ai->Prop}(a:tM W P h H)(b:tM W P H c):tM W P h c:=λ o s k=>b o s (a o s k)
theorem Lr.af {P:Ai->Prop}(k:∀b o,h.get? b=Ab o->H.get? b=Ab o):Lr W P h H:=⟨λ b o _ e=>k b o e,.gj (.af k),.af k⟩
theorem Lr.refl {P:Ai->Prop}:Lr W P h h:=.af λ _ _ e=>e
theorem Lr.trans {P:Ai->Prop}(a:Lr W P h H)(b:Lr W P H d):Lr W P h d:=⟨λ c o hc e=>b.keep c o hc (a.keep c o hc e),a.j9.trans b.j9,a.cls.trans b.cls⟩
theorem Rp.bj {P:Ai->Prop}(k:∀a,P a->a∈X)(S:Lr W P h H)(r:Rp W X h v d):Rp W X H v d:=r.bi λ b o e n _=>⟨S.keep b o (λ q=>n (k b q)) e,n⟩
theorem RpL.bj {P:Ai->Prop}(k:∀a,P a->a∈X)(S:Lr W P h H)(r:RpL W X h c d):RpL W X H c d:=r.bi λ b o e n _=>⟨S.keep b o (λ q=>n (k b q)) e,n⟩
theorem AI {a:Type}{x:Str}{v:a}{l:List (Str×a)}(h:y≠x):C9 y ((x,v)::l)=C9 y l:=by
 have:(y==x)=Au:=by simpa using h
 rw[List.lookup_cons,this]
theorem AC {a:Type}{x:Str}{v:a}{l:List (Str×a)}:C9 x ((x,v)::l)=Ab v:=by
 simp
theorem BU.az (k:BK b h H)(s:b∈X)(w:b∈Z)(r:BU W Z X h v a):BU W Z X H v a:=r.to (λ _ _=>Rp.az k s) λ _ _ m z o=>⟨m,z,o.az k s λ q=>z (q▸w)⟩
theorem MQ {m:Str->Option Ae}(i:h.IsCell c a)(n:h.Ns L m):c≠L:=by
 rintro rfl;obtain⟨o,w,z⟩:=i;obtain⟨A,E,H,k,s,_⟩:=n;obtain rfl:=A4 w k;cases z.symm.trans s
theorem Di (e:z.cells.lookup x=Ab c):c∈AV z:=
 Af _ (AF.mpr ⟨(x,c),mem_of_lookup e,rfl⟩)
theorem Gx (k:BK b h H)(s:∃o,H.get? b=Ab o)(w:∃o,h.get? a=Ab o):∃o,H.get? a=Ab o:=by
 by_cases q:a=b
 ·subst a;exact s
 ·rw[k.2 a q];exact w
theorem FI.dr (F:FI W V z Z X h O)(s:dT V x)(o:D1 x=Ag):∀y k,C9 y ((x,sl)::O)=Ab k->dT V y/\D1 y=Ag:=by
 intro y k e;by_cases q:y=x
 ·exact q▸⟨s,o⟩
 ·rw[AI q] at e;exact F.dt y k e
theorem FI.dm (F:FI W V z Z X h O)(o:∀d,a=.own d->∀y e,O.lookup y=Ab (.own e)->y=x):∀y s d e,C9 y ((x,a)::O)=Ab (.own d)->C9 s ((x,a)::O)=Ab (.own e)->y=s:=by
 have k:∀{y d},C9 y ((x,a)::O)=Ab (.own d)->y=x/\a=.own d\/O.lookup y=Ab (.own d):=λ{y d} h=>by
  by_cases q:y=x
  ·rw[q,AC] at h;exact .inl ⟨q,AN h⟩
  ·rw[AI q] at h;exact .inr h
 intro y s d e N Q;rcases k N with⟨w,b⟩ |A<;>rcases k Q with⟨E,c⟩ |H
 ·exact w.trans E.symm
 ·exact w.trans (o d b s e H).symm
 ·exact(o e c y d A).trans E.symm
 ·exact F.ci y s d e A H
theorem FI.cw (F:FI W V z Z X s.heap O){f:Unit->Aq->Prop}(hx:V.names.lookup x=Ab .local\/V.names.lookup x=Ab .cell)(T:D1 x=Ag)
 (C:BU W Z X s.heap v sl) (D:∀d,sl=.own d->∀y e,O.lookup y=Ab (.own e)->y=x)
 (a2:∀p tk,FI W V z Z X p ((x,sl)::O)->Lr W (Ea V z) s.heap p->s.toks<=tk->f () {s with heap:=p,toks:=tk}):
 Av W.M A (M3 z x v) f E s:=by
 have g:=F.dr (sl:=sl) (hx.elim .inl λ k=>.inr (.inl k)) T;have j:=F.dm D;obtain⟨m,G,hv⟩:=F.ns;rcases hx with l |l
 ·have Q:=F.bb _ Ad;have U:=F.zx _ Q;refine C4 (F.ea x l) G (λ p I h Y=>a2 p _ {F with ns:=?_,cell:=?_,dt:=g,ci:=j,alive:=?_} ⟨λ b o J e=>by rw[h.2 b (λ q=>J (.inl q))];exact e,λ J hf k=>k.az (hf _ (.inl rfl)) (λ o vs t hd=>?_) h,Y⟩ (Bo _)) (by rw[F.kind];rfl)
  ·refine⟨_,I,λ y w a b=>?_⟩;by_cases q:y=x
   ·subst y;rw[AC] at b;injection b with b;subst b;exact⟨v,by simp,C.az h U Q⟩
   ·rw[AI q] at b;obtain⟨u,e,r⟩:=hv y w a b;exact⟨u,by simpa[q] using e,r.az h U Q⟩
  ·intro y B;obtain⟨c,ov,e,i,k⟩:=F.cell y B;refine⟨c,ov,e,i.sameBut h (MQ i G),λ w b=>?_⟩;have q:y≠x:=by rintro rfl;rcases B with B |B<;>cases l.symm.trans B
   rw[AI q] at b;obtain⟨u,n,r⟩:=k w b;exact⟨u,n,r.az h U Q⟩
  ·intro a L;refine⟨(F.alive a L).1,Gx h ?_ (F.alive a L).2⟩;obtain⟨o,_,_,t,_⟩:=I;exact⟨o,t⟩
  ·exfalso;obtain⟨o',es,ep,H,N,_⟩:=G;obtain rfl:=A4 t H;cases hd.symm.trans N
 ·obtain⟨c,ov,e,i,k⟩:=F.cell x (.inl l);have Q:=F.bb _ (Di e);have mx:=F.zx _ Q;refine wpAny_storeName_cell F.kind (F.da x l) e i λ p M h=>a2 p _ {F with ns:=?_,cell:=?_,dt:=g,ci:=j,alive:=?_} ⟨λ b o J n=>by rw[h.2 b (λ q=>J (.inr ⟨x,l,q▸e⟩))];exact n,λ J hf k=>k.az (hf _ (.inr ⟨x,l,e⟩)) (λ o vs t hd=>?_) h,λ b o es ep R S=>⟨o,es,ep,by rw[h.2 b (λ q=>by cases q;obtain⟨o',H,N⟩:=i;obtain rfl:=A4 R H;cases S.symm.trans N)];exact R,rfl,S⟩⟩ (An _)
  ·refine⟨m,G.sameBut h (Ne.symm (MQ i G)),λ y w a b=>?_⟩;have q:y≠x:=by rintro rfl;cases l.symm.trans a
   rw[AI q] at b;obtain⟨u,n,r⟩:=hv y w a b;exact⟨u,n,r.az h mx Q⟩
  ·intro y B;by_cases q:y=x
   ·subst y;refine⟨c,Ab v,e,M,λ w b=>?_⟩;rw[AC] at b;injection b with b;subst b;exact⟨v,rfl,C.az h mx Q⟩
   ·obtain⟨c',a0,n,i',k'⟩:=F.cell y B;refine⟨c',a0,n,i'.sameBut h (λ a3=>q (F.inj y x c (a3▸n) e)),λ w b=>?_⟩;rw[AI q] at b;obtain⟨u,a1,r⟩:=k' w b;exact⟨u,a1,r.az h mx Q⟩
  ·intro a L;refine⟨(F.alive a L).1,Gx h ?_ (F.alive a L).2⟩;obtain⟨o,t,_⟩:=M;exact⟨o,t⟩
  ·exfalso;obtain⟨o',H,N⟩:=i;obtain rfl:=A4 t H;cases hd.symm.trans N
theorem FI.wr (F:FI W V z Z X h O)(k:Ea V z a):a∈Z:=by
 rcases k with rfl |⟨x,_,e⟩
 ·exact F.bb _ Ad
 ·exact F.bb _ (Di e)
theorem FI.br (F:FI W V z Z X h O)(k:Ea V z a):a∈X:=F.zx _ (F.wr k)
theorem BA.ext (N:BA W c h)(V:c.get? a=CC)(O:∀o z,h.get? a=Ab o->o.data=.fields z->o.cls≠.none/\o.cls≠.type "code")(A:BB a h H):BA W c H:=by
 refine⟨λ b o e=>?_,λ t=>W.ch _ _ (λ b o z e Q hc=>?_) (N.2 t)⟩
 ·have s:b≠a:=by rintro rfl;exact Dn V e
  rcases N.1 b o e with k |⟨n,k,Z,E⟩ |⟨n,z,w,k,E⟩
  ·exact .inl (A b o s k)
  ·exact .inr (.inl ⟨n,k,Z,A b _ s E⟩)
  ·exact .inr (.inr ⟨n,z,w,k,A b _ s E⟩)
 ·have s:b≠a:=by
   rintro rfl;rcases hc with hc |hc
   ·exact(O _ _ e Q).1 hc
   ·exact(O _ _ e Q).2 hc
  exact A b o s e
theorem Rp.ext (k:BB a h H)(s:a∈X)(r:Rp W X h v d):Rp W X H v d:=
 r.bi λ b o e n _=>⟨k b o (λ q=>n (q▸s)) e,n⟩
theorem RpL.ext (k:BB a h H)(s:a∈X)(r:RpL W X h c d):RpL W X H c d:=
 r.bi λ b o e n _=>⟨k b o (λ q=>n (q▸s)) e,n⟩
theorem BY.ext (o:BB b h H)(s:b∈X)(k:a≠b)(r:BY W X h a d):BY W X H a d:=r.map (λ _ e _=>o _ _ k e) λ _ _=>RpL.ext o s
theorem BU.ext (k:BB b h H)(s:b∈X)(w:b∈Z)(r:BU W Z X h v a):BU W Z X H v a:=r.to (λ _ _=>Rp.ext k s) λ _ _ m z o=>⟨m,z,o.ext k s λ q=>z (q▸w)⟩
theorem UH (k:BB a h H)(q:c≠a)(i:h.IsCell c b):H.IsCell c b:=by
 obtain⟨o,s,w⟩:=i;exact⟨o,k c o q s,w⟩
theorem FI.ext (F:FI W V z Z X h O)(k:BB a h H)(s:a∈Z)(w:a∉AV z)(E:∃o,H.get? a=Ab o):FI W V z Z X H O:=
 F.same F.bb F.zx (λ _ n=>n.extBut k λ q=>w (q▸Ad)) (λ _ _ _ e=>UH k λ q=>w (q▸Di e)) (λ _ _ _ _=>BU.ext k (F.zx _ s) s) λ b A=>⟨(F.alive b A).1,by
   by_cases q:b=a
   ·subst b;exact E
   ·obtain⟨o,N⟩:=(F.alive b A).2;exact⟨o,k b o q N⟩⟩
theorem BY.be (k:h.get? b=CC)(r:BY W X h a d):BY W (b::X) h a d:=r.map (λ _ e _=>e) λ _ _=>RpL.be k
theorem BY.alive (r:BY W X h a d):∃o,h.get? a=Ab o:=by
 cases d with
 |list=>obtain⟨w,n,e,_⟩:=r;exact⟨_,e⟩
 |dict=>obtain⟨k,⟨o,_,_,s,_⟩,_⟩:=r;exact⟨o,s⟩
 |_=>exact r.elim
theorem BU.be (k:h.get? b=CC)(r:BU W Z X h v c):BU W (b::Z) (b::X) h v c:=
 r.to (λ _ _=>Rp.be k) λ a _ m z o=>⟨Af _ m,λ q=>(Al.mp q).elim (λ q=>by obtain⟨x,s⟩:=o.alive;simp only[q,k] at s;contradiction) z,o.be k⟩
theorem DC (s:BA W W.h0 h)(w:h.get? a=CC):W.h0.get? a=CC:=by
 cases e:W.h0.get? a with
 |none=>rfl
 |some o=>
  obtain⟨z,k⟩:=BJ s ⟨o,e⟩;exact Dn w k
theorem FI.fresh (F:FI W V z Z X h O)(R:BA W W.h0 h)(s:BA W h H)(w:h.get? a=CC)(A:∃o,H.get? a=Ab o):FI W V z (a::Z) (a::X) H O:=
 F.same (λ b k=>Af _ (F.bb b k)) (λ b k=>(Al.mp k).elim (λ q=>q▸Ad) λ q=>Af _ (F.zx b q)) (λ _=>Dl s) (λ _ _ _ _=>GU s) (λ _ _ _ _ r=>(r.be w).ae s)
   λ b k=>(Al.mp k).elim (λ q=>q▸⟨DC R w,A⟩) λ q=>⟨(F.alive b q).1,BJ s (F.alive b q).2⟩
end
variable {i:Nat}{xs:List PV} in
mutual
noncomputable def Ik:PV->PyData
 | .none=>.none
 | .bool b=>.bool b
 | .int i=>.int i
 | .str s=>.str s
 | .list xs=>.list (toPyL xs)
 | .ba xs=>.tuple (toPyL xs)
 | .dict _=>.none
 | .obj _=>.none
noncomputable def toPyL:List PV->List PyData
 |[]=>[]
 |x::xs=>Ik x::toPyL xs
end
variable {n:Nat}{xs:List PV} in
mutual
noncomputable def SM:Nat->PV->Bool
 |_,.none=>Ag
 |_,.bool _=>Ag
 |_,.int _=>Ag
 |_,.str _=>Ag
 |0,.list _=>Au
 |n+1,.list xs=>lvlL n xs
 |0,.ba _=>Au
 |n+1,.ba xs=>lvlL n xs
 |_,.dict _=>Au
 |_,.obj _=>Au
noncomputable def lvlL:Nat->List PV->Bool
 |_,[]=>Ag
 |n,x::xs=>SM n x&&lvlL n xs
end
noncomputable def Rd (h:AS)(v:Ae)(d:PV)(n:Nat):Prop:=(∃k,Reads h v (Ik d) k)/\(Ik d).canLay0=Ag/\(Ik d).depth<=n
noncomputable def zY (k:AS)(o:List Ae)(h:List PV)(n:Nat):Prop:=(∃s,ReadsAll k o (toPyL h) s)/\PyData.canLayAll0 (toPyL h)=Ag/\PyData.depthAll (toPyL h)<=n
theorem Rd.up {f:Nat->Bool}(g:∀m,f (m+1)=Ag->Rd h v d (m+1))(k:f 0=Au)(q:f n=Ag):Rd h v d n:=match n,q with
 |0,q=>nomatch k.symm.trans q
 |m+1,q=>g m q
theorem Rp.reads (r:Rp W X h v d):SM n d=Ag->Rd h v d n:=
 Rp.rec (motive_2:=λ z w _=>∀n,lvlL n w=Ag->zY h z w n)
   (λ n _=>⟨⟨_,.none⟩,rfl,AY _⟩) (λ b n _=>⟨⟨_,.bool b⟩,rfl,AY _⟩) (λ i t n _=>⟨⟨_,.int i t⟩,rfl,AY _⟩)
   (λ x t a _ n _=>⟨⟨_,.str x t⟩,a,AY _⟩) (λ v n q=>nomatch (show SM n (.obj v)=Au by cases n<;>rfl).symm.trans q)
   (λ e _ _ _ o n q=>Rd.up (f:=λ n=>SM n (.list _)) (λ m q=>by obtain⟨⟨_,r⟩,c,k⟩:=o m q;exact⟨⟨_,.list e rfl rfl r⟩,c,Bt k⟩) rfl q)
   (λ e _ _ _ o n q=>Rd.up (f:=λ n=>SM n (.ba _)) (λ m q=>by obtain⟨⟨_,r⟩,c,k⟩:=o m q;exact⟨⟨_,.tuple e rfl rfl r⟩,c,Bt k⟩) rfl q)
   (λ{_ _ A} _ _ _ _ _ _ _ n q=>nomatch (show SM n (.dict A)=Au by cases n<;>rfl).symm.trans q)
   (λ n _=>⟨⟨_,.nil⟩,rfl,AY _⟩)
   (λ _ _ i j n q=>by obtain⟨⟨_,r⟩,c,k⟩:=i n (AB.mp q).1;exact by obtain⟨⟨_,E⟩,H,s⟩:=j n (AB.mp q).2;exact⟨⟨_,.cons r E⟩,AB.mpr ⟨c,H⟩,Nat.max_le.mpr ⟨k,s⟩⟩) r n
theorem RpL.reads (r:RpL W X h d b):lvlL n b=Ag->zY h d b n:=
 r.bt (P:=λ d b=>lvlL n b=Ag->zY h d b n) (λ _=>⟨⟨_,.nil⟩,rfl,AY _⟩) λ _ _ _ _ a _ i q=>by
   obtain⟨⟨_,r⟩,c,o⟩:=a.reads (AB.mp q).1;obtain⟨⟨_,s⟩,w,k⟩:=i (AB.mp q).2;exact⟨⟨_,.cons r s⟩,AB.mpr ⟨c,w⟩,Nat.max_le.mpr ⟨o,k⟩⟩
noncomputable def w8 (b:Bool):Int:=if b then 1 else 0
noncomputable def SR (c:Prop) [Decidable c] (d:PV):Option PV:=if c then Ab d else Ah
theorem Pe {c:Prop} [Decidable c] (h:c):SR c d=Ab d:=if_pos h
theorem Fk {c:Prop} [Decidable c] (e:SR c x=Ab d):c/\x=d:=by
 unfold SR at e;split at e
 ·exact⟨‹_›,AN e⟩
 ·contradiction
theorem no {a:Type}{d:a}{P:Prop}(e:Ah=Ab d):P:=(by contradiction)
theorem Rp.at (e:x=d)(r:Rp W X h v x):Rp W X h v d:=e▸r
theorem Rp.yes (e:Ab x=Ab d)(r:Rp W X h v x):Rp W X h v d:=AN e▸r
variable {y:Str} in
noncomputable def ZE (b:PV)(f:Int->Option PV):Option PV:=match b with
 | .int y=>f y
 |_=>Ah
noncomputable def wI (a b:PV):Option PV:=match a with
 | .int x=>ZE b λ y=>Ab (.int (x+y))
 | .str x=>(match b with
   | .str y=>SR (x.length+y.length<=BX) (.str (x++y))
   |_=>Ah)
 | .list x=>(match b with
   | .list y=>SR (x.length+y.length<=BX) (.list (x++y))
   |_=>Ah)
 |_=>Ah
noncomputable def uD (a b:PV):Option PV:=match a with
 | .int x=>ZE b λ y=>Ab (.int (x-y))
 | .bool x=>(match b with
   | .bool y=>Ab (.int (w8 x-w8 y))
   |_=>Ah)
 |_=>Ah
noncomputable def vF:List PV->Option PV
 |[x]=>Ab x
 |_=>Ah
variable {l:List Env} in
noncomputable def uX (a b:PV):Option PV:=match a with
 | .int x=>ZE b λ y=>SR (x.natAbs<4294967296) (.int (x*y))
 | .str x=>ZE b λ n=>SR (0<=n/\n<=100/\x.length<=100/\A9 (Txt.mul x n)=Ag/\(Txt.mul x n).length<=BX) (.str (Txt.mul x n))
 | .list l=>ZE b λ n=>(vF l).bind λ x=>SR (0<=n/\n<=1000) (.list (Bg n.toNat x))
 |_=>Ah
noncomputable def QS (f:Int->Int->Option PV)(a b:PV):Option PV:=ZE a λ x=>ZE b (f x)
noncomputable def GC (h:Operator)(a b:PV):Option PV:=match h with
 | .Add=>wI a b
 | .Sub=>uD a b
 | .Mult=>uX a b
 | .FloorDiv=>QS (λ x y=>SR (y≠0/\y.natAbs<1073741824) (.int (x.fdiv y))) a b
 | .Mod=>QS (λ x y=>SR (y≠0) (.int (x.fmod y))) a b
 | .Pow=>QS (λ x n=>SR (0<=n/\n<=64/\x.natAbs<1048576) (.int (x^n.toNat))) a b
 | .BitAnd=>QS (λ x y=>Ab (.int (AO x y))) a b
 | .BitOr=>QS (λ x y=>Ab (.int (Builtin.bitOr x y))) a b
 |_=>Ah
theorem Dp.of {b:Type}{t:Sem b}{P:b->AS->Prop}
 (w:∀(Q:b->Aq->Prop)(E:I9),(∀a h o,BA W s.heap h->P a h->Q a {s with heap:=h,toks:=o})->Av W.M A t Q E s):Dp W A t s P:=λ Q E z=>
 Cy (An _) (w _ _ λ a h o k p l=>z a h o k l p)
theorem Sh (h:A9 x=Ag)(k:A9 y=Ag):A9 (x++y)=Ag:=by
 unfold PyData.strOk at*;rw[Str.cps_append,Array.all_append,h,k];rfl
theorem Dp.newList (w:∀a∈X,∃o,s.heap.get? a=Ab o)(r:RpL W X s.heap c b)(h:b.length<=BX):Dp W A (PySem.newList c) s (λ v z=>Rp W X z v (.list b)):=.of λ Q E H=>by
 have k:=r.length;refine B2 (H _ _ _ (.push _ _) ?_) (Aa (Aa (Az k) h) FR);refine .list (AD _ rfl) (λ N=>?_) (Aa (Az k) h) (r.ae (.push _ _));obtain⟨o,O⟩:=w _ N;exact EW _ (AT O)
theorem Dp.newTuple (w:∀a∈X,∃o,s.heap.get? a=Ab o)(r:RpL W X s.heap c b)(h:b.length<=BX):Dp W A (PySem.newTuple c) s (λ v z=>Rp W X z v (.ba b)):=.of λ Q E H=>by
 have k:=r.length;refine B2 (H _ _ _ (.push _ _) ?_) (Aa (Aa (Az k) h) FR);refine .ba (AD _ rfl) (λ N=>?_) (Aa (Az k) h) (r.ae (.push _ _));obtain⟨o,O⟩:=w _ N;exact EW _ (AT O)
theorem II (k:∀a∈X,∃o,h.get? a=Ab o):h.objs.size∉X:=λ s=>by
 obtain⟨o,w⟩:=k _ s;exact EW _ (AT w)
theorem L4 (x:Ae):∀n(h:Array Ae),List.foldl (λ a b=>a++b) h (Bg n #[x])=h++(Bg n x).toArray:=by
 intro n;induction n with
 |zero=>
  intro h;rfl
 |succ n k=>
  intro h;simp only[List.replicate_succ,List.foldl_cons,k,List.replicate_succ];apply Array.ext';simp
theorem RpL.replicate (r:Rp W X a v d):∀n,RpL W X a (Bg n v) (Bg n d):=by
 intro n;induction n with
 |zero=>
  exact .nil
 |succ n h=>
  exact .cons r (h)
theorem Mj (h:x.natAbs<4294967296):Builtin.Int.intBits x<=64:=by
 unfold Builtin.Int.intBits;split
 ·exact AY _
 ·have:Nat.log2 x.natAbs<64:=(Nat.log2_lt (by simp_all)).mpr (Cu h (by decide+kernel))
  assumption
theorem Hd {f:Int->Option PV}{P:Ae->Prop}(rb:Rp W X h a b)(e:ZE b f=Ab d)(k:∀y u,f y=Ab d->P (.int y u)):P a:=by
 cases b with
 |int y=>obtain⟨u,rfl⟩:=rb.aj;exact k y u e
 |_=>exact no e
theorem JN {f:Int->Int->Option PV}{P:Ae->Ae->Prop}(k:Rp W X h g a)(rb:Rp W X h c b)(e:QS f a b=Ab d)(o:∀x t y u,f x y=Ab d->P (.int x t) (.int y u)):P g c:=
 Hd (P:=λ v=>P v c) k e λ x t e=>Hd rb e λ y u=>o x t y u
noncomputable def lQ (b:PV)(f:List PV->Option PV):Option PV:=match b with
 | .list x=>f x
 |_=>Ah
variable {y:Str} in
noncomputable def Vl (b:PV)(f:Str->Option PV):Option PV:=match b with
 | .str y=>f y
 |_=>Ah
variable {r:List Bq} in
noncomputable def Tp (l:List PV)(f:PV->Option PV):Option PV:=match l with
 |[]=>Ah
 |x::r=>(match r with
  |[]=>f x
  |_::_=>Ah)
variable {r:List Bq} in
noncomputable def uA (l:List PV)(f:PV->PV->Option PV):Option PV:=match l with
 |[]=>Ah
 |x::r=>Tp r (f x)
theorem Nw {f:List PV->Option PV}{P:Ae->Prop}(rb:Rp W X h c b)(e:lQ b f=Ab d)(s:∀a k n o,h.get? a=Ab (I0 k n)->k.size<=BX->RpL W X h k.toList o->f o=Ab d->P (.ref a)):P c:=by
 cases b with
 |list o=>obtain⟨a,k,n,rfl,w,_,z,r⟩:=rb.aj;exact s a k n o w z r e
 |_=>exact no e
theorem JE {f:Str->Option PV}{P:Ae->Prop}(rb:Rp W X h a b)(e:Vl b f=Ab d)(k:∀y u,A9 y=Ag->y.length<=BX->f y=Ab d->P (.str y u)):P a:=by
 cases b with
 |str y=>obtain⟨t,rfl,o,z⟩:=rb.aj;exact k y t o z e
 |_=>exact no e
theorem N8 {f:PV->Option PV}{P:List Ae->Prop}(r:RpL W X h b l)(e:Tp l f=Ab d)(k:∀v x,Rp W X h v x->f x=Ab d->P [v]):P b:=by
 cases r with
 |nil=>exact no e
 |cons a r=>
  cases r with
  |nil=>exact k _ _ a e
  |cons=>exact no e
theorem Q8 {f:PV->PV->Option PV}{P:List Ae->Prop}(r:RpL W X h c l)(e:uA l f=Ab d)(k:∀v x w y,Rp W X h v x->Rp W X h w y->f x y=Ab d->P [v,w]):P c:=by
 cases r with
 |nil=>exact no e
 |cons a r=>exact N8 (P:=λ l=>P (_::l)) r e λ w y b e=>k _ _ w y a b e
theorem UR {a b:Array Ae}(h:s.heap.get? l=Ab (I0 a n))(o:s.heap.get? m=Ab (I0 b k))(w:a.size+b.size<=BX)
 (z:Q (.ref s.heap.objs.size) {s with heap:=s.heap.push (I0 (a++b) 0)}):Av W.M A (Fi .Add (.ref l) (.ref m)) Q E s:=
 concat_meets ⟨_,h,rfl⟩ ⟨_,o,rfl⟩ noFill_list_add seq_list_add PySem.F.slot_list_add PySem.F.entry_list_add (PySem.F.args_list_add_2 _ _)
  (PyProof.Rows.list_addW l m a b n k CC CC #[] #[] (Aa w FR)) ⟨h,o,z⟩
theorem TY {a:Int}(h:s.heap.get? l=Ab (I0 #[v] n))(o:0<=a)(k:a<=1000)
 (w:Q (.ref s.heap.objs.size) {s with heap:=s.heap.push (I0 (Bg a.toNat v).toArray 0)}):Av W.M A (Fi .Mult (.ref l) (.int a u)) Q E s:=by
 have hk:=Aa (Az (Nat.one_mul _)) (Int.toNat_le.mpr k);refine wpAny_binaryOp_repeat_ref (rfl) ⟨_,h,rfl⟩ (λ H=>typeIs_int H a u) noFill_list_mul F.fills_int_mul F.slot_int_rmul repeat_list F.slot_int_index.lookup
  (Ie F.slot_int_rmul (typeIs_int s a u) F.entry_int_rmul (F.args_int_rmul_2 _ _) (int___rmul___int_list a u l #[v] n)
   ⟨h,rfl,⟨_,h,rfl⟩,Ie F.slot_list_mul ⟨_,h,rfl⟩ F.entry_list_mul (F.args_list_mul_2 _ _)
     (AutoListH.list___mul___list_int_3 l #[v] n a u (by rw[show Builtin.List.listFitsIndex a=Ag from AB.mpr ⟨decide_eq_true (Cw (by decide+kernel) o),decide_eq_true (DB k (by decide+kernel))⟩];decide) (B6.mpr (Aa hk (by decide+kernel))) (λ z=>absurd (of_decide_eq_true z) (B6.mpr (Aa hk (by decide+kernel)))))
     ⟨h,?_⟩⟩)
 rw[show(if(#[v]:Array Ae).isEmpty=Ag then 0 else a.toNat)=a.toNat from rfl,L4];exact(Array.empty_append).symm▸w
theorem WW {a b:Array Ae}{x y:List PV}(o:RpL W X h a.toList x)(s:RpL W X h b.toList y)(e:SR (x.length+y.length<=BX) (.list (x++y))=Ab d):a.size+b.size<=BX/\PV.list (x++y)=d/\(a++b).size<=BX/\RpL W X h (a++b).toList (x++y):=by
 have k:=(Fk e).1;rw[<-o.length,<-s.length] at k;have k:=k;exact⟨k,(Fk e).2,Array.size_append▸k,by rw[Array.toList_append];exact o.append s⟩
theorem WV {a:Array Ae}{n:Int}(k:RpL W X h a.toList l)(e:((vF l).bind λ x=>SR (0<=n/\n<=1000) (.list (Bg n.toNat x)))=Ab d):
 ∃v x,a= #[v]/\(0<=n/\n<=1000)/\PV.list (Bg n.toNat x)=d/\(Bg n.toNat v).toArray.size<=BX/\RpL W X h (Bg n.toNat v) (Bg n.toNat x):=by
 obtain⟨o⟩:=a;cases l with
 |nil=>exact no e
 |cons x t=>
  cases t with
  |cons y t=>exact no e
  |nil=>
   obtain⟨v,_,rfl,r,q⟩:=k.aj;obtain rfl:=q.aj
   ·have q:=Fk e;refine⟨_,x,rfl,q.1,q.2,?_,.replicate r _⟩;rw[List.size_toArray,MV];exact Aa (Int.toNat_le.mpr q.1.2) (AM rfl)
theorem YG {x:Int}(k:x.natAbs<4294967296):IntMulOk x y:=by
 unfold IntMulOk;simp only[AG,decide_eq_true_eq,not_and];exact λ h=>absurd h.1 (B6.mpr (Mj k))
theorem kQ {x:Str}{n:Int}(o:0<=n)(h:n<=100)(k:x.length<=100):x.length*n.toNat<=10000:=Nat.mul_le_mul k (Int.toNat_le.mpr h)
theorem Zq (H:∀a∈X,∃o,s.heap.get? a=Ab o)(h:Rp W X s.heap f a)(rb:Rp W X s.heap c b)(e:wI a b=Ab d):
 Dp W A (Fi .Add f c) s (λ v N=>Rp W X N v d):=.of λ Q E w=>by
 cases a with
 |int x=>exact JN (f:=λ x y=>Ab (.int (x+y))) (P:=λ f c=>Av W.M A (Fi .Add f c) Q E s) h rb e λ x t y u e=>PyProof.Rows.add_int (w _ _ _ (.refl _) (.yes e (.int _ _)))
 |str x=>
  obtain⟨t,rfl,O,z1⟩:=h.aj;refine JE (P:=λ c=>Av W.M A (Fi .Add _ c) Q E s) rb e λ y u V z2 e=>?_;have z:=(Fk e).1;exact PyProof.Rows.add_str (λ p r=>w _ _ _ (.refl _) (.at (Fk e).2 (.str _ _ (Sh O V) (Str.length_append ..▸z)))) (Aa z FR)
 |list x=>
  obtain⟨l,B,n,rfl,Z,C,z1,g⟩:=h.aj;refine Nw (P:=λ c=>Av W.M A (Fi .Add _ c) Q E s) rb e λ m D k y i z2 j e=>?_;have q:=WW g j e;exact UR Z i q.1 (w _ _ _ (.push _ _) (.at q.2.1 (.list (AD _ rfl) (II H) q.2.2.1 (q.2.2.2.ae (BA.push _ _)))))
 |_=>exact no e
theorem Yh (H:∀a∈X,∃o,s.heap.get? a=Ab o)(h:Rp W X s.heap f a)(rb:Rp W X s.heap c b)(e:uX a b=Ab d):
 Dp W A (Fi .Mult f c) s (λ v N=>Rp W X N v d):=.of λ Q E w=>by
 cases a with
 |int x=>exact JN (f:=λ x y=>SR (x.natAbs<4294967296) (.int (x*y))) (P:=λ f c=>Av W.M A (Fi .Mult f c) Q E s) h rb e λ x t y u e=>PyProof.Rows.mul_int (w _ _ _ (.refl _) (.at (Fk e).2 (.int _ _))) (YG (Fk e).1)
 |str x=>
  obtain⟨t,rfl,p,z1⟩:=h.aj;refine Hd (P:=λ c=>Av W.M A (Fi .Mult _ c) Q E s) rb e λ n u e=>?_;have q:=Fk e;exact SB.mul ⟨Bool.or_eq_false_iff.mpr ⟨decide_eq_false (Hq.mpr (Cw (by decide+kernel) q.1.1)),decide_eq_false (Mx.mpr (DB q.1.2.1 (by decide+kernel)))⟩,
   λ O _=>Hq.mpr ((Int.le_ediv_iff_mul_le (Hq.mp O)).mpr (Cw (Int.mul_le_mul (ER.mpr q.1.2.2.1) q.1.2.1 q.1.1 (by decide)) (by decide+kernel))),
   λ _ _=>decide_eq_false (B6.mpr (Aa (kQ q.1.1 q.1.2.1 q.1.2.2.1) (by decide+kernel)))⟩ λ r k=>w _ _ _ (.refl _) (.at q.2 (.str _ _ q.1.2.2.2.1 q.1.2.2.2.2))
 |list x=>
  obtain⟨l,B,m,rfl,V,C,z1,Z⟩:=h.aj;refine Hd (P:=λ c=>Av W.M A (Fi .Mult _ c) Q E s) rb e λ n u e=>?_;obtain⟨v,x,rfl,z,g,i,j⟩:=WV Z e;exact TY V z.1 z.2 (w _ _ _ (.push _ _) (.at g (.list (AD _ rfl) (II H) i (j.ae (BA.push _ _)))))
 |_=>exact no e
theorem jY {x:Int}(h:0<=n/\n<=64/\x.natAbs<1048576):((Builtin.Int.intBits x:Nat):Int)*n<=64*64:=
 Int.mul_le_mul (ER.mpr (Mj (Cu h.2.2 (by decide)))) h.2.1 h.1 (by decide)
theorem MR (N:∀a∈X,∃o,s.heap.get? a=Ab o)(h:Rp W X s.heap g a)(rb:Rp W X s.heap i b)(e:GC c a b=Ab d):
 Dp W A (Fi c g i) s (λ v H=>Rp W X H v d):=by
 have I:∀(c:Operator)(f:Int->Int->Option PV),QS f a b=Ab d->(∀(Q:I9)(E:I9) x t y u,f x y=Ab d->(∀z,PV.int z=d->Q (.int z s.toks) {s with toks:=s.toks+1})->Av W.M A (Fi c (.int x t) (.int y u)) Q E s)->Dp W A (Fi c g i) s (λ v H=>Rp W X H v d):=
  λ c f e k=>.of λ Q E w=>JN (P:=λ g i=>Av W.M A (Fi c g i) Q E s) h rb e λ x t y u e=>k Q E x t y u e λ z q=>w _ s.heap (s.toks+1) (.refl _) (.at q (.int _ _))
 cases c with
 |Add=>exact Zq N h rb e
 |Mult=>exact Yh N h rb e
 |Sub=>
  refine .of λ Q E w=>?_;cases a with
  |int x=>exact JN (f:=λ x y=>Ab (.int (x-y))) (P:=λ g i=>Av W.M A (Fi .Sub g i) Q E s) h rb e λ x t y u e=>PyProof.Rows.sub_int (w _ _ _ (.refl _) (.yes e (.int _ _)))
  |bool x=>
   cases b with
   |bool y=>
    have q:g=.bool x:=h.aj;exact q▸rb.aj▸PyProof.Rows.sub_bool (w _ _ _ (.refl _) (.yes e (.int _ _)))
   |_=>exact no e
  |_=>exact no e
 |FloorDiv=>exact I _ _ e λ Q E x t y u e q=>PyProof.Rows.floordiv_int (Fk e).1.1 (q _ (Fk e).2) (.inl (PyProof.noPylong_small (Fk e).1.2))
 |Mod=>exact I _ _ e λ Q E x t y u e q=>PyProof.Rows.mod_int (Fk e).1 (q _ (Fk e).2)
 |Pow=>exact I _ _ e λ Q E x t y u e q=>PyProof.Rows.pow_int (Fk e).1.1 (Cw (jY (Fk e).1) (by decide+kernel)) (q _ (Fk e).2)
 |BitAnd=>exact I _ _ e λ Q E x t y u e q=>PyProof.Rows.and_int (q _ (AN e))
 |BitOr=>exact I _ _ e λ Q E x t y u e q=>PyProof.Rows.or_int (q _ (AN e))
 |_=>exact no e
noncomputable def NW (a b:PV):Option Bool:=if SM 6 a&&SM 6 b then Ab (C7 (Ik a) (Ik b)) else Ah
variable {c:List PV}{d:List (Str×PV)} in
noncomputable def ZD (a b:PV):Option Bool:=match b with
 | .list c=>if SM 6 a&&lvlL 6 c then Ab ((toPyL c).any λ y=>C7 y (Ik a)) else Ah
 | .dict d=>match a with
   | .str k=>Ab (d.any λ e=>e.1=k)
   |_=>Ah
 |_=>Ah
variable {y:Str} in
noncomputable def Zg (f:Int->Int->Bool)(a b:PV):Option Bool:=match a with
 | .int x=>(match b with
   | .int y=>Ab (f x y)
   |_=>Ah)
 |_=>Ah
noncomputable def yE (n m:Bool)(a b:PV):Option Bool:=match b with
 | .none=>(match a with
   | .none=>Ab n
   | .obj _=>Ah
   |_=>Ab m)
 |_=>Ah
noncomputable def I6 (h:CmpOp)(a b:PV):Option Bool:=match h with
 | .Eq=>NW a b
 | .NotEq=>(NW a b).map (!·)
 | .Lt=>Zg (λ x y=>decide (x<y)) a b
 | .LtE=>Zg (λ x y=>decide (x<=y)) a b
 | .Gt=>Zg (λ x y=>decide (y<x)) a b
 | .GtE=>Zg (λ x y=>decide (y<=x)) a b
 | .In=>ZD a b
 | .NotIn=>(ZD a b).map (!·)
 | .Is=>yE Ag Au a b
 | .IsNot=>yE Au Ag a b
variable {i:Nat}{a:List PV} in
noncomputable def Pm:PV->Option Bool
 | .bool b=>Ab b
 | .list a=>Ab (!a.isEmpty)
 | .int i=>Ab (i !=0)
 |_=>Ah
noncomputable def QV (h:Int):Bool:=decide (-9223372036854775808<=h)&&decide (h<9223372036854775808)
noncomputable def Z1 (h:List PV)(k:Int):Option PV:=if QV k then(Gw k h.length).bind (h[·]?) else Ah
variable {b:List PV}{d:List (Str×PV)} in
noncomputable def ET (a h:PV):Option PV:=match a with
 | .list b=>ZE h (Z1 b)
 | .ba b=>ZE h (Z1 b)
 | .str x=>ZE h λ h=>if QV h then((Gw h x.length).bind (x.cps[·]?)).map λ c=>.str ⟨#[c]⟩ else Ah
 | .dict d=>Vl h λ h=>(d.find? λ e=>e.1=h).map (·.2)
 |_=>Ah
noncomputable def Jd (h:List PV)(lo k st:Option Int):List PV:=
 (KU (Cc lo k st h.length).1 (Cc lo k st h.length).2.1 (Cc lo k st h.length).2.2).filterMap (h[·]?)
variable {b:List PV} in
noncomputable def En (a:PV)(lo h st:Option Int):Option PV:=match a with
 | .list b=>SR (st≠Ab 0/\(Jd b lo h st).length<=BX) (.list (Jd b lo h st))
 | .str x=>SR (st=Ah) (.str (JR x lo h))
 |_=>Ah
noncomputable def QG (h:BV)(X:List Ai)(k:AS)(v:Ae)(d:PV):Prop:=Rp h X k v d\/∃a,v=.ref a/\BY h X k a d
theorem QG.list (r:QG W X h v (.list b)):∃a,v=.ref a/\wN W X h a b:=
 r.elim (λ r=>by obtain⟨a,vs,n,q,e,_,z,r⟩:=r.aj;exact⟨a,q,vs,n,e,z,r⟩) id
theorem QG.dict (r:QG W X h v (.dict b)):∃a,v=.ref a/\wO W X h a b:=
 r.elim (λ r=>by obtain⟨a,k,q,e,_,y,z,p,r⟩:=r.aj;exact⟨a,q,k,e,y,z,p,r⟩) id
theorem Kb {a:Type}{x d:a}(e:(if c then Ab x else Ah)=Ab d):c=Ag/\x=d:=by
 cases c with
 |true=>exact⟨rfl,AN e⟩
 |false=>exact no e
theorem IA {a:Type}{x:Option a}{d:a}(e:(if c then x else Ah)=Ab d):c=Ag/\x=Ab d:=by
 cases c with
 |true=>exact⟨rfl,e⟩
 |false=>exact no e
theorem DD (h:(a&&b)=Ag):a=Ag/\b=Ag:=(AG a b).mp h
theorem wV (h:u<=9000)(d:m<=6):u+min m n<I7:=Ay (FL h (Aa (EH ..) d)) (show(9006:Nat)<I7 by decide+kernel)
theorem Y1 (h:A.units<9000)(k:Rp W X s.heap c a)(rb:Rp W X s.heap d b)(e:NW a b=Ab r)(o:Q (.bool r) s):
 Av W.M A (EN .Eq c d) Q E s:=
 have q:=Kb e;have⟨⟨_,w⟩,z,H⟩:=k.reads (DD q.1).1;have⟨⟨_,N⟩,O,V⟩:=rb.reads (DD q.1).2
 SeqAt.compareEq_reads w N z O (wV (AX h) H) (q.2▸o)
theorem Yf (h:A.units<9000)(k:Rp W X s.heap c a)(rb:Rp W X s.heap d b)(e:NW a b=Ab r)(o:Q (.bool (!r)) s):
 Av W.M A (EN .NotEq c d) Q E s:=
 have q:=Kb e;have⟨⟨_,w⟩,z,H⟩:=k.reads (DD q.1).1;have⟨⟨_,N⟩,O,V⟩:=rb.reads (DD q.1).2
 SeqAt.compareNe_reads w N z O (wV (AX h) H) (q.2▸o)
theorem LL {b:List (Str×PV)}{a:List (Str×Ae)}(o:Str):a.map (·.1)=b.map (·.1)->RpL W X h (a.map (·.2)) (b.map (·.2))->
 ((a.find? λ k=>k.1=o).isSome=(b.any λ e=>e.1=o))/\∀d,(b.find? λ e=>e.1=o).map (·.2)=Ab d->∃v,(a.find? λ k=>k.1=o).map (·.2)=Ab v/\Rp W X h v d:=by
 induction a generalizing b with
 |nil=>
  intro e r;cases b with
  |nil=>exact⟨rfl,λ d q=>by contradiction⟩
  |cons _ _=>contradiction
 |cons k a E=>
  intro e r;cases b with
  |nil=>contradiction
  |cons x b=>
   obtain⟨s,H⟩:=HZ e;have w:=RpL.gy r;obtain⟨N,O⟩:=E H w.2;by_cases q:x.1=o
   ·have A:=decide_eq_true q;rw[F2 (p:=λ k:Str×Ae=>decide (k.1=o)) (decide_eq_true (s.trans q)),F2 (p:=λ k:Str×PV=>decide (k.1=o)) A,List.any_cons,A];exact⟨rfl,λ d z=>⟨k.2,rfl,AN z▸w.1⟩⟩
   ·rw[EP (a:=k) (λ z=>q (s.symm.trans (of_decide_eq_true z))),EP (a:=x) (λ z=>q (of_decide_eq_true z)),List.any_cons,decide_eq_false q,Bool.false_or];exact⟨N,O⟩
theorem Wj:W.K.is a (.str a t)=Ag:=beq_self_eq_true a
theorem Re {b:List (Str×PV)}{a:List (Str×Ae)}(k:Str)(q:a.map (·.1)=b.map (·.1))(r:RpL W X h (a.map (·.2)) (b.map (·.2))):(valueAt a k).isSome=b.any λ e=>e.1=k:=
 (Option.isSome_map ..).trans (LL k q r).1
theorem RH {c:List (Str×PV)}{P:Ae->Prop}(k:Rp W X h b a)(e:ZD a (.dict c)=Ab r)(o:∀y t,(c.any λ e=>e.1=y)=r->P (.str y t)):P b:=by
 cases a with
 |str y=>obtain⟨t,rfl,_⟩:=k.aj;exact o y t (AN e)
 |_=>exact no e
theorem YI (N:A.units<9000)(w:Rp W X s.heap c a)(rb:QG W X s.heap d b)(e:ZD a b=Ab r)(H:∀O,Q (.bool r) {s with toks:=O}):
 Av W.M A (EN .In c d) Q E s:=by
 cases b with
 |list j=>
  have q:=Kb e;obtain⟨l,rfl,m,n,o,z1,h⟩:=rb.list;have⟨⟨_,h⟩,V,Z⟩:=h.reads (DD q.1).2;have⟨⟨_,f⟩,g,p⟩:=w.reads (DD q.1).1;exact SeqAt.in_list_reads (.list o rfl rfl h) f V g (wV (Nat.succ_le_of_lt N) Z) (q.2▸H _)
 |dict u=>
  obtain⟨l,rfl,i,o,y,z,q,h⟩:=rb.dict;exact RH (P:=λ c=>Av W.M A (EN .In c _) Q E s) w e λ k t e=>wpAny_in_of Wj y o.mapOf ((Re k q h).trans e▸H _)
 |_=>exact no e
theorem SF (N:A.units<9000)(w:Rp W X s.heap c a)(rb:QG W X s.heap d b)(e:ZD a b=Ab r)(H:∀O,Q (.bool (!r)) {s with toks:=O}):
 Av W.M A (EN .NotIn c d) Q E s:=by
 cases b with
 |list j=>
  have q:=Kb e;obtain⟨l,rfl,m,n,o,z1,h⟩:=rb.list;have⟨⟨_,h⟩,V,Z⟩:=h.reads (DD q.1).2;have⟨⟨_,f⟩,g,p⟩:=w.reads (DD q.1).1;exact SeqAt.notIn_list_reads (.list o rfl rfl h) f V g (wV (Nat.succ_le_of_lt N) Z) (q.2▸H _)
 |dict u=>
  obtain⟨l,rfl,i,o,y,z,q,h⟩:=rb.dict;exact RH (P:=λ c=>Av W.M A (EN .NotIn c _) Q E s) w e λ k t e=>wpAny_notIn_of Wj y o.mapOf ((Re k q h).trans e▸H _)
 |_=>exact no e
theorem We {f:Int->Int->Bool}{P:Ae->Ae->Prop}(k:Rp W X h c a)(rb:Rp W X h d b)(e:Zg f a b=Ab r)(o:∀x t y u,f x y=r->P (.int x t) (.int y u)):P c d:=by
 cases a with
 |int x=>
  cases b with
  |int y=>obtain⟨t,rfl⟩:=k.aj;obtain⟨u,rfl⟩:=rb.aj;exact o x t y u (AN e)
  |_=>exact no e
 |_=>exact no e
theorem RF {P:Ae->Ae->Prop}(k:Rp W X h c a)(rb:Rp W X h d b)(e:yE n m a b=Ab r)(o:n=r->P .none .none)(s:∀v:Ae,PySem.plainIs v E0=Ag->v≠.none->m=r->P v .none):P c d:=by
 cases b with
 |none=>
  have q:=rb.aj;subst q;cases k with
  |none=>exact o (AN e)
  |obj=>exact no e
  |_=>exact s _ rfl nofun (AN e)
 |_=>exact no e
theorem u4 {a:Option Bool}(e:a.map (!·)=Ab r):a=Ab !r:=by
 cases a with
 |none=>exact no e
 |some b=>exact congrArg Ab (by rw[<-AN e,Mc])
theorem Hy (H:A.units<9000)(o:Rp W X s.heap d a)(rb:Rp W X s.heap c b\/((op=.In\/op=.NotIn)/\QG W X s.heap c b))(e:I6 op a b=Ab r)
 (N:∀O,Q (.bool r) {s with toks:=O}):Av W.M A (EN op d c) Q E s:=by
 have w:=N s.toks;have h (q:op≠.In/\op≠.NotIn):Rp W X s.heap c b:=rb.elim id λ k=>k.1.elim (λ k=>absurd k q.1) λ k=>absurd k q.2;have z:=rb.elim .inl And.right;have I:∀f,Zg f a b=Ab r->op≠.In/\op≠.NotIn->(∀x t y u,Q (.bool (f x y)) s->Av W.M A (EN op (.int x t) (.int y u)) Q E s)->Av W.M A (EN op d c) Q E s:=
  λ f e q k=>We (P:=λ d c=>Av W.M A (EN op d c) Q E s) o (h q) e λ x t y u e=>k x t y u (e▸w)
 cases op with
 |Eq=>exact Y1 H o (h ⟨nofun,nofun⟩) e w
 |NotEq=>exact Yf H o (h ⟨nofun,nofun⟩) (u4 e) (by rw[Mc];exact w)
 |Lt=>exact I _ e ⟨nofun,nofun⟩ λ x t y u q=>PyProof.Rows.lt_int q
 |LtE=>exact I _ e ⟨nofun,nofun⟩ λ x t y u q=>PyProof.Rows.le_int q
 |Gt=>exact I _ e ⟨nofun,nofun⟩ λ x t y u q=>PyProof.Rows.gt_int q
 |GtE=>exact I _ e ⟨nofun,nofun⟩ λ x t y u q=>PyProof.Rows.ge_int q
 |In=>exact YI H o z e N
 |NotIn=>exact SF H o z (u4 e) λ O=>by rw[Mc];exact N O
 |Is=>exact RF (P:=λ d c=>Av W.M A (EN .Is d c) Q E s) o (h ⟨nofun,nofun⟩) e (λ q=>wpAny_is_self rfl (q▸w)) λ v p n q=>wpAny_is_other p n (q▸w)
 |IsNot=>exact RF (P:=λ d c=>Av W.M A (EN .IsNot d c) Q E s) o (h ⟨nofun,nofun⟩) e (λ q=>wpAny_isNot_self rfl (q▸w)) λ v p n q=>wpAny_isNot_other p n (q▸w)
theorem VP {n:Nat}(h:n<=BX):(n:Int)<2^63:=DB (ER.mpr h) (by decide)
theorem RpL.empty {b:List PV}{a:List Ae}(r:RpL W X h a b):a.isEmpty=b.isEmpty:=
 r.bt (P:=λ a b=>a.isEmpty=b.isEmpty) rfl λ _ _ _ _ _ _ _=>rfl
theorem R7 (h:Rp W X s.heap d a)(e:Pm a=Ab r){c:Bool->Aq->Prop}(k:∀o,c r {s with toks:=o}):Av W.M A (truthy d) c E s:=by
 cases a with
 |bool b=>
  have q:=h.aj;exact q▸CA (AN e▸k s.toks)
 |int i=>obtain⟨t,rfl⟩:=h.aj;exact PyProof.Rows.truthy_int (AN e▸k s.toks)
 |list N=>
  obtain⟨a,w,n,rfl,z,_,z1,H⟩:=h.aj;have q:(!w.isEmpty)=r:=by
   rw[<-AN e,<-Array.isEmpty_toList];exact congrArg (!·) (H.empty)
  exact wpAny_truthy_list ⟨_,z,rfl,_,rfl⟩ (VP z1) (q▸k _)
 |_=>exact no e
theorem Xm (h:QV a=Ag):-9223372036854775808<=a/\a<9223372036854775808:=
 have q:=DD h;⟨of_decide_eq_true q.1,of_decide_eq_true q.2⟩
theorem QN {n:Nat}(h:Gw a n=Ab j):(0<=a/\a.toNat=j/\j<n)\/(a<0/\-(n:Int)<=a/\(a+n).toNat=j/\j<n):=by
 unfold seqIndex? at h;by_cases z:a<0
 ·rw[if_pos z] at h;have q:=Kb h;simp only[AG,decide_eq_true_eq] at q;obtain⟨⟨k,o⟩,rfl⟩:=q;have s:=BD n;refine .inr ⟨z,Int.zero_sub n▸Int.sub_right_le_of_le_add k,rfl,?_⟩;exact BM.mp ((Do k).symm▸o)
 ·rw[if_neg z] at h;have q:=Kb h;simp only[AG,decide_eq_true_eq] at q;obtain⟨⟨k,o⟩,rfl⟩:=q;exact .inl ⟨k,rfl,BM.mp ((Do k).symm▸o)⟩
theorem MD {i:Nat}(h:i<n):Gw (i:Int) n=Ab i:=by
 unfold seqIndex?;exact if_pos (by rw[decide_eq_true (BD i),decide_eq_true (BM.mpr h)];rfl)
theorem Xl {i:Nat}(h:i<BX):QV (i:Int)=Ag:=by
 unfold QV;have:(i:Int)<9223372036854775808:=Int.lt_trans (BM.mpr h) (by decide+kernel);rw(occs:=.all) [decide_eq_true this,decide_eq_true (Cw (by decide) (BD i))];rfl
theorem WD {b:List Ae}(e:Z1 c a=Ab d)(r:RpL W X h b c):(-9223372036854775808<=a/\a<9223372036854775808)/\∃j v,Gw a b.length=Ab j/\b[j]? =Ab v/\Rp W X h v d:=
 have q:=IA e;have⟨j,k,o⟩:=AL.mp q.2;have⟨v,s,w⟩:=r.get o
 ⟨Xm q.1,j,v,r.length▸k,s,w⟩
theorem jM {j:Nat}{x:Str}{c:Nat}(k:A9 x=Ag)(o:x.cps[j]? =Ab c):A9 ⟨#[c]⟩=Ag:=by
 have⟨h,q⟩:=C8.mp o;have:=Array.all_eq_true.mp k j h;rw[q] at this;simp only[A9];simpa using this
theorem XY {a:Array Ae}(w:s.heap.get? l=Ab (I0 a n))(V:a.size<=BX)(r:RpL W X s.heap a.toList c)(e:Z1 c b=Ab d)(z:∀v,Rp W X s.heap v d->Q v s):
 Av W.M A (L0 (.ref l) (.int b u)) Q E s:=by
 obtain⟨f,j,v,H,h,N⟩:=WD e r;rw[Im] at h;simp only[DM] at H;rcases QN H with⟨k,o,O⟩ |⟨k,o,O,Z⟩
 ·exact wpAny_getItem_list ⟨_,w,rfl,_,rfl⟩ k (Hr f.2 (by decide+kernel)) (o▸h) (z v N)
 ·exact wpAny_getItem_list_neg ⟨_,w,rfl,_,rfl⟩ k o (Cw (by decide+kernel) f.1) (O▸h) (z v N)
theorem jF {a:Array Ae}(o:s.heap.get? l=Ab (M1 a n))(r:RpL W X s.heap a.toList c)(e:Z1 c b=Ab d)(w:∀v,Rp W X s.heap v d->Q v s):
 Av W.M A (L0 (.ref l) (.int b u)) Q E s:=by
 obtain⟨f,j,v,h,k,z⟩:=WD e r;rw[Im] at k;simp only[DM] at h;exact PyProof.Rows.getItem_tuple ⟨_,o,rfl,_,rfl⟩ (Cw (by decide+kernel) f.1) (Hr f.2 (by decide+kernel)) h k (w v z)
theorem Vf (N:QG W X s.heap f a)(O:Rp W X s.heap b g)(e:ET a g=Ab d)(w k:Expr)(h:∀f b,subscripted k Au f b=operate [f,b] (L0 f b)):
 Dp W A (PyProof.Rows.subscriptTail w k f b) s (λ v m=>Rp W X m v d):=.of λ Q E V=>by
 have h:=h f b;have Z:∀v,Rp W X s.heap v d->Q v s:=λ v r=>V _ _ s.toks (.refl _) r;cases a with
 |list p=>
  obtain⟨l,rfl,B,n,o,z1,H⟩:=N.list;refine DI ⟨_,o,rfl⟩ slot_list_getitem.lookup ?_ h;exact Hd (P:=λ b=>Av W.M A (L0 _ b) Q E s) O e λ y u e=>XY o z1 H e Z
 |ba p=>
  obtain⟨l,B,n,rfl,o,L,z1,H⟩:=(N.elim id λ⟨_,_,q⟩=>q.elim).aj;refine DI ⟨_,o,rfl⟩ F.slot_tuple_getitem.lookup ?_ h;exact Hd (P:=λ b=>Av W.M A (L0 _ b) Q E s) O e λ y u e=>jF o H e Z
 |str x=>
  obtain⟨t,rfl,C,z1⟩:=(N.elim id λ⟨_,_,q⟩=>q.elim).aj;refine DI (KT _ _ _) F.slot_str_getitem.lookup ?_ h;refine Hd (P:=λ b=>Av W.M A (L0 _ b) Q E s) O e λ y u e=>?_;have q:=IA e;have i:=Xm q.1;obtain⟨c,hc,rfl⟩:=Bl.mp q.2;have⟨j,_,D⟩:=AL.mp hc;exact PyProof.Rows.getItem_str (Bool.or_eq_false_iff.mpr ⟨decide_eq_false (Hq.mpr (Cw (by decide+kernel) i.1)),decide_eq_false (Mx.mpr (Hr i.2 (by decide+kernel)))⟩) hc (V _ _ _ (.refl _) (.str _ _ (jM C D) (by show 1<=BX;decide)))
 |dict M=>
  obtain⟨l,rfl,G,o,y,z,q,H⟩:=N.dict;refine DI (o.typeIs) slot_dict_getitem.lookup ?_ h;refine JE (P:=λ b=>Av W.M A (L0 _ b) Q E s) O e λ g u _ _ e=>?_;obtain⟨v,I,J⟩:=(LL g q H).2 d e;exact wpAny_getItem_of Wj o.mapOf I (V _ _ _ (.refl _) J)
 |_=>exact no e
theorem TF (k:A9 x=Ag)(l u:Option Int):A9 (JR x l u)=Ag:=by
 unfold Txt.slice;split
 ·exact k
 ·unfold PyData.strOk at*;simp only[List.all_toArray,AQ,List.mem_filterMap];rintro c ⟨i,_,o⟩;obtain⟨h,rfl⟩:=C8.mp o;exact Array.all_eq_true.mp k i h
theorem RpL.jv (r:RpL W X h a b):∀k:List Nat,RpL W X h (k.filterMap (a[·]?)) (k.filterMap (b[·]?)):=by
 intro k;induction k with
 |nil=>
  exact .nil
 |cons j k o=>
  rw[List.filterMap_cons,List.filterMap_cons];cases s:b[j]? with
  |none=>
   have:a[j]? =CC:=by
    rw[List.getElem?_eq_none_iff] at s ⊢;rw[r.length];exact s
   rw[this];exact o
  |some d=>
   obtain⟨v,w,z⟩:=r.get s;rw[w];exact .cons z (o)
theorem Py {a:Array Ae}(r:RpL W X h a.toList b)(lo k st:Option Int):RpL W X h (slicePick a lo k st).toList (Jd b lo k st):=by
 unfold slicePick Jd;rw[<-r.length,<-DM];have:=r.jv (KU (Cc lo k st a.toList.length).1 (Cc lo k st a.toList.length).2.1 (Cc lo k st a.toList.length).2.2);simpa using this
theorem Nd {lo st:Option Int}(y:QG W X s.heap f a)(M:∀a∈X,∃o,s.heap.get? a=Ab o)(V:s.heap.IsSliceOf c m p r)(B:IsPart m lo)(Z:IsPart p b)(C:IsPart r st)
 (e:En a lo b st=Ab d) (O h:Expr) (N:subscripted h Au f (.ref c)=operate g (L0 f (.ref c))):
 Dp W A (PyProof.Rows.subscriptTail O h f (.ref c)) s (λ v R=>Rp W X R v d):=.of λ Q E D=>by
 cases a with
 |list U=>
  have q:=Fk e;obtain⟨l,rfl,Y,n,G,z1,S⟩:=y.list;have I:=Py S lo b st;refine DI ⟨_,G,rfl⟩ slot_list_getitem.lookup ?_ N;exact wpAny_getItem_list_slice ⟨_,G,rfl,_,rfl⟩ V B Z C q.1.1 (D _ _ _ (.push _ _) (.at q.2 (.list (AD _ rfl) (II M) (by rw[<-DM,I.length];exact q.1.2) (I.ae (.push _ _))))) (Aa z1 FR)
 |str x=>
  have q:=Fk e;have z:=q.1;subst z;cases C;obtain⟨t,rfl,T,z1⟩:=(y.elim id λ⟨_,_,q⟩=>q.elim).aj;refine DI (KT _ _ _) F.slot_str_getitem.lookup ?_ N;have w:∀J k,Q (.str (JR x lo b) J) {s with toks:=k}:=λ J k=>D _ _ _ (.refl _) (.at q.2 (.str _ _ (TF T _ _) (Aa (Txt.slice_le x _ _) z1)));have H:(JR x lo b).length<=HG:=Aa (Txt.slice_le x _ _) (Aa z1 FR);cases B with
  |none=>cases Z with
   |none=>exact Ii (l:=Ah) (u:=Ah) (st:=Ah) V rfl (N6 ⟨H,w⟩)
   |int j u=>exact Ii (l:=Ah) (u:=Ab (j,u)) (st:=Ah) V rfl (N6 ⟨H,w⟩)
  |int i L=>cases Z with
   |none=>exact Ii (l:=Ab (i,L)) (u:=Ah) (st:=Ah) V rfl (N6 ⟨H,w⟩)
   |int j u=>exact Ii (l:=Ab (i,L)) (u:=Ab (j,u)) (st:=Ah) V rfl (N6 ⟨H,w⟩)
 |_=>exact no e
noncomputable def EJ (h:Obj):Prop:=h.cls=.type "list"\/h.cls=.type "tuple"\/h.cls=.type "dict"
variable {a c:Ai} in
inductive Lv (W:BV)(X:List Ai)(h:AS)(I:Ai)(xs:List PV):Prop
 |list {ax vs0 n0}:h.IsListIter I ax 0->h.get? ax=Ab (I0 vs0 n0)->ax∉X->vs0.size<=BX->RpL W X h vs0.toList xs->Lv W X h I xs
 |ba {ax vs0 n0}:h.IsTupleIter I ax 0->h.get? ax=Ab (M1 vs0 n0)->ax∉X->vs0.size<=BX->RpL W X h vs0.toList xs->Lv W X h I xs
 |range {a c:Int} {cn:Nat}:IsRangeIter h I a cn c->cn<=BX->xs=(Ap cn).map (λ(i:Nat)=>.int (a+(i:Int)*c))->Lv W X h I xs
variable {g:Array CB} in
inductive wQ (h:AS)(I:Ai):Prop
 |mk (o:Obj) (g:h.get? I=Ab o) (c1:o.cls≠.none) (c2:o.cls≠.type "code") (c3:o.cls≠.type "frame") (d:¬EJ o)
variable {i:Nat} in
structure MX (W:BV)(A:Dj)(X:List Ai)(I:Ai)(xs:List PV)(St:Nat->AS->Prop):Prop where
 small:xs.length<=BX
 frame:∀i h h',St i h->(∀o,h.get? I=Ab o->h'.get? I=Ab o)->(∀b o,b∉X->h.get? b=Ab o->EJ o->h'.get? b=Ab o)->St i h'
 cj:∀i h,St i h->wQ h I
 item:∀i(s:Aq)(Q:Option Ae->Aq->Prop)(E:I9) x,St i s.heap->xs[i]? =Ab x->
  (∀v h' tk,Rp W X h' v x->St (i+1) h'->BB I s.heap h'->Q (Ab v) {s with heap:=h',toks:=tk})->Av W.M A (pyNext (.ref I)) Q E s
 done:∀(s:Aq)(Q:Option Ae->Aq->Prop)(E:I9),St xs.length s.heap->
  (∀h' tk,BB I s.heap h'->Q Ah {s with heap:=h',toks:=tk})->Av W.M A (pyNext (.ref I)) Q E s
 self:∀i(s:Aq)(Q:I9)(E:I9),St i s.heap->Q (.ref I) s->Av W.M A (pyIter (.ref I)) Q E s
 dn:∀i(s:Aq)(Q:Unit->Aq->Prop)(E:I9) target v,St i s.heap->Q () s->Av W.M A (Of target (.ref I) v) Q E s
section
set_option tactic.hygienic true in
theorem Lb {c:Unit->Aq->Prop}(w:s.heap.get? I=Ab o)(hc:o.cls=.type n)(z:o.data=.fields d)
 (k:["enumerate","zip","dict_itemiterator","dict_reverseitemiterator","odict_iterator","itertools.zip_longest","itertools.pairwise"].contains n=Au) (h:c () s):
 Av W.M A (Of b (.ref I) v) c E s:=by
 have H:(["enumerate","zip","dict_itemiterator","dict_reverseitemiterator","odict_iterator","itertools.zip_longest","itertools.pairwise"].contains n&&d[0]? ==Ab (BS (match v with | .ref a=>a |_=>0)))=Au:=by rw[k];rfl
 cases b<;>(first |exact Ar h |skip)
 all_goals
  cases v<;>(first |exact Ar h |skip)
  rename_i a;refine Ac (wpAny_load w ?_);rw[hc,z];simp only[k,Bool.false_and,BR,if_false];exact Ar h
theorem MX.seq {d:Array Ae}{S:Nat->AS->Prop}{P:AS->Prop}(O:I∈X)(n:f∉X)(B:d.size<=BX)(C:RpL W X h d.toList g)(V:Walks W.prog W.w A I [I,f] [I] d.size (λ i v=>d[i]? =Ab v) λ i h=>S i h/\P h)(hP:∀h,h.get? f=Ab ob->P h)(D:EJ ob)
 (G:∀i h,S i h->∃o,h.get? I=Ab o/\∀w:AS,w.get? I=Ab o->S i w) (J:∀i h,S i h->wQ h I) (L:∀i(s:Aq)(Q:Unit->Aq->Prop)(E:I9) k v,S i s.heap->Q () s->Av W.M A (Of k (.ref I) v) Q E s):
 MX W A X I g λ i h=>S i h/\h.get? f=Ab ob/\RpL W X h d.toList g:=by
 have Z:f≠I:=λ q=>n (q▸O);have N:=C.length;simp at N;exact{
  small:=Aa (Az N.symm) B
  frame:=λ i h w st M p=>⟨by obtain⟨o,a,b⟩:=G i h st.1;exact b w (M o a),p _ _ n st.2.1 D,st.2.2.bi λ b o e t c=>⟨p b o t e c,t⟩⟩
  cj:=λ i h st=>J i h st.1
  item:=λ i s Q E x st y H=>by
   have R:i<d.size:=by rw[N];exact(Cn.mp y).1
   refine V.item i s Q E R ⟨st.1,hP _ st.2.1⟩ λ v w j T l hk=>?_;have z:BB I s.heap w:=λ b o m e=>hk b o (by simpa using m) e;obtain⟨u,U,r⟩:=st.2.2.get y;have:u=v:=by
    have Y:d[i]? =Ab u:=by simpa using U
    obtain rfl:=A4 Y T;rfl
   subst this;exact H _ w j (r.ext z O) ⟨l.1,z _ _ Z st.2.1,st.2.2.ext z O⟩ z
  done:=λ s Q E st H=>by
   rw[<-N] at st;exact V.done s Q E ⟨st.1,hP _ st.2.1⟩ λ w j hk=>H w j λ b o m e=>hk b o (by simpa using m) e
  self:=λ i s Q E st H=>V.self i s Q E ⟨st.1,hP _ st.2.1⟩ H
  dn:=λ i s Q E k v st H=>L i s Q E k v st.1 H}
theorem MX.of (G:Lv W X h I d)(f:I∈X)(j:A.handled=Ah):∃St,St 0 h/\MX W A X I d St:=by
 cases G with
 |@list N l n O V z m Z=>
  exact⟨_,⟨O,V,Z⟩,MX.seq (S:=λ i h=>h.IsListIter I N i) f z m Z (.list (prog:=W.prog) (w:=W.w) (A:=A) j I N (λ q=>z (q▸f)) l) (λ h e=>⟨_,e,rfl,_,rfl⟩) (.inl rfl)
   (λ i h q=>by obtain⟨o,a,b⟩:=q;exact⟨o,a,λ H e=>⟨o,e,b⟩⟩) (λ i h q=>by obtain⟨o,a,b,c⟩:=q;exact⟨o,a,by rw[b];decide,by rw[b];decide,by rw[b];decide,by unfold EJ;rw[b];decide⟩) λ i s Q E k v q w=>by obtain⟨o,a,b,c⟩:=q;exact Lb a b c rfl w⟩
 |@ba N l n O V z m Z=>
  exact⟨_,⟨O,V,Z⟩,MX.seq (S:=λ i h=>h.IsTupleIter I N i) f z m Z (.tuple (prog:=W.prog) (w:=W.w) (A:=A) j I N (λ q=>z (q▸f)) l) (λ h e=>⟨_,e,rfl,_,rfl⟩) (.inr (.inl rfl))
   (λ i h q=>by obtain⟨o,a,b⟩:=q;exact⟨o,a,λ H e=>⟨o,e,b⟩⟩) (λ i h q=>by obtain⟨o,a,b,c⟩:=q;exact⟨o,a,by rw[b];decide,by rw[b];decide,by rw[b];decide,by unfold EJ;rw[b];decide⟩) λ i s Q E k v q w=>by obtain⟨o,a,b,c⟩:=q;exact Lb a b c rfl w⟩
 |@range a c n O V z=>
  have p:d.length=n:=by rw[z];simp
  refine⟨λ i h=>IsRangeIter h I (a+(i:Int)*c) ((n:Int)-i) c,by simpa using O,?_⟩;have r:=Walks.range (prog:=W.prog) (w:=W.w) (A:=A) j I a c n;exact{
   small:=Aa (Az p) V
   frame:=λ i h H st J R=>J _ st
   cj:=λ i h st=>⟨_,st,by simp,by simp,by simp,by unfold EJ;simp⟩
   item:=λ i s Q E x st g w=>by
    have D:i<n:=by rw[<-p];exact(Cn.mp g).1
    refine r.item i s Q E D st λ v H u L y hk=>?_;have B:BB I s.heap H:=λ b o C e=>hk b o (by simpa using C) e;obtain⟨t,rfl⟩:=L;have M:x=.int (a+(i:Int)*c):=by
     rw[z] at g;simp[D] at g;exact g.symm
    subst M;exact w _ H u (.int _ _) y B
   done:=λ s Q E st w=>by
    rw[p] at st;exact r.done s Q E st λ H u hk=>w H u λ b o C e=>hk b o (by simpa using C) e
   self:=λ i s Q E st w=>r.self i s Q E st w
   dn:=λ i s Q E k v st w=>Lb st rfl rfl (rfl) w}
theorem Lv.ae (k:BA W h H)(N:Lv W X h I d):Lv W X H I d:=by
 cases N with
 |@list O Q n s w z A E=>exact .list (by obtain⟨o,a,b,c⟩:=s;exact⟨o,k.keep a (by rw[b];decide) (by rw[b];decide),b,c⟩) (k.keep w (by simp) (by simp)) z A (E.ae k)
 |@ba O Q n s w z A E=>exact .ba (by obtain⟨o,a,b,c⟩:=s;exact⟨o,k.keep a (by rw[b];decide) (by rw[b];decide),b,c⟩) (k.keep w (by simp) (by simp)) z A (E.ae k)
 |@range a c n s w z=>exact .range (k.keep s (by simp) (by simp)) w z
theorem Lv.be (A:h.get? a=Ah)(O:Lv W X h I b):Lv W (a::X) h I b:=by
 have N:∀{s:Ai}{o:Obj},h.get? s=Ab o->s∉X->s∉a::X:=λ e n q=>by
  rcases Al.mp q with q |q
  ·subst q;exact Dn A e
  ·exact n q
 cases O with
 |@list s Q n w k z E H=>exact .list w k (N k z) E (H.be A)
 |@ba s Q n w k z E H=>exact .ba w k (N k z) E (H.be A)
 |@range a c n w k z=>exact .range w k z
variable {a0:Ae} in
inductive tI (W:BV)(X:List Ai)(h:AS):Ae->List PV->Prop
 |list {v0 xs0}:Rp W X h v0 (.list xs0)->tI W X h v0 xs0
 |ba {v0 xs0}:Rp W X h v0 (.ba xs0)->tI W X h v0 xs0
 |range {r0 a0 b t0 u v0}:IsRange h r0 a0 b 1 t0 u v0->a0<=b->b-a0<=100000->-1000000<=a0->b<=1000000->tI W X h (.ref r0) ((Ap (b-a0).toNat).map (λ(i:Nat)=>.int (a0+(i:Int)*1)))
theorem Ha (j:tI W X s.heap v c)
 (H:∀I z,s.heap.get? I=Ah->(∃o,z.get? I=Ab o)->(∀b o,s.heap.get? b=Ab o->z.get? b=Ab o)->(I∉X->Lv W (I::X) z I c)->Q (.ref I) {s with heap:=z}):Av W.M A (pyIter v) Q E s:=by
 have h:s.heap.get? s.heap.objs.size=Ah:=by
  cases e:s.heap.get? s.heap.objs.size with
  |none=>rfl
  |some o=>exact absurd (AT e) (EW _)
 cases j with
 |list r=>
  obtain⟨a,l,n,rfl,k,N,z1,O⟩:=r.aj;refine wpAny_pyIter_list ⟨_,k,rfl,_,rfl⟩ (H _ _ h ⟨_,AD _ rfl⟩ (λ b o e=>AH _ e) λ Z=>?_);refine .list ⟨_,AD _ rfl,rfl,rfl⟩ (AH _ k) (λ q=>?_) z1 ((O.be h).ae (.push _ _));rcases Al.mp q with q |q
  ·subst q;exact Dn h k
  ·exact N q
 |ba r=>
  obtain⟨a,l,n,rfl,k,N,z1,O⟩:=r.aj;refine wpAny_pyIter_tuple ⟨_,k,rfl,_,rfl⟩ (H _ _ h ⟨_,AD _ rfl⟩ (λ b o e=>AH _ e) λ Z=>?_);refine .ba ⟨_,AD _ rfl,rfl,rfl⟩ (AH _ k) (λ q=>?_) z1 ((O.be h).ae (.push _ _));rcases Al.mp q with q |q
  ·subst q;exact Dn h k
  ·exact N q
 |@range r a b t u v m w d f V=>
  have g:Builtin.Range.rangeSize a b 1=((b-a).toNat:Int):=by
   unfold Builtin.Range.rangeSize;simp only[show(1:Int)>0 by decide,if_true,Int.ediv_one];split
   ·rename_i q;rw[Int.sub_add_cancel,Do (I4 w)]
   ·rename_i q;rw[Int.le_antisymm w (Hq.mp q),Int.sub_self];rfl
  refine wpAny_pyIter_range m (by
   unfold Builtin.Range.small;rw[g,Do (I4 w)];simp only[Builtin.Range.rangeFitsLong,AG,CV,decide_eq_true_eq,show(1:Int)>0 by decide,if_true];have i:=Cw f w;refine⟨⟨⟨⟨⟨Cw (by decide) f,DB (Cw w V) (by decide)⟩,Cw (by decide) i,DB V (by decide)⟩,by decide⟩,Cw (by decide) (I4 w),DB d (by decide)⟩,.inr ?_⟩;rw[show(1:Int)-1=0 from rfl,My];exact⟨Cw (by decide) i,DB V (by decide)⟩) (H _ _ h ⟨_,AD _ rfl⟩ (λ b o e=>AH _ e) λ Z=>?_)
  refine .range ?_ (Int.toNat_le.mpr (Cw d (by decide))) rfl;rw[g];exact AD _ rfl
end
noncomputable def A3 (h:Bf)(x:Str):Bool:=D1 x&&(h.names.lookup x==Ab .local||h.names.lookup x==Ab .cell)
variable {es:List (Str×PV)}{ks:List Str}{p:Evs} in
structure EV where
 es:List Expr:=[]
 gs:List FM:=[]
 ks:List Keyword:=[]
 sc:Bf:=default
 ar:D8:=default
 p:Pos:=default
 k:Nat:=0
 nm:Str:=""
variable {a c f:Ai}{d:List PV}{e:List Ae}{es:List (Str×PV)}{ks:List Str}{p:Evs} in
noncomputable def JC:Expr->EV
 | .BoolOp _ d p=>{es:=d,p}
 | .NamedExpr a b p=>{es:=[a,b],p}
 | .BinOp a _ b p=>{es:=[a,b],p}
 | .UnaryOp _ a p=>{es:=[a],p}
 | .Lambda ar b sc p=>{es:=[b],ar,sc,p}
 | .IfExp a b c p=>{es:=[a,b,c],p}
 | .Dict ks e p=>{es:=ks.filterMap id++e,p}
 | .Set d k p=>{es:=d,p,k}
 | .ListComp a gs sc p=>{es:=[a],gs,sc,p}
 | .SetComp a gs sc p=>{es:=[a],gs,sc,p}
 | .DictComp a b gs sc p=>{es:=[a,b],gs,sc,p}
 | .GeneratorExp a gs sc p=>{es:=[a],gs,sc,p}
 | .Await a p=>{es:=[a],p}
 | .Yield o p=>{es:=o.toList,p}
 | .YieldFrom a p=>{es:=[a],p}
 | .Compare a _ h p=>{es:=a::h,p}
 | .Call f d ks p=>{es:=f::d,ks,p}
 | .FormattedValue a _ o p=>{es:=a::o.toList,p}
 | .JoinedStr d p=>{es:=d,p}
 | .Constant _ k p=>{p,k}
 | .Attribute a _ p=>{es:=[a],p}
 | .Subscript a b p=>{es:=[a,b],p}
 | .Starred a p=>{es:=[a],p}
 | .Name nm p=>{p,nm}
 | .List d p=>{es:=d,p}
 | .Tuple d k p=>{es:=d,p,k}
 | .Slice a b c p=>{es:=a.toList++b.toList++c.toList,p}
variable {es:List (Str×PV)}{p:Evs} in
inductive zV where
 |name (x:Str) (p:Pos)
 |ba (es:List Expr) (k:Nat) (p:Pos)
 |no
noncomputable def oY (e:Expr):zV:=if e.ctorIdx==23 then .name (JC e).nm (JC e).p else if e.ctorIdx==25 then .ba (JC e).es (JC e).k (JC e).p else .no
variable {a:List (Str×PV)}{p:Evs} in
noncomputable def zV.is (e:Expr):zV->Prop
 | .name x p=>e=.Name x p
 | .ba a k p=>e=.Tuple a k p
 | .no=>True
theorem U9 (e:Expr):(oY e).is e:=by cases e<;>first |exact rfl |exact trivial
variable {a:List PV} in
noncomputable def pT:PV->Option (List PV)
 | .ba a=>Ab a
 |_=>Ah
theorem Tv (h:pT d=Ab a):d=.ba a:=by
 cases d with
 |ba k=>cases h;rfl
 |_=>contradiction
noncomputable def qW (e:Expr):Option Str:=match oY e with
 | .name x _=>Ab x
 |_=>Ah
variable {a:List PV}{b:List (Str×PV)} in
noncomputable def FJ (h:Bf):List Expr->List PV->A5->Option A5
 |[],a,O=>match a with
  |[]=>Ab O
  |_::_=>Ah
 |e::b,a,O=>match a with
  |[]=>Ah
  |d::a=>(qW e).bind λ x=>if A3 h x then FJ h b a ((x,.aa d)::O) else Ah
theorem kK (h:qW e=Ab x):∃p,e=.Name x p:=by
 unfold qW at h;have k:=U9 e;generalize oY e=t at h k;cases t with
 |name y p=>cases h;exact⟨p,k⟩
 |_=>contradiction
variable {a:List (Str×PV)} in
noncomputable def Hf (h:Bf)(t:Expr)(d:PV)(k:A5):Option A5:=match oY t with
 | .name x _=>if A3 h x then Ab ((x,.aa d)::k) else Ah
 | .ba a _ _=>(pT d).bind λ o=>FJ h a o k
 | .no=>Ah
theorem W8 {d:Type}{a b:d}(h:(if c=Ag then Ab a else Ah)=Ab b):c=Ag/\a=b:=by
 cases c with
 |true=>exact⟨rfl,AN h⟩
 |false=>exact absurd h.symm (Option.some_ne_none _)
theorem RW (e:Hf V t d O=Ab a):(∃x p,t=.Name x p/\A3 V x=Ag/\(x,.aa d)::O=a)\/∃h k p o,t=.Tuple h k p/\d=.ba o/\FJ V h o O=Ab a:=by
 unfold Hf at e;have k:=U9 t;generalize oY t=v at e k;cases v with
 |name x p=>exact .inl ⟨x,p,k,W8 e⟩
 |ba h n p=>obtain⟨o,s,e⟩:=AL.mp e;exact .inr ⟨h,n,p,o,k,Tv s,e⟩
 |no=>contradiction
theorem Js (e:FJ V (c::f) a O=Ab b):∃d h x p,a=d::h/\c=.Name x p/\A3 V x=Ag/\FJ V f h ((x,.aa d)::O)=Ab b:=by
 cases a with
 |nil=>contradiction
 |cons d h=>
  obtain⟨x,q,e⟩:=AL.mp (e);obtain⟨p,o⟩:=kK q;have k:=IA e;exact⟨d,h,x,p,rfl,o,k.1,k.2⟩
theorem Fq (h:A3 V x=Ag):D1 x=Ag/\(V.names.lookup x=Ab .local\/V.names.lookup x=Ab .cell):=by
 unfold A3 at h;simp only[AG,CV] at h;exact⟨h.1,h.2.imp (λ q=>by simpa using q) (λ q=>by simpa using q)⟩
theorem OJ (F:FI W V z Z X s.heap O)(o:A3 V x=Ag)(r:Rp W X s.heap v d){a:Unit->Aq->Prop}
 (w:∀h k,FI W V z Z X h ((x,.aa d)::O)->Lr W (Ea V z) s.heap h->a () {s with heap:=h,toks:=k}):Av W.M A (NX (.Name x b) z v) a E s:=
 IG (F.cw (sl:=.aa d) (Fq o).2 (Fq o).1 r (λ _ q=>(by contradiction)) λ h k f c _=>w h k f c)
theorem OV:∀(w:List Expr)(k:List PV)(o:List Ae)(H:A5)(s:Aq)(Q:Unit->Aq->Prop),FI W V z Z X s.heap H->FJ V w k H=Ab b->RpL W X s.heap o k->
 (∀N j,FI W V z Z X N b->Lr W (Ea V z) s.heap N->Q () {s with heap:=N,toks:=j})->Av W.M A (assignInOrder (List.map (λ x=>x.2) (Ji w z)) o) Q E s:=by
 intro w;induction w with
 |nil=>
  intro k o H s Q F e r h;cases k with
  |nil=>
   cases r;cases e
   exact wpAny_assignInOrder_none (h s.heap s.toks F .refl)
  |cons _ _=>contradiction
 |cons u w l=>
  intro k o H s Q F e r h;obtain⟨d,k,x,m,rfl,rfl,O,e⟩:=Js e;obtain⟨v,o,rfl,r,n⟩:=r.aj;refine wpAny_assignInOrder_more (OJ F O r λ N j f c=>?_);exact l k o _ _ Q f e (n.bj (λ a p=>F.br p) c) λ g i q t=>h g i q (c.trans t)
theorem OW:∀(k:List Expr)(h:List PV)(o:A5),FJ V k h o=Ab a->(Ji k z).length=h.length/\List.findIdx? (λ x=>x.1) (Ji k z)=Ah:=by
 intro k;induction k with
 |nil=>
  intro h o e;cases h with
  |nil=>exact⟨rfl,rfl⟩
  |cons _ _=>contradiction
 |cons H k w=>
  intro h o e;obtain⟨d,h,x,A,rfl,rfl,E,e⟩:=Js e;have s:=w h _ e;exact⟨congrArg (·+1) s.1,by rw[List.findIdx?_cons,s.2];rfl⟩
theorem NK (F:FI W V z Z X s.heap O)(y:A.handled=Ah)(e:Hf V t d O=Ab g)(r:Rp W X s.heap v d){i:Unit->Aq->Prop}
 (Q:∀h w,FI W V z Z X h g->Lr W (Ea V z) s.heap h->i () {s with heap:=h,toks:=w}):Av W.M A (NX t z v) i E s:=by
 rcases RW e with⟨x,p,rfl,H,rfl⟩ |⟨j,_,_,l,rfl,rfl,e⟩
 ·exact OJ F H r Q
 ·obtain⟨B,C⟩:=OW (z:=z) j l O e;obtain⟨a,D,n,rfl,G,I,z1,m⟩:=r.aj;have u:=m.length;simp only[DM] at u;refine wpAny_assign_Tuple y ⟨_,G,rfl,_,rfl⟩ (B.trans u.symm) C λ h H=>?_;have k:∀b o,s.heap.get? b=Ab o->h.get? b=Ab o:=λ b o q=>H b o (Ct (AT q)) q;exact OV j l D.toList O _ i (F.ae (.af k)) e (m.ae (.af k)) λ N w f c=>Q N w f ((Lr.af k).trans c)
variable {a:List (Str×PV)} in
noncomputable def FN (t:Expr):List Str:=match oY t with
 | .name x _=>[x]
 | .ba a _ _=>a.filterMap qW
 | .no=>[]
theorem Qw:∀(o:List Expr)(k:List PV)(w:A5),FJ V o k w=Ab a->∀y s,y∉o.filterMap qW->w.lookup y=Ab s->a.lookup y=Ab s:=by
 intro o;induction o with
 |nil=>
  intro k w e y s _ h;cases k with
  |nil=>cases e;exact h
  |cons _ _=>contradiction
 |cons N o A=>
  intro k w e y s z h;obtain⟨d,k,x,E,rfl,rfl,H,e⟩:=Js e;have z:=z;exact A k _ e y s (λ q=>z (Af _ q)) ((AI λ q:y=x=>z (q▸Ad)).trans h)
theorem Wi (e:Hf V t d O=Ab a)(s:(FN t).all (λ x=>(O.lookup x).isNone)=Ag):∀y k,O.lookup y=Ab k->a.lookup y=Ab k:=by
 intro y k h;have o:y∉FN t:=λ q=>by
  have:=AQ.mp s y q;rw[h] at this;simp at this
 rcases RW e with⟨x,p,rfl,w,rfl⟩ |⟨z,_,_,A,rfl,rfl,e⟩
 ·exact(AI λ q=>o (Ce.mpr q)).trans h
 ·exact Qw _ _ _ e y k o h
structure Gd (W:BV)(s:Aq):Prop where
 ao:BA W W.h0 s.heap
 dl:W.di s.heap
 toks:1<=s.toks
theorem Gd.step (G:Gd W s)(h:BA W s.heap H)(k:s.toks<=tk):Gd W {s with heap:=H,toks:=tk}:=⟨G.ao.trans h,h.2 G.dl,Aa G.toks k⟩
theorem FI.bp (F:FI W V z (I::Z) (I::X) h O)(k:BB I h H)(w:I∉AV z)(f:I∉X)(A:∀a∈Z,a∈X):FI W V z Z X H O:=
 have N:∀v d,Rp W (I::X) h v d->Rp W X H v d:=λ _ _ r=>r.bi λ b o e n _=>⟨k b o (λ q=>n (q▸Ad)) e,λ q=>n (Af _ q)⟩
 F.same (λ a Q=>(Al.mp (F.bb a Q)).resolve_left (λ q=>w (q▸Q))) A (λ _ n=>n.extBut k λ q=>w (q▸Ad)) (λ _ _ _ e=>UH k λ q=>w (q▸Di e))
   (λ _ _ _ _ r=>r.to N λ a _ m c o=>have s:a≠I:=λ q=>c (q▸Ad)
    ⟨(Al.mp m).resolve_left s,λ q=>c (Af _ q),o.map (λ _ e _=>k _ _ s e) λ _ _ r=>r.map N⟩)
   λ b E=>⟨(F.alive b (Af _ E)).1,by
    obtain⟨o,g⟩:=(F.alive b (Af _ E)).2;exact⟨o,k b o (λ q=>f (q▸E)) g⟩⟩
noncomputable def VQ (e:Expr)(s:Sem Unit)(w:List FM)(h:Nat)(z:Ae)(k:Env)(K:Sem Iw):Sem Iw:=
 match w[h+1]? with
 |some o=>do
  let x <-eval o.iter k
  standAt o.iter.pos
  if o.is_async !=0 then do
   let x <-foldedIterable o.iter x
   let _ <-runOwn (.compStart e (h+1) (<-holding [x] (if o.is_async !=0 then asyncIter x else pyIter x)) z k) k
   K
  else do
   let x <-foldedSetIterable o.iter k x
   let _ <-runOwn (.compStart e (h+1) (<-holding [x] (if o.is_async !=0 then asyncIter x else pyIter x)) z k) k
   K
 |none=>do
  s
  K
variable {v:Ae} in
structure OM (e:Expr)(gens:List FM)(emit:Ae->Env->Sem Unit):Prop where
 dc:clausesOf e=gens
 loop:∀depth it ck ah,(Code.compLoop e depth it ck ah).isFrame=Au
 start:∀depth it ck ah,(Code.compStart e depth it ck ah).isFrame=Au
 fi:∀(A:Dj) depth it ck ah,A.under (.compLoop e depth it ck ah)=A
 fh:∀(A:Dj) depth it ck ah,A.under (.compStart e depth it ck ah)=A
 cu:∀depth it ck ah target iter ifs,gens[depth]? =Ab ⟨target,iter,ifs,0⟩->compTurn e depth it ck ah=(do
  standAt iter.pos
  match <-pyNext it with
  |none=>pure (.done .next)
  |some v=>
   Of target it v
   NX target ah v
   let ok <-(forIn ifs Ag λ c r=>if r=Ag then do let ok <-isTrue c ah (eval c ah);pure (E3 ok) else pure (E3 r))
   if ok=Ag then VQ e (emit ck ah) gens depth ck ah (again (.compLoop e depth it ck ah))
   else again (.compLoop e depth it ck ah))
noncomputable def NG (h:Expr)(k:Ae)(o:Env):Sem Unit:=do let _ <-call (.builtin "list.append") [k,<-eval h o]
noncomputable def Lm (s v:Expr)(k:Ae)(h:Env):Sem Unit:=do
 let o <-eval s h
 let w <-holding [o] (eval v h)
 match k with
 | .ref d=>do
   standAt {s.pos with endLine:=v.pos.endLine,endCol:=v.pos.endCol}
   holding [o,w] (dictSet d o w)
 |_=>unsupported "internal:dictcomp"
theorem GP (o:Expr)(h:List FM)(k:Bf)(w:Pos):OM (.ListComp o h k w) h (NG o) where
 dc:=rfl
 loop:=λ _ _ _ _=>rfl
 start:=λ _ _ _ _=>rfl
 fi:=λ _ _ _ _ _=>rfl
 fh:=λ _ _ _ _ _=>rfl
 cu:=λ z O A E s iter H N=>by
  unfold compTurn;dsimp only;rw[N];rfl
theorem Kj (z v:Expr)(h:List FM)(k:Bf)(s:Pos):OM (.DictComp z v h k s) h (Lm z v) where
 dc:=rfl
 loop:=λ _ _ _ _=>rfl
 start:=λ _ _ _ _=>rfl
 fi:=λ _ _ _ _ _=>rfl
 fh:=λ _ _ _ _ _=>rfl
 cu:=λ w O A E o iter H N=>by
  unfold compTurn;dsimp only;rw[N];rfl
theorem EJ.cls (h:EJ o):o.cls≠.type "frame"/\o.cls≠.none:=by rcases h with h |h |h<;>rw[h]<;>exact⟨by decide,nofun⟩
structure ZA {β:Type}(D:Ai)(Acc:List Ai->AS->List β->Prop):Prop where
 bi:∀{X Y:List Ai}{h h':AS}{l:List β},Acc X h l->(∀b o,h.get? b=Ab o->b∉X->(o.cls≠.type "frame"/\o.cls≠.none)->h'.get? b=Ab o/\b∉Y)->(∀o,h.get? D=Ab o->h'.get? D=Ab o)->Acc Y h' l
 obj:∀{X:List Ai}{h:AS}{l:List β},Acc X h l->∃o,h.get? D=Ab o/\EJ o
theorem Ml {R:Ev->Aq->Prop}{f:Ae->Env->Sem Unit}(E:OM e c f)(O:c[a]? =Ab g)(Q:g.is_async=0)
 (N:Ep W.M A (.compLoop e a d b z) R s)
 (V:Av W.M A (pyIter d) (λ h w=>Ep W.M A (.compLoop e a h b z) R w) (notedBy W.M A z λ x w=>R (.error x) w) s):
 Ep W.M A (.compStart e a d b z) R s:=by
 have k:(clausesOf e)[a]? =Ab g:=by rw[E.dc];exact O
 have H:((clausesOf e)[a]?.elim Au λ x=>x.is_async !=0)=Au:=by
  rw[k];simp[Q]
 refine codeAny_of_tree ?_;have o:(W.M.den (.compStart e a d b z))=((compStart e a d b z).onRaise (λ x=>do UZ x z;standAt theWindowsPlace)):=by
  show(if(Code.compStart e a d b z).isFrame=Ag then _ else _)=_;rw[(E.start a d b z)];rfl
 rw[o,(E.fh A a d b z)];refine wpAny_notedAt ?_;unfold compStart;rw[H,k];rw[if_neg CQ];refine Ac (wpAny_askSetting ?_);refine KB ?_;split
 ·first
   |exact Ac (Ar (Ar (And.intro rfl N)))
   |exact Ar (And.intro rfl N)
 ·exact Ac (NR (Ac (AZ (Ac (DH V (λ h w Z=>Ar (And.intro rfl Z)) λ _ _ x=>x)))))
theorem Sa {a:Type}{l:List (List a)}{r:List a}(h:l[i]? =Ab r):(l.take (i+1)).flatten=(l.take i).flatten++r:=by
 rw[List.take_add_one,h];simp
theorem OT {a:Type}(l:List (List a))(i:Nat):((l.take i).flatten).length<=l.flatten.length:=by
 have:l.flatten=(l.take i).flatten++(l.drop i).flatten:=by rw[<-List.flatten_append,E4]
 rw[this,AP];exact AR (BP (List.flatten (List.take i l))) (BP (List.flatten (List.drop i l)))
theorem Oc (h:Dj):h.mark Ah=h:=rfl
noncomputable def FV (P:Ai->Prop)(h k:AS):Prop:=∀b o,¬P b->h.get? b=Ab o->o.cls≠.type "frame"->o.cls≠.none->k.get? b=Ab o
theorem FV.trans {P:Ai->Prop}(a:FV P h H)(b:FV P H d):FV P h d:=λ c o hc e k s=>b c o hc (a c o hc e k s) k s
theorem FV.weak {P b:Ai->Prop}(k:∀a,P a->b a)(a:FV P h H):FV b h H:=λ c o hc e s w=>a c o (λ q=>hc (k c q)) e s w
theorem BA.bz {P:Ai->Prop}(k:BA W h H):FV P h H:=λ _ _ _ e o s=>k.keep e o s
theorem Lr.bz {P:Ai->Prop}(k:Lr W P h H):FV P h H:=λ b o s e _ _=>k.keep b o s e
theorem FV.refl {P:Ai->Prop}:FV P h h:=λ _ _ _ e _ _=>e
theorem Kn (o:s.heap.get? D=Ab (I0 a n))(w:a.size<=BX)
 (z:∀h k,h.get? D=Ab (I0 (a.push v) k)->BK D s.heap h->Q .none {s with heap:=h}):Av W.M A (call (.builtin "list.append") [.ref D,v]) Q E s:=by
 have O:=FR;refine wpAny_list_append_plain ⟨n,o⟩ (λ h H N=>?_) (Aa w (by decide));obtain⟨k,e⟩:=H;exact z h k e N
noncomputable def Bp (h:Bf)(k:A5):A5:=k.filter λ p=>h.names.lookup p.1==Ab .free
noncomputable def Eg (k h:Bf):Bool:=
 h.kind== .function&&decide ((h.names.map (·.1)).Nodup)&&h.names.all λ p=>p.2 != .free||(k.names.lookup p.1==Ab .cell||k.names.lookup p.1==Ab .free)
theorem F5 (h:Bf)(x:Str):∀(k:A5),(Bp h k).lookup x=if h.names.lookup x=Ab .free then k.lookup x else Ah:=by
 intro k;unfold Bp;induction k with
 |nil=>simp
 |cons p k s=>
  rw[FH];by_cases o:h.names.lookup p.1=Ab .free
  ·simp only[o,beq_self_eq_true,if_true];by_cases q:x=p.1
   ·subst q;rw[AC,AC,if_pos o]
   ·rw[AI q,AI q];exact s
  ·have:(h.names.lookup p.1==Ab .free)=Au:=by simpa using o
   simp only[this,BR,if_false];by_cases q:x=p.1
   ·subst q;rw[s,if_neg o,if_neg o]
   ·rw[AI q];exact s
variable {r:List Bq} in
noncomputable def GQ (o:Env):List (Str×Gs)->List (Str×Ai)->List (Str×Ai)
 |[],h=>h
 |(x,k)::r,h=>if k== .free then GQ o r ((x,(o.cells.lookup x).getD 0)::h) else GQ o r h
theorem Ol:GQ z ((x,b)::r) a=if b== .free then GQ z r ((x,(z.cells.lookup x).getD 0)::a) else GQ z r a:=rfl
theorem He:CD n ((x,b)::r) a=if b== .cell then CD (n+1) r ((x,n)::a) else CD n r a:=rfl
theorem Mo (w:∀p∈a.names,p.2=.free->(z.cells.lookup p.1).isSome=Ag):closureFor a z=pure (GQ z a.names []):=by
 unfold closureFor;have E:∀h o,(∀p∈h,p.2=.free->(z.cells.lookup p.1).isSome=Ag)->
  (forIn h o λ x A=>match x with
   |(name,s)=>if(s==Fd)=Ag then do
    let c <-cellOf z name
    pure (E3 ((name,c)::A))
    else pure (E3 A))=(pure (GQ z h o):Sem (List (Str×Ai))):=by
  intro h;induction h with
  |nil=>intro o _;rfl
  |cons p r H=>
   intro o w;obtain⟨x,k⟩:=p;rw[EF];have N:∀p∈r,p.2=.free->(z.cells.lookup p.1).isSome=Ag:=λ p O=>w p (Af _ O);rw[Ol];by_cases hk:k=.free
   ·subst hk;obtain⟨c,hc⟩:=G3.mp (w (x,.free) Ad rfl);simp only[beq_self_eq_true,if_true];have e:cellOf z x=pure c:=by unfold cellOf;rw[hc]
    rw[e,hc];exact H _ N
   ·have:(k==Fd)=Au:=by simpa using hk
    simp only[this,BR,if_false];exact H _ N
 have:=E a.names [] w;show(forIn a.names [] _ >>=λ A=>pure A)=_;rw[this];rfl
theorem Lo (x:Str):∀(o:List (Str×Gs))(s:List (Str×Ai)),(o.map (·.1)).Nodup->(∀p∈o,p.2=.free->(z.cells.lookup p.1).isSome=Ag)->
 (GQ z o s).lookup x=if o.lookup x=Ab .free then z.cells.lookup x else s.lookup x:=by
 intro o;induction o with
 |nil=>intro s _ _;rfl
 |cons p r A=>
  intro s w h;obtain⟨y,k⟩:=p;rw[Bu,Bz] at w;have E:∀p∈r,p.2=.free->(z.cells.lookup p.1).isSome=Ag:=λ p O=>h p (Af _ O);have N:∀H,r.lookup y=Ab H->False:=λ H e=>w.1 (AF.mpr ⟨(y,H),mem_of_lookup e,rfl⟩);rw[Ol];by_cases q:x=y
  ·subst q;rw[AC];by_cases hk:k=.free
   ·subst hk;obtain⟨c,hc⟩:=G3.mp (h (x,.free) Ad rfl);rw[A _ w.2 E,if_neg (λ e=>N _ e),AC,hc];rfl
   ·have:(k==Fd)=Au:=by simpa using hk
    simp only[this,BR,if_false];rw[A _ w.2 E,if_neg (λ e=>N _ e),if_neg (λ e=>hk (by injection e))]
  ·rw[AI q];split
   ·rw[A _ w.2 E,AI q]
   ·rw[A _ w.2 E]
theorem Dr (x:Str):∀(h:List (Str×Gs))(n:Nat)(o:List (Str×Ai)),(h.map (·.1)).Nodup->
 (h.lookup x≠Ab .cell->(CD n h o).lookup x=o.lookup x)/\(h.lookup x=Ab .cell->∃c,(CD n h o).lookup x=Ab c/\n<=c):=by
 intro h;induction h with
 |nil=>intro n o _;exact⟨λ _=>rfl,λ e=>by contradiction⟩
 |cons p r w=>
  intro n o s;obtain⟨y,k⟩:=p;rw[Bu,Bz] at s;have A:∀z,r.lookup y=Ab z->False:=λ z e=>s.1 (AF.mpr ⟨(y,z),mem_of_lookup e,rfl⟩);rw[He];by_cases q:x=y
  ·subst q;rw[AC];by_cases hk:k=.cell
   ·subst hk;refine⟨λ e=>absurd rfl e,λ _=>?_⟩;rw[(w (n+1) ((x,n)::o) s.2).1 (λ e=>A _ e),AC];exact⟨n,rfl,An _⟩
   ·have:(k==Co)=Au:=by simpa using hk
    simp only[this,BR,if_false];exact⟨λ _=>(w n o s.2).1 (λ e=>A _ e),λ e=>absurd (by injection e) hk⟩
  ·rw[AI q];split
   ·have E:=w (n+1) ((y,n)::o) s.2;exact⟨λ e=>by rw[E.1 e,AI q],λ e=>by obtain⟨c,a,b⟩:=E.2 e;exact⟨c,a,by exact AX ‹_›⟩⟩
   ·exact w n o s.2
theorem QY:∀(o:List (Str×Gs))(h:AS)(s:List (Str×Ai)),(∀p∈s,p.2<h.objs.size)->
 (∀p∈CD h.objs.size o s,p∈s\/(h.objs.size<=p.2/\(M5 h o).IsCell p.2 Ah))/\(∀p∈CD h.objs.size o s,p.2<(M5 h o).objs.size):=by
 intro o;induction o with
 |nil=>intro h s z;exact⟨λ p w=>.inl w,z⟩
 |cons p r E=>
  intro h s z;obtain⟨y,k⟩:=p;rw[He,show M5 h ((y,k)::r)=if k== .cell then M5 (h.push {cls:=.type "cell",data:=.cell Ah}) r else M5 h r from rfl];split
  ·have A:(h.push {cls:=.type "cell",data:=.cell Ah}).objs.size=h.objs.size+1:=CU ..;obtain⟨H,N⟩:=E (h.push {cls:=.type "cell",data:=.cell Ah}) ((y,h.objs.size)::s) (λ p w=>by
    rcases Al.mp w with q |q
    ·subst q;rw[A];exact CH _
    ·rw[A];exact Gl (z p q))
   rw[A] at H N;refine⟨λ p w=>?_,N⟩;rcases H p w with q |⟨Q,O⟩
   ·rcases Al.mp q with q |q
    ·subst q;exact .inr ⟨An _,⟨_,Eb _ _ _ _ (AD _ rfl),rfl⟩⟩
    ·exact .inl q
   ·exact .inr ⟨by exact AX ‹_›,O⟩
  ·exact E h s z
theorem Rp.ay (k:∀a∈Y,h.get? a=CC)(r:Rp W X h v d):Rp W (Y++X) h v d:=
 r.bi λ b _ e n _=>⟨e,λ q=>by
  rcases AK.mp q with q |q
  ·rw[k b q] at e;cases e
  ·exact n q⟩
theorem RpL.ay (k:∀a∈Y,h.get? a=CC)(r:RpL W X h c d):RpL W (Y++X) h c d:=
 r.bi λ b _ e n _=>⟨e,λ q=>by
  rcases AK.mp q with q |q
  ·rw[k b q] at e;contradiction
  ·exact n q⟩
theorem BY.ay (k:∀a∈Y,h.get? a=CC)(r:BY W X h a d):BY W (Y++X) h a d:=r.map (λ _ e _=>e) λ _ _=>RpL.ay k
theorem BU.ay (k:∀a∈Y,h.get? a=CC)(r:BU W Z X h v b):BU W (Y++Z) (Y++X) h v b:=
 r.to (λ _ _=>Rp.ay k) λ a _ m z o=>⟨AU _ m,λ q=>(AK.mp q).elim (λ q=>by obtain⟨x,s⟩:=o.alive;rw[k a q] at s;contradiction) z,o.ay k⟩
theorem G9:∀{h:List (Str×Gs)},
 (h.lookup x=Ab .local->(h.map λ y=>match y with |(n,k)=>if(k==Fd&&z.scope.kind==Fv&&z.kindOf n==Ab Co)=Ag then(n,Co) else(n,k)).lookup x=Ab .local)/\
 (h.lookup x=Ab .cell->(h.map λ y=>match y with |(n,k)=>if(k==Fd&&z.scope.kind==Fv&&z.kindOf n==Ab Co)=Ag then(n,Co) else(n,k)).lookup x=Ab .cell)/\
 (h.lookup x=Ab .globalImplicit->(h.map λ y=>match y with |(n,k)=>if(k==Fd&&z.scope.kind==Fv&&z.kindOf n==Ab Co)=Ag then(n,Co) else(n,k)).lookup x=Ab .globalImplicit)/\
 (h.lookup x=Ab .free->(h.map λ y=>match y with |(n,k)=>if(k==Fd&&z.scope.kind==Fv&&z.kindOf n==Ab Co)=Ag then(n,Co) else(n,k)).lookup x=Ab .free\/
   (h.map λ y=>match y with |(n,k)=>if(k==Fd&&z.scope.kind==Fv&&z.kindOf n==Ab Co)=Ag then(n,Co) else(n,k)).lookup x=Ab .cell):=by
 intro h;induction h with
 |nil=>simp
 |cons p r s=>
  obtain⟨y,k⟩:=p;rw[Bu];by_cases q:x=y
  ·subst q;simp only[AC,Option.some.injEq];split
   ·rename_i hc;simp only[AG,beq_iff_eq] at hc;refine⟨λ e=>?_,λ e=>?_,λ e=>?_,λ e=>.inr AC⟩<;>(rw[hc.1.1] at e;contradiction)
   ·refine⟨λ e=>?_,λ e=>?_,λ e=>?_,λ e=>.inl ?_⟩<;>(subst e;exact AC)
  ·rw[AI q];have e:∀o,C9 x ((match(y,k) with |(n,k)=>if(k==Fd&&z.scope.kind==Fv&&z.kindOf n==Ab Co)=Ag then(n,Co) else(n,k))::o)=C9 x o:=by
    intro o;dsimp only;split<;>exact AI q
   rw[e];exact s
noncomputable def LP:Obj:={cls:=.type "dict",data:=.dict #[]}
theorem UG:∀(o:List (Str×Gs))(s:List (Str×Ai)),(∀p∈o,p.2=.free->(z.cells.lookup p.1).isSome=Ag)->(∀p∈s,z.cells.lookup p.1=Ab p.2)->∀p∈GQ z o s,z.cells.lookup p.1=Ab p.2:=by
 intro o;induction o with
 |nil=>intro s _ h;exact h
 |cons p r A=>
  intro s E h;obtain⟨y,k⟩:=p;have H:∀p∈r,p.2=.free->(z.cells.lookup p.1).isSome=Ag:=λ p w=>E p (Af _ w);rw[Ol];split
  ·rename_i hk;obtain⟨c,hc⟩:=G3.mp (E (y,k) Ad (by simpa using hk:k=.free));refine A _ H λ p w=>?_;rcases Al.mp w with q |q
   ·subst q;rw[hc];rfl
   ·exact h p q
  ·exact A s H h
theorem QZ:∀(h:List (Str×Gs))(n:Nat)(o:List (Str×Ai)),CD n h o=CD n h []++o:=by
 intro h;induction h with
 |nil=>intro n o;rfl
 |cons p r s=>
  intro n o;obtain⟨y,k⟩:=p;rw[He,He];split
  ·rw[s (n+1) ((y,n)::o),s (n+1) [(y,n)],BQ];rfl
  ·exact s n o
theorem Mg {c:Type}:∀{a b:List (Str×c)},(a++b).lookup x=(a.lookup x).or (b.lookup x):=by
 intro a;induction a with
 |nil=>
  intro b;simp
 |cons k a h=>
  intro b;obtain⟨y,v⟩:=k;by_cases q:x=y
  ·subst q;rw[Ee,AC,AC];rfl
  ·rw[Ee,AI q,AI q];exact h
theorem TV (F:FI W V z Z X s.heap O)(R:BA W W.h0 s.heap)(J:Eg V f=Ag){Q:Env->Aq->Prop}
 (hQ:∀(n:Env)(h':AS)(Y:List Ai),FI W f {n with scope:=NU f z} (Y++Z) (Y++X) h' (Bp f O)->(∀b o,s.heap.get? b=Ab o->h'.get? b=Ab o)->(∀a∈Y,s.heap.get? a=Ah)->
  (∀a,Ea f {n with scope:=NU f z} a->a∈Y)->(∀a∈AV {n with scope:=NU f z},a∈Y\/a∈AV z)->Q n {s with heap:=h'}):
 ∃cl,closureFor f z=pure cl/\Av W.M A (F3 f z.globals cl [] z.qual Ah .none (Ab z)) Q E s:=by
 unfold Eg at J;rw[AG,AG] at J;obtain⟨⟨j,w⟩,U⟩:=J;have j:f.kind=.function:=by simpa using j
 have w:=of_decide_eq_true w;have C:∀x k,(x,k)∈f.names->k=.free->V.names.lookup x=Ab .cell\/V.names.lookup x=Ab .free:=λ x k hm hk=>by
  have:=AQ.mp U (x,k) hm;subst hk;simpa using this
 have H:∀p∈f.names,p.2=.free->(z.cells.lookup p.1).isSome=Ag:=λ p N hk=>by
  obtain⟨c,ov,e,_⟩:=F.cell p.1 (C p.1 p.2 N hk);rw[e];rfl
 refine⟨GQ z f.names [],Mo H,?_⟩;have fresh:∀a,s.heap.objs.size<=a->s.heap.get? a=Ah:=λ a B=>by
  cases e:s.heap.get? a with
  |none=>rfl
  |some o=>exact absurd (AT e) (B6.mpr B)
 have t:=UG f.names [] H (λ p N=>nomatch N);have u:∀p∈GQ z f.names [],p.2∈Z:=λ p N=>F.bb _ (Di (t p N));have l:∀p∈GQ z f.names [],p.2<s.heap.objs.size:=λ p N=>by
  obtain⟨o,L⟩:=(F.alive _ (F.zx _ (u p N))).2;exact AT L
 simp only[F3,Option.isSome_some,if_true];refine Ac (OY ?_);refine Ac (wpAny_layCells _ (λ name a0 a1=>by cases a2:a0==Co<;>simp[a2]) _ _ _ _ ?_);have T:(s.heap.push LP).objs.size=s.heap.objs.size+1:=CU ..;rw[CU ..];refine Ac (Ar (Ar ?_));obtain⟨g,a3⟩:=QY f.names (s.heap.push LP) (GQ z f.names []) (λ p N=>by rw[T];exact Gl (l p N));rw[<-(by rw[T]:CD (s.heap.objs.size+1) f.names (GQ z f.names [])=CD (s.heap.push LP).objs.size f.names (GQ z f.names []))] at g a3;have kp:∀b o,s.heap.get? b=Ab o->(M5 (s.heap.push LP) f.names).get? b=Ab o:=λ b o e=>Eb _ _ _ _ (AH _ e);have KP:BA W s.heap (M5 (s.heap.push LP) f.names):=.af kp;have hY:∀a∈s.heap.objs.size::((CD (s.heap.objs.size+1) f.names (GQ z f.names [])).map (·.2)).filter (λ a=>decide (s.heap.objs.size<=a)),s.heap.get? a=Ah:=λ a B=>by
  rcases Al.mp B with q |q
  ·exact fresh a (by rw[q];exact An _)
  ·exact fresh a (of_decide_eq_true (Aw.mp q).2)
 have M:∀p∈CD (s.heap.objs.size+1) f.names (GQ z f.names []),s.heap.objs.size<=p.2->p.2∈s.heap.objs.size::((CD (s.heap.objs.size+1) f.names (GQ z f.names [])).map (·.2)).filter (λ a=>decide (s.heap.objs.size<=a)):=
  λ p N m=>Af _ (Aw.mpr ⟨AF.mpr ⟨p,N,rfl⟩,decide_eq_true m⟩)
 have D:∀x c,(CD (s.heap.objs.size+1) f.names (GQ z f.names [])).lookup x=Ab c->(f.names.lookup x=Ab .cell/\s.heap.objs.size+1<=c)\/(f.names.lookup x=Ab .free/\z.cells.lookup x=Ab c):=λ x c e=>by
  obtain⟨i1,i2⟩:=Dr x f.names (s.heap.objs.size+1) (GQ z f.names []) w;by_cases hc:f.names.lookup x=Ab .cell
  ·obtain⟨c',e',m⟩:=i2 hc;obtain rfl:=A4 e e';exact .inl ⟨hc,m⟩
  ·rw[i1 hc,Lo x f.names [] w H] at e;split at e
   ·rename_i S;exact .inr ⟨S,e⟩
   ·cases e
 refine hQ _ _ _ ?_ kp hY ?_ ?_
 ·exact{
   bb:=λ a B=>by
    rcases Al.mp B with q |q
    ·subst q;exact AK.mpr (.inl Ad)
    ·obtain⟨p,N,rfl⟩:=AF.mp q;rcases g p N with q |⟨q,_⟩
     ·exact AK.mpr (.inr (u p q))
     ·exact AK.mpr (.inl (M p N (by rw[T] at q;exact AX q)))
   zx:=λ a B=>by
    rcases AK.mp B with q |q
    ·exact AK.mpr (.inl q)
    ·exact AK.mpr (.inr (F.zx a q))
   kind:=j
   bx:=F.bx
   blt:=F.blt
   ea:=λ x h=>G9.1 h
   da:=λ x h=>G9.2.1 h
   df:=λ x h=>G9.2.2.2 h
   dp:=λ x h=>G9.2.2.1 h
   ns:=⟨λ _=>Ah,(Heap.Ns.new s.heap (.type "dict")).keeps (Eb _ _),λ x sl hl e=>by
    rw[F5] at e;split at e
    ·rename_i S;cases hl.symm.trans S
    ·cases e⟩
   cell:=λ x h=>by
    rcases h with h |h
    ·obtain⟨c,e,m⟩:=(Dr x f.names (s.heap.objs.size+1) (GQ z f.names []) w).2 h;refine⟨c,Ah,e,?_,λ sl q=>?_⟩
     ·rcases g _ (mem_of_lookup e) with q |⟨_,q⟩
      ·exact absurd (l _ q) (B6.mpr (Aa (Bo _) m))
      ·exact q
     ·rw[F5] at q;split at q
      ·rename_i S;cases h.symm.trans S
      ·cases q
    ·obtain⟨c,ov,e,i,hv⟩:=F.cell x (C x _ (mem_of_lookup h) rfl);refine⟨c,ov,?_,i.keeps kp,λ sl q=>?_⟩
     ·skip
      rw[(Dr x f.names (s.heap.objs.size+1) (GQ z f.names []) w).1 (by rw[h];simp),Lo x f.names [] w H,if_pos h,e]
     ·rw[F5,if_pos h] at q;obtain⟨v,e',r⟩:=hv sl q;exact⟨v,e',(r.ay hY).ae KP⟩
   inj:=λ x y c h hy=>by
    rcases D x c h with⟨kx,lx⟩ |⟨kx,ex⟩<;>rcases D y c hy with⟨ky,ly⟩ |⟨ky,ey⟩
    ·have ok:=cellsFrom_ok f.names (s.heap.push LP) (s.heap.objs.size+1) [] ⟨λ _ _ hm=>(nomatch hm),GZ⟩ (by rw[T];exact An _);rw[T] at ok;have G:=h;have I:=hy;rw[QZ,Mg] at G I;obtain⟨c1,e1,_⟩:=(Dr x f.names (s.heap.objs.size+1) [] w).2 kx;obtain⟨c2,e2,_⟩:=(Dr y f.names (s.heap.objs.size+1) [] w).2 ky;rw[e1] at G;rw[e2] at I;simp at G I;subst G;subst I;exact name_of_addr ok.apart (mem_of_lookup e1) (mem_of_lookup e2)
    ·obtain⟨o,L⟩:=(F.alive _ (F.zx _ (F.bb _ (Di ey)))).2;exact absurd (AT L) (B6.mpr (Aa (Bo _) lx))
    ·obtain⟨o,L⟩:=(F.alive _ (F.zx _ (F.bb _ (Di ex)))).2;exact absurd (AT L) (B6.mpr (Aa (Bo _) ly))
    ·exact F.inj x y c ex ey
   dt:=λ x sl q=>by
    rw[F5] at q;split at q
    ·rename_i S;exact⟨.inr (.inr S),(F.dt x sl q).2⟩
    ·cases q
   alive:=λ a B=>by
    rcases AK.mp B with q |q
    ·refine⟨DC R (hY a q),?_⟩;rcases Al.mp q with q |q
     ·subst q;exact⟨_,Eb _ _ _ _ (AD _ rfl)⟩
     ·obtain⟨q1,q2⟩:=Aw.mp q;obtain⟨p,N,rfl⟩:=AF.mp q1;rcases g p N with q |⟨_,o,L,_⟩
      ·have:=l p q;exact absurd this (B6.mpr (of_decide_eq_true q2))
      ·exact⟨o,L⟩
    ·exact⟨(F.alive a q).1,BJ KP (F.alive a q).2⟩
   ci:=λ x y d e h1 h2=>by
    rw[F5] at h1 h2;split at h1
    ·split at h2
     ·exact F.ci x y d e h1 h2
     ·cases h2
    ·cases h1}
 ·intro a B;rcases B with rfl |⟨x,h,e⟩
  ·exact Ad
  ·rcases D x a e with⟨_,m⟩ |⟨k,_⟩
   ·exact M (x,a) (mem_of_lookup e) (Aa (Bo _) m)
   ·cases h.symm.trans k
 ·intro a B;rcases Al.mp B with q |q
  ·subst q;exact .inl Ad
  ·obtain⟨p,N,rfl⟩:=AF.mp q;rcases g p N with q |⟨q,_⟩
   ·exact .inr (Di (t p q))
   ·exact .inl (M p N (by rw[T] at q;exact AX q))
section
theorem Lv.ai (w:∀a∈b,a∈X)(E:Lv W X h I d):Lv W b h I d:=by
 cases E with
 |@list H N n k o s z A=>exact .list k o (λ q=>s (w _ q)) z (A.ai w)
 |@ba H N n k o s z A=>exact .ba k o (λ q=>s (w _ q)) z (A.ai w)
 |@range a c n k o s=>exact .range k o s
theorem Lv.ay (A:∀a∈Y,h.get? a=Ah)(O:Lv W X h I b):Lv W (Y++X) h I b:=by
 have N:∀{s:Ai}{o:Obj},h.get? s=Ab o->s∉X->s∉Y++X:=λ e n q=>by
  rcases AK.mp q with q |q
  ·rw[A _ q] at e;cases e
  ·exact n q
 cases O with
 |@list s Q n w k z E H=>exact .list w k (N k z) E (H.ay A)
 |@ba s Q n w k z E H=>exact .ba w k (N k z) E (H.ay A)
 |@range a c n w k z=>exact .range w k z
theorem FI.congr (F:FI W V z Z X h O)(w:∀a,a∈b↔a∈Z)(s:∀a,a∈c↔a∈X):FI W V z b c h O:=
 F.same (λ a k=>(w a).mpr (F.bb a k)) (λ a k=>(s a).mpr (F.zx a ((w a).mp k))) (λ _ h=>h) (λ _ _ _ _ h=>h) (λ _ _ _ _ r=>r.to (λ _ _ r=>r.ai λ a k=>(s a).mp k) λ a _ m A o=>⟨(s a).mpr m,λ q=>A ((w a).mp q),o.map (λ _ e _=>e) λ _ _ r=>r.ai λ a k=>(s a).mp k⟩)
   λ a k=>F.alive a ((s a).mp k)
end
noncomputable def E7 (h:List (Str×PV))(k:Str)(d:PV):List (Str×PV):=
 if h.any (λ e=>e.1=k) then h.map (λ e=>if e.1=k then(e.1,d) else e) else h++[(k,d)]
noncomputable def Zd (l:List (Str×PV)):List (Str×PV):=l.foldl (λ h p=>E7 h p.1 p.2) []
noncomputable def Zz (o:BV)(D:Ai)(X:List Ai)(h:AS)(l:List PV):Prop:=∃k n,h.get? D=Ab (I0 k n)/\RpL o X h k.toList l
noncomputable def Wt (k:BV)(D:Ai)(X:List Ai)(o:AS)(l:List (Str×PV)):Prop:=
 ∃h,o.DictOf k.K D h/\h.map (·.1)=(Zd l).map (·.1)/\RpL k X o (h.map (·.2)) ((Zd l).map (·.2))
theorem wJ (D:Ai):ZA D (Zz W D) where
 bi:=λ x hk k=>by obtain⟨h,n,e,r⟩:=x;exact⟨h,n,k _ e,r.bi λ b o e n d=>hk b o e n (EJ.cls d)⟩
 obj:=λ x=>by obtain⟨h,n,e,r⟩:=x;exact⟨_,e,.inl rfl⟩
theorem tC (D:Ai):ZA D (Wt W D) where
 bi:=λ x hk z=>by obtain⟨h,⟨o,s,w,k,x⟩,q,r⟩:=x;exact⟨h,⟨o,s,w,z _ k,x⟩,q,r.bi λ b o e n d=>hk b o e n (EJ.cls d)⟩
 obj:=λ x=>by obtain⟨h,⟨o,s,w,k,A,_⟩,q,r⟩:=x;exact⟨o,k,.inr (.inr A.1)⟩
theorem YA (h:List (Str×PV))(k:Str)(d:PV):(h.map λ e=>if e.1=k then(e.1,d) else e).map (·.1)=h.map (·.1):=by
 induction h with
 |nil=>rfl
 |cons e h o=>
  rw[Bu,o];by_cases q:e.1=k<;>simp[q]
theorem XN (A:Rp W X h v d):∀(k:List (Str×Ae))(o:List (Str×PV)),k.map (·.1)=o.map (·.1)->RpL W X h (k.map (·.2)) (o.map (·.2))->
 RpL W X h ((k.map λ s=>if s.1=a then(s.1,v) else s).map (·.2)) ((o.map λ e=>if e.1=a then(e.1,d) else e).map (·.2)):=by
 intro k;induction k with
 |nil=>
  intro o hk r;cases o with
  |nil=>exact .nil
  |cons _ _=>contradiction
 |cons s k E=>
  intro o hk r;cases o with
  |nil=>contradiction
  |cons e o=>
   simp only[Bu,List.cons.injEq] at hk;obtain⟨H,N⟩:=RpL.gy r
   ·skip
    refine .cons ?_ (E o hk.2 N);by_cases q:e.1=a
    ·have w:=hk.1.trans q;simpa[q,w] using A
    ·have w:¬s.1=a:=λ z=>q (hk.1.symm.trans z);simpa[q,w] using H
theorem LA {v:Ae}{b:List (Str×PV)}{a:List (Str×Ae)}{k:Str}{d:PV}(hk:a.map (·.1)=b.map (·.1))(r:RpL W X h (a.map (·.2)) (b.map (·.2)))(s:Rp W X h v d):
 (stored a k v).map (·.1)=(E7 b k d).map (·.1)/\RpL W X h ((stored a k v).map (·.2)) ((E7 b k d).map (·.2)):=by
 have o:(a.any λ w=>decide (w.1=k))=(b.any λ e=>decide (e.1=k)):=by
  have:=LL k hk r;rw[<-this.1];rw[BH];simp
 delta stored E7
 rw[o];split
 ·exact⟨by simp only[keys_map_store,YA,hk],XN s a b hk r⟩
 ·simp only[Dx,Dx,Dx,Dx];exact⟨by rw[hk];rfl,r.append (.bq s)⟩
theorem HF (h:List (Str×PV))(k:Str)(d:PV):(E7 h k d).length<=h.length+1:=by
 unfold E7;split<;>simp
theorem Ki (l:List (Str×PV))(p:Str×PV):Zd (l++[p])=E7 (Zd l) p.1 p.2:=by unfold Zd;rw[List.foldl_append];rfl
theorem MO (l:List (Str×PV)):(Zd l).length<=l.length:=by
 have k:∀(l h:List (Str×PV)),(l.foldl (λ h p=>E7 h p.1 p.2) h).length<=h.length+l.length:=by
  intro l;induction l with
  |nil=>intro h;exact An _
  |cons p l o=>intro h;exact Aa (o (E7 h p.1 p.2)) (Aa (B7 (HF h p.1 p.2) _) (Az (by rw[Et,DQ 1];rfl)))
 have:=k l [];simpa[Zd] using this
noncomputable def uG:PV->Option Str
 | .str s=>Ab s
 |_=>Ah
theorem Rl {m:Str->Option Ae}(V:s.heap.get? C=Ah)(h:BA W s.heap H)(l:s.toks<=b)(N:H.Ns C m)(r:Rp W (C::X) H (.ref D) d)
 (Z:∀v H b,BA W s.heap H->s.toks<=b->Rp W X H v d->Q v {s with heap:=H,toks:=b}):Jz W.M A E Ah Q (.ref D) C (.ok .next) {s with heap:=H,toks:=b}:=by
 refine⟨m,N,λ k O=>Z _ k b (h.az V (λ o g c e=>?_) O) l ((r.az O Ad).ai λ a f=>Af _ f)⟩;obtain⟨i,j,n,w,z,_⟩:=N;obtain rfl:=A4 c w;cases e.symm.trans z
set_option genCtorIdx true in
inductive BF where
 |len |sum |max |min |sorted |str |int |list
 deriving DecidableEq
noncomputable def BF.name:BF->Str
 | .len=>"len" | .sum=>"sum" | .max=>"max" | .min=>"min" | .sorted=>"sorted" | .str=>"str" | .int=>"int" | .list=>"list"
noncomputable def BF.val:BF->Ae
 | .len=>.builtin "len" | .sum=>.builtin "sum" | .max=>.builtin "max" | .min=>.builtin "min" | .sorted=>.builtin "sorted" | .str=>.type "str" | .int=>.type "int" | .list=>.type "list"
variable {i:Nat} in
noncomputable def vC:PV->Option Int
 | .int i=>Ab i
 |_=>Ah
noncomputable def Hw (l:List PV):Option (List Int):=l.mapM vC
noncomputable def G7 (l:List PV):Option (List Str):=l.mapM uG
theorem Uj (h:Hw (d::l)=Ab a):∃i r,d=.int i/\Hw l=Ab r/\a=i::r:=by
 unfold Hw at h;rw[HX] at h;obtain⟨b,o,h⟩:=AL.mp h;obtain⟨s,k,h⟩:=AL.mp h;cases h;cases d<;>first |cases o;exact⟨_,_,rfl,k,rfl⟩ |exact absurd o nofun
theorem Op (h:G7 (d::l)=Ab a):∃i r,d=.str i/\G7 l=Ab r/\a=i::r:=by
 unfold G7 at h;rw[HX] at h;obtain⟨b,o,h⟩:=AL.mp h;obtain⟨s,k,h⟩:=AL.mp h;cases h;cases d<;>first |cases o;exact⟨_,_,rfl,k,rfl⟩ |exact absurd o nofun
noncomputable def WH (l:List Int):List Int:=l.mergeSort (λ a b=>decide (a<=b))
variable {a:Ai}{r:List Bq} in
noncomputable def u2:List Int->Option Int
 |[]=>Ah
 |a::r=>Ab (r.foldl max a)
theorem RpL.gn (r:RpL W X h c d):Hw d=Ab b->IntsAre c b:=
 r.bt (P:=λ c d=>∀b,Hw d=Ab b->IntsAre c b) (λ _ e=>AN e▸.nil) (λ v _ _ _ a _ i b e=>by
   obtain⟨j,o,rfl,k,rfl⟩:=Uj e;obtain⟨t,rfl⟩:=a.aj;exact .cons _ _ (i _ k)) b
theorem RpL.dw {a:List Int}(r:IntsAre b a):RpL W X h b (a.map .int):=r.rec .nil λ n t{_ _} _ i=>.cons (.int n t) i
theorem RpL.gb (r:RpL W X h c d):G7 d=Ab b->QC c b:=
 r.bt (P:=λ c d=>∀b,G7 d=Ab b->QC c b) (λ _ e=>AN e▸.nil) (λ v _ _ _ a _ i b e=>by
   obtain⟨j,o,rfl,k,rfl⟩:=Op e;obtain⟨t,rfl,_⟩:=a.aj;exact .cons _ _ (i _ k)) b
theorem X0:∀{h:List PV}{k:List Str},G7 h=Ab k->h=k.map .str:=by
 intro h;induction h with
 |nil=>
  intro _ e;cases e;rfl
 |cons d h o=>
  intro k e;obtain⟨i,w,rfl,s,rfl⟩:=Op e;rw[o s];rfl
theorem RpL.gc {a:List Str}(r:RpL W X h b (a.map .str)):∀x∈a,A9 x=Ag/\x.length<=BX:=λ x o=>by
 obtain⟨k,hk⟩:=Ix.mp o;obtain⟨v,_,s⟩:=r.get (k:=k) (by rw[Bk,hk];rfl);exact s.aj.choose_spec.2
theorem RpL.dv {a:List Str}(r:QC b a):(∀x∈a,A9 x=Ag/\x.length<=BX)->RpL W X h b (a.map .str):=
 r.rec (λ _=>.nil) λ n t{_ _} _ i hk=>.cons (.str n t (hk n Ad).1 (hk n Ad).2) (i λ x k=>hk x (Af _ k))
theorem Pv (r:QC b a):∃l:List (Str×Tok),b=strValues l/\l.map (·.1)=a:=
 r.rec ⟨[],rfl,rfl⟩ λ n t{_ _} _ i=>by obtain⟨l,h,k⟩:=i;exact⟨(n,t)::l,congrArg (Value.str n t::·) h,congrArg (n::·) k⟩
theorem TK (h:List Int):preSum (λ i=>h.getD i 0) h.length=h.sum:=by
 have o:∀k,k<=h.length->preSum (λ i=>h.getD i 0) k=(h.take k).sum:=by
  intro k;induction k with
  |zero=>intro _;rfl
  |succ k s=>
   intro hk;rw[preSum,s (AX ‹_›),take_sum_succ _ _ (by assumption)]
 rw[o _ (An _),List.take_length]
theorem lZ {i:Nat}{v:Ae}{b:List Ae}{a:List Int}(r:IntsAre b a):b[i]? =Ab v->∃t,v=.int (a.getD i 0) t:=
 r.rec (λ _ e=>absurd (Kz.symm.trans e) nofun) (λ n t{_ _} _ h i=>i.casesOn (λ e=>⟨t,(AN e).symm⟩) h) i
theorem XX (p:A.handled=Ah)(O:s.heap.get? a=Ab (I0 c n))(V:IntsAre c.toList d)
 (q:∀t H r,BA W s.heap H->Q (.int d.sum t) {s with heap:=H,toks:=r}):Av W.M A (call (.builtin "sum") [.ref a]) Q E s:=by
 have Z:s.heap.IsList a c:=⟨_,O,rfl,n,rfl⟩;refine call_sum_walkAnyS (wpAny_pyIter_list Z ?_);have h:=AT O;have k:=V.length;refine⟨_,_,_,_,_,_,_,λ i=>d.getD i 0,rfl,((Walks.list (prog:=W.prog) (w:=W.w) (A:=A.in1) p s.heap.objs.size a (Ct h) c)).toS,⟨⟨_,AD _ rfl,rfl,rfl⟩,Z.push _⟩,λ b w=>?_,λ i v u=>lZ V (by simpa using u),λ z x f=>?_⟩
 ·skip
  rw[CU];rcases Al.mp w with rfl |w
  ·exact CH _
  ·rcases Al.mp w with rfl |w
   ·exact Gl h
   ·contradiction
 ·have e:z={s with heap:=z.heap,toks:=z.toks}:=by
   obtain⟨H,D,G,y,B⟩:=z;obtain⟨_,g,j,l,_⟩:=f;simp only at g j l;subst g j l;rfl
  rw[(by simpa using k:c.size=d.length),TK,e];refine q x _ _ (.af λ b o m=>f.heap b o (λ N=>?_) (AH _ m));rcases Al.mp N with C |N
  ·exact absurd (C▸AT m) (EW _)
  ·cases N
theorem Qd (l:List Int)(a:Int):(l.foldl max a∈a::l)/\∀b∈a::l,b<=l.foldl max a:=List.max?_eq_some_iff.mp rfl
theorem VE (m:A.handled=Ah)(p:s.heap.get? a=Ab (I0 d n))(O:IntsAre d.toList f)(q:u2 f=Ab M)
 (u:∀t H N,BA W s.heap H->Q (.int M t) {s with heap:=H,toks:=N}):Av W.M A (call (.builtin "max") [.ref a]) Q E s:=by
 have V:s.heap.IsList a d:=⟨_,p,rfl,n,rfl⟩;obtain⟨h,e⟩:=O.allInts.items;have o:f=h.toList.map (·.1):=by rw[<-O.numsOf,<-nums_intItems,<-e]
 cases f with
 |nil=>contradiction
 |cons c r=>
  have k:(c::r).length=h.size:=by rw[o,Aj,DM]
  have w:0<h.size:=k▸DN _;rw[show d=intItems h from e] at V;refine max_intList m V w λ v H N x hk=>?_;obtain⟨t,rfl⟩:=intItems_at x;obtain⟨Z,g⟩:=argBest_gt (numAt h) (h.size-1);generalize argBest (λ i j=>decide (numAt h i>numAt h j)) (h.size-1)=b at Z g ⊢;obtain⟨y,B⟩:=Qd r c;have l:=numAt_eq h b;rw[<-o] at l;obtain⟨j,C,D⟩:=mem_getD y;have z:=numAt_eq h j;rw[<-o,D] at z;have:=(Int.le_antisymm (l▸B _ (getD_mem (k▸Nat.lt_of_le_pred w Z))) (z▸g j (Nat.le_pred_of_lt (k▸C)))).trans (AN q);exact this▸u t H N (.af hk)
theorem Px (s:a.Perm b)(w:a.Pairwise (·<=·)):a=WH b:=by
 refine GM (λ x y _ _ k o=>Int.le_antisymm k o) w ?_ (s.trans (List.mergeSort_perm b _).symm);have:=List.pairwise_mergeSort (le:=λ a b=>decide (a<=b)) (λ a b c k o=>decide_eq_true (Cw (of_decide_eq_true k) (of_decide_eq_true o))) (λ a b=>(Int.le_total a b).elim (λ h=>by rw[decide_eq_true h];exact Bool.true_or _) λ h=>by rw[decide_eq_true h];exact Jx _) b;exact this.imp λ h=>by simpa using h
noncomputable def tY (a b:Str):Bool:=decide (a.cps.toList<=b.cps.toList)
noncomputable def o5 (l:List Str):List Str:=l.mergeSort tY
theorem So:∀(r:List Str)(p:Str),risingS p r=Ag->(p::r).Pairwise (λ a b=>tY a b=Ag):=by
 intro r;induction r with
 |nil=>
  intro p _;simp
 |cons x r k=>
  intro p h;simp only[risingS] at h;rw[AG,CZ,ltCps_eq,decide_eq_false_iff_not,List.not_lt] at h;have s:=k x h.2;refine JT.mpr ⟨λ b o=>?_,s⟩;rcases Al.mp o with rfl |o
  ·exact decide_eq_true h.1
  ·have:=(JT.mp s).1 b o;exact decide_eq_true (List.le_trans h.1 (of_decide_eq_true this))
theorem TE (o:a.Perm b)(s:sortedS a=Ag):a=o5 b:=by
 have h:a.Pairwise (λ a b=>tY a b=Ag):=by
  cases a with
  |nil=>simp
  |cons x r=>exact So r x s
 refine GM (λ x y _ _ h k=>?_) h ?_ (o.trans (List.mergeSort_perm b _).symm)
 ·simp only[tY,decide_eq_true_eq] at h k;have:=List.le_antisymm h k;obtain⟨⟨x⟩⟩:=x;obtain⟨⟨y⟩⟩:=y;simp only at this;rw[this]
 ·exact List.pairwise_mergeSort (λ a b c h k=>by simp only[tY,decide_eq_true_eq] at*;exact List.le_trans h k) (λ a b=>by simp only[tY,CV,decide_eq_true_eq];exact List.le_total _ _) b
variable {a:List PV} in
noncomputable def x8:PV->Option PV
 | .list a=>Ab (.int a.length)
 | .str x=>Ab (.int x.length)
 |_=>Ah
variable {i:Nat} in
noncomputable def xN:PV->Option PV
 | .int i=>SR (i.natAbs<1000000000) (.str (Fn (O0 i)))
 | .str x=>Ab (.str x)
 |_=>Ah
noncomputable def WG (h:List PV):Option PV:=if decide (h.length<64) then((Hw h).map λ k=>.list ((WH k).map .int)).or ((G7 h).map λ o=>.list ((o5 o).map .str)) else Ah
noncomputable def M! (x:PV):Option PV:=lQ x λ h=>(Hw h).bind λ k=>(u2 k).map .int
noncomputable def Q0 (f:BF)(args:List PV):Option PV:=match f with
 | .len=>Tp args x8
 | .sum=>Tp args λ x=>lQ x λ h=>(Hw h).map λ k=>.int k.sum
 | .max=>(Tp args M!).or (uA args (QS λ a b=>Ab (.int (if b>a then b else a))))
 | .min=>uA args (QS λ a b=>Ab (.int (if b<a then b else a)))
 | .sorted=>Tp args λ x=>lQ x WG
 | .str=>Tp args xN
 | .int=>Tp args λ x=>Vl x λ x=>if decide (x.length<=640) then(M8 x).map .int else Ah
 | .list=>Tp args λ x=>lQ x λ h=>Ab (.list h)
theorem QK (i:Int):A9 (Fn (O0 i))=Ag:=by
 unfold PyData.strOk;rw[HI];intro c hc;by_cases q:c<1114112
 ·exact decide_eq_true q
 ·exact absurd (IN.mpr hc) (int_text_free' c ⟨λ h=>q (h▸by decide),.inr (Ao (by decide) (B6.mp q))⟩ i)
theorem Z8 {c:Array Ae}(B:∀a∈X,∃o,s.heap.get? a=Ab o)(C:s.heap.get? a=Ab (I0 c n))(z1:c.size<=BX)(j:RpL W X s.heap c.toList f)(e:WG f=Ab d)
 (D:∀v p G,BA W s.heap p->Rp W X p v d->Q v {s with heap:=p,toks:=G}):Av W.M A (call (.builtin "sorted") [.ref a]) Q E s:=by
 have q:=IA e;have l:=j.length;have N:s.heap.IsList a c.toList.toArray:=⟨_,C,rfl,n,rfl⟩;have O:=l▸of_decide_eq_true q.1;have V:∀h m,PV.list m=d->RpL W X s.heap h.toList m->m.length=f.length->Q (.ref (s.heap.objs.size+1)) {s with heap:=sortedAll s.heap c.toList h}:=λ h m Z y r=>
  have⟨R,t⟩:=sortedAll_at s.heap c.toList h;have k:=.af λ b o I=>sortedAll_old I
  D _ _ s.toks k (.at Z (.list t (λ q=>by obtain⟨o,J⟩:=B _ q;exact absurd (AT J) (B6.mpr (Bo _))) (show h.toList.length<=BX from y.length▸r▸l▸z1) (y.ae k)))
 rcases L7.mp q.2 with e |⟨_,e⟩
 ·obtain⟨L,w,Z⟩:=Bl.mp e;have g:=j.gn w;refine sorted_ints N g O λ h u H z i=>V h _ Z (Px z i▸.dw H) ?_;rw[Aj,<-Px z i,z.length_eq,<-g.length,l]
 ·obtain⟨L,w,Z⟩:=Bl.mp e;have g:=j.gb w;refine sorted_strs N g O λ h u H z i=>V h _ Z (TE z i▸.dv H λ x M=>(X0 w▸j).gc x (z.mem_iff.mp M)) ?_;rw[Aj,<-TE z i,z.length_eq,<-g.length,l]
theorem mB {i:Int}(h:i.natAbs<1000000000):i.natAbs.log2<1920:=by
 by_cases z:i.natAbs=0
 ·rw[z];decide
 ·exact(Nat.log2_lt z).mpr (Cu h (by decide+kernel))
theorem iY {i:Int}(h:i.natAbs<1000000000):(Fn (O0 i)).length<=BX:=by
 have:=int_text_length_le10 (k:=9) (by decide) h;rw[PySem.ofString_length];exact Aa this (by decide)
theorem Wh (B:A.handled=Ah)(C:∀a∈X,∃o,s.heap.get? a=Ab o)(r:RpL W X s.heap b args)(e:Q0 f args=Ab d):
 Dp W A (call f.val b) s (λ v m=>Rp W X m v d):=.of λ Q E Z=>by
 have p:∀v g,Rp W X s.heap v d->Q v {s with toks:=g}:=λ v g r=>Z v _ g (.refl _) r;have O:∀{f:PV->Option PV}{c:Ae},Tp args f=Ab d->(∀v x,Rp W X s.heap v x->f x=Ab d->Av W.M A (call c [v]) Q E s)->Av W.M A (call c b) Q E s:=λ{f c} e k=>N8 (P:=λ l=>Av W.M A (call c l) Q E s) r e k;have L:∀{f:List PV->Option PV}{c:Ae},Tp args (λ x=>lQ x f)=Ab d->(∀a H n V,s.heap.get? a=Ab (I0 H n)->H.size<=BX->RpL W X s.heap H.toList V->f V=Ab d->Av W.M A (call c [.ref a]) Q E s)->Av W.M A (call c b) Q E s:=
  λ{f c} e k=>O e λ v x r e=>Nw (P:=λ v=>Av W.M A (call c [v]) Q E s) r e k
 have I:∀{f:Int->Int->Option PV}{c:Ae},uA args (QS f)=Ab d->(∀x t y u,f x y=Ab d->Av W.M A (call c [.int x t,.int y u]) Q E s)->Av W.M A (call c b) Q E s:=
  λ{f c} e k=>Q8 (P:=λ l=>Av W.M A (call c l) Q E s) r e λ v x w y h D e=>JN (P:=λ v w=>Av W.M A (call c [v,w]) Q E s) h D e k
 cases f with
 |len=>
  refine O e λ v x r e=>?_;cases x with
  |list V=>
   obtain⟨a,H,n,rfl,N,_,z1,h⟩:=r.aj;refine len_list ⟨_,N,rfl,n,rfl⟩ (VP z1) (p _ _ (.yes e ?_));exact(h.length.symm▸rfl:V.length=H.size)▸.int _ _
  |str x=>obtain⟨t,rfl,_,z⟩:=r.aj;exact PyProof.Rows.len_str (Mx.mpr (VP z)) (p _ _ (.yes e (.int _ _)))
  |_=>exact no e
 |sum=>
  refine L e λ a H n V N z1 h e=>?_;obtain⟨G,j,rfl⟩:=Bl.mp e;exact XX B N (h.gn j) λ t m g k=>Z _ _ _ k (.int _ _)
 |max=>
  rcases L7.mp e with e |⟨_,e⟩
  ·refine L e λ a H n V N z1 h e=>?_;obtain⟨G,j,e⟩:=AL.mp e;obtain⟨M,J,rfl⟩:=Bl.mp e;exact VE B N (h.gn j) J λ t m g k=>Z _ _ _ k (.int _ _)
  ·exact I e λ x t y u e=>max_two_ints B λ m g k=>Z _ _ _ (.af k) (.yes e (by split<;>exact .int _ _))
 |min=>exact I e λ x t y u e=>min_two_ints B λ m g k=>Z _ _ _ (.af k) (.yes e (by split<;>exact .int _ _))
 |sorted=>exact L e λ a H n V N z1 h e=>Z8 C N z1 h e Z
 |str=>
  refine O e λ v x r e=>?_;cases x with
  |int i=>
   obtain⟨t,rfl⟩:=r.aj;have q:=Fk e;exact P.str_of_int (mB q.1) (p _ _ (.at q.2 (.str _ _ (QK i) (iY q.1))))
  |str x=>obtain⟨t,rfl,o,z⟩:=r.aj;exact P.str_of_str (p _ _ (.yes e (.str _ _ o z)))
  |_=>exact no e
 |int=>
  refine O e λ v x r e=>JE (P:=λ v=>Av W.M A (call (.type "int") [v]) Q E s) r e λ x t o z e=>?_;have q:=IA e;obtain⟨n,R,rfl⟩:=Bl.mp q.2;exact KIN.call_text R (of_decide_eq_true q.1) (p _ _ (.int _ _))
 |list=>
  exact L e λ a H n V N z1 h e=>call_list_seq a (.inl rfl) N rfl rfl (λ m T k S=>Z _ _ _ (.af k) (.yes e (.list S (II C) z1 (h.ae (.af k))))) (Aa z1 FR)
set_option genCtorIdx true in
inductive MF where
 |find |count |join |split |dh
 deriving DecidableEq
noncomputable def MF.name:MF->Str
 | .find=>"find" | .count=>"count" | .join=>"join" | .split=>"split" | .dh=>"index"
noncomputable def MF.id:MF->String
 | .find=>"str.find" | .count=>"str.count" | .join=>"str.join" | .split=>"str.split" | .dh=>"list.index"
noncomputable def MF.ty:MF->String
 | .dh=>"list" |_=>"str"
noncomputable def MF.all:List MF:=[.find,.count,.join,.split,.dh]
noncomputable def u1 (x:Str):Option MF:=MF.all.find? λ m=>m.name==x
noncomputable def BF.all:List BF:=[.len,.sum,.max,.min,.sorted,.str,.int,.list]
noncomputable def wH (x:Str):Option BF:=BF.all.find? λ m=>m.name==x
theorem Yi (h:u1 x=Ab m):x=m.name:=by
 have:=List.find?_some h;exact(BO this).symm
theorem Zn (h:wH x=Ab m):x=m.name:=by
 have:=List.find?_some h;exact(BO this).symm
theorem MF.plain (m:MF):PlainAttrs m.ty:=by cases m<;>first |exact F.plainAttrs_str |exact F.plainAttrs_list
theorem MF.slot (m:MF):PySem.Slot m.ty m.name m.id:=by
 cases m
 ·exact F.slot_str_find
 ·exact F.slot_str_count
 ·exact F.slot_str_join
 ·exact Mz
 ·exact F.slot_list_index
theorem MF.lr (m:MF):Md (.builtin m.id)=pure (.type "method_descriptor"):=by
 cases m
 ·exact F.type_str_find
 ·exact F.type_str_count
 ·exact F.type_str_join
 ·exact F.type_str_split
 ·exact F.type_list_index
noncomputable def PB (x:Str):Bool:=A9 x&&decide (x.length<=BX)
noncomputable def dO (x:Str)(k:List PV):Option PV:=(G7 k).bind λ h=>if JoinOk x h&&PB (Txt.join x h) then Ab (.str (Txt.join x h)) else Ah
noncomputable def Z6 (x y:Str):Option PV:=if !(y.length==0)&&(IJ x y).all PB&&decide ((IJ x y).length<=BX) then Ab (.list ((IJ x y).map .str)) else Ah
noncomputable def dW (k:List PV)(y:Str):Option PV:=(G7 k).bind λ h=>if h.contains y then Ab (.int (h.idxOf y)) else Ah
noncomputable def Mf (m:MF)(b:PV)(args:List PV):Option PV:=match m with
 | .find=>Vl b λ x=>(Tp args λ y=>Vl y λ y=>Ab (.int (Txt.find x y))).or (uA args λ y i=>Vl y λ y=>ZE i λ i=>Ab (.int (Txt.find3 x y i)))
 | .count=>Vl b λ x=>Tp args λ y=>Vl y λ y=>Ab (.int (Txt.count x y))
 | .join=>Vl b λ x=>Tp args λ y=>lQ y (dO x)
 | .split=>Vl b λ x=>Tp args λ y=>Vl y (Z6 x)
 | .dh=>lQ b λ h=>Tp args λ y=>Vl y (dW h)
noncomputable def pE (h:Str)(v:Ae):Bool:=v.isStr h
theorem WE {b:List Ae}(k:Str){a:List Str}(r:QC b a):∀(j:Nat)(h:j<b.length)(o:j<a.length),pE k b[j]=(a[j]==k):=
 r.rec (λ _ h=>(by contradiction)) λ n t{_ _} _ i j=>j.casesOn (λ _ _=>rfl) λ j h o=>i j (DO h) (DO o)
theorem SG {a:List Str}(h:j<a.idxOf b)(k:j<a.length):(a[j]==b)=Au:=List.not_of_lt_findIdx h
theorem Z2 (r:QC b a):∀v∈b,∃x t,v=.str x t:=
 r.rec (λ _ h=>(by contradiction)) λ n t{_ _} _ i v h=>(Al.mp h).elim (λ e=>⟨_,_,e⟩) (i v)
theorem Sg:∀(l:List Str)(h:Nat),QC (strsFrom h l) l:=by
 intro l;induction l with
 |nil=>
  intro _;exact .nil
 |cons x r k=>
  intro h;exact .cons x h (k (h+1))
theorem Vv {x:Str}(h:PB x=Ag):A9 x=Ag/\x.length<=BX:=⟨(DD h).1,of_decide_eq_true (DD h).2⟩
theorem X2 {x:Str}(f:∀a∈X,∃o,s.heap.get? a=Ab o)(g:x.length<=BX)(e:Z6 x y=Ab d)(i:∀v V H,BA W s.heap V->Rp W X V v d->Q v {s with heap:=V,toks:=H}):
 Av W.M A (call (.builtin "str.split") [.str x t,.str y u]) Q E s:=by
 have q:=Kb e;have b:=(CZ _).mp (DD (DD q.1).1).1;have h:=of_decide_eq_true (DD q.1).2;have Z:∀p∈IJ x y,A9 p=Ag/\p.length<=BX:=λ p j=>Vv (AQ.mp (DD (DD q.1).1).2 p j);have k:∀N H,QC N (IJ x y)->Q (.ref s.heap.objs.size) {s with heap:=s.heap.push (I0 N.toArray 0),toks:=H}:=λ N H c=>
  i _ _ _ (.push _ _) (.at q.2 (.list (AD _ rfl) (II f) (show N.length<=BX from c.length▸h) (RpL.dv c Z)))
 have w:=Aa h FR;unfold Txt.split at k h w;cases z:(decide (x.length<y.length)||decide (Builtin.Str.strKind x<Builtin.Str.strKind y))
 ·rw[z] at k h w;cases O:(Builtin.Str.occurrences x y 0 x.length (x.length+1)).isEmpty
  ·rw[O] at k h w;exact Ie Mz (KT _ _ _) F.entry_str_split (F.args_str_split_2 _ _) (meets_str_split_sep x y t u z b O (Aa g FR) w) (k _ _ (Sg _ _))
  ·rw[O] at k;exact Ie Mz (KT _ _ _) F.entry_str_split (F.args_str_split_2 _ _) (meets_str_split_not_found x y t u z b O) (k [.str x t] _ (.cons _ _ .nil))
 ·rw[z] at k;exact Ie Mz (KT _ _ _) F.entry_str_split (F.args_str_split_2 _ _) (meets_str_split_cannot_occur x y t u z) (k [.str x t] _ (.cons _ _ .nil))
theorem YH {b:Array Ae}(N:s.heap.get? a=Ab (I0 b n))(z1:b.size<=BX)(V:RpL W X s.heap b.toList c)(e:dW c y=Ab d)(Z:∀v f,Rp W X s.heap v d->Q v {s with toks:=f}):
 Av W.M A (call (.builtin "list.index") [.ref a,.str y u]) Q E s:=by
 obtain⟨O,z,e⟩:=AL.mp e;have q:=Kb e;have w:=V.gb z;have h:=w.length;have k:=List.idxOf_lt_length_iff.mpr (E5.mp q.1);refine Ie F.slot_list_index ⟨_,N,rfl⟩ F.entry_list_index (F.args_list_index_2 _ _)
  (SeqAt.list_indexAt a b n Ah #[] (.str y u) (pE y) (O.idxOf y) (Nat.lt_of_lt_of_eq k h.symm) (Hr (BM.mpr (Ao k (Aa (Az h.symm) z1))) (by decide+kernel:(BX:Int)<=2^63-1)) ?_ ?_) ⟨N,λ v g=>?_,Z _ _ (.at q.2 (.int _ _))⟩
 ·exact(WE y w (O.idxOf y) (Nat.lt_of_lt_of_eq k h.symm) k).trans (beq_iff_eq.mpr (Ed k))
 ·exact λ j H o=>(WE y w j H (Cu o k)).trans (SG o _)
 ·obtain⟨x,t,rfl⟩:=Z2 w v (IN.mpr g);exact SeqAt.EqAt.str_str x t y u
theorem TZ (D:∀a∈X,∃o,s.heap.get? a=Ab o)(rb:Rp W X s.heap j b)(r:RpL W X s.heap g args)(e:Mf m b args=Ab d):
 Dp W A (call (.builtin m.id) (j::g)) s (λ v G=>Rp W X G v d):=.of λ Q E N=>by
 have H:∀v V,Rp W X s.heap v d->Q v {s with toks:=V}:=λ v V r=>N v _ V (.refl _) r;have O:∀{f:PV->Option PV}{c v:Ae},Tp args f=Ab d->(∀w x,Rp W X s.heap w x->f x=Ab d->Av W.M A (call c [v,w]) Q E s)->Av W.M A (call c (v::g)) Q E s:=λ{f c v} e k=>N8 (P:=λ l=>Av W.M A (call c (v::l)) Q E s) r e k;have T:∀{f:Str->Option PV}{c v:Ae},Tp args (λ y=>Vl y f)=Ab d->(∀y u,f y=Ab d->Av W.M A (call c [v,.str y u]) Q E s)->Av W.M A (call c (v::g)) Q E s:=
  λ{f c v} e k=>O e λ w x r e=>JE (P:=λ w=>Av W.M A (call c [v,w]) Q E s) r e λ y u _ _=>k y u
 have S:∀{f:Str->Option PV}{c:Ae},Vl b f=Ab d->(∀x t,x.length<=BX->f x=Ab d->Av W.M A (call c (.str x t::g)) Q E s)->Av W.M A (call c (j::g)) Q E s:=
  λ{f c} e k=>JE (P:=λ v=>Av W.M A (call c (v::g)) Q E s) rb e λ x t _=>k x t
 cases m with
 |find=>
  refine S e λ x t z e=>?_;rcases L7.mp e with e |⟨_,e⟩
  ·exact T e λ y u e=>SC.find (H _ _ (.yes e (.int _ _)))
  ·refine Q8 (P:=λ l=>Av W.M A (call (.builtin "str.find") (.str x t::l)) Q E s) r e λ v y w i h I e=>?_;refine JE (P:=λ v=>Av W.M A (call (.builtin "str.find") [.str x t,v,w]) Q E s) h e λ y u _ _ e=>?_;exact Hd (P:=λ w=>Av W.M A (call (.builtin "str.find") [.str x t,.str y u,w]) Q E s) I e λ i v e=>SC.find3 (H _ _ (.yes e (.int _ _)))
 |count=>exact S e λ x t z e=>T e λ y u e=>SC.count (H _ _ (.yes e (.int _ _)))
 |join=>
  refine S e λ x t z e=>O e λ w y r e=>Nw (P:=λ w=>Av W.M A (call (.builtin "str.join") [.str x t,w]) Q E s) r e λ a J n L Z z1 h e=>?_;obtain⟨M,p,e⟩:=AL.mp e;have q:=Kb e;obtain⟨l,B,C⟩:=Pv (h.gb p);exact SC.join (⟨_,Z,rfl,n,by rw[<-B]⟩) C (DD q.1).1 λ R k=>N _ _ _ (.refl _) (.at q.2 (.str _ _ (Vv (DD q.1).2).1 (Vv (DD q.1).2).2))
 |split=>exact S e λ x t z e=>T e λ y u e=>X2 D z e N
 |dh=>exact Nw (P:=λ v=>Av W.M A (call (.builtin "list.index") (v::g)) Q E s) rb e λ a J n L Z z1 h e=>T e λ y u e=>YH Z z1 h e H
structure GE where
 fn:Str->Option (List PV->Option PV)
 gv:Str->Option PV
 rw:Ai->Option (List PV)
variable {C:GE}
variable {i:Nat} in
noncomputable def sU:Const->Option PV
 | .none=>Ab .none
 | .bool b=>Ab (.bool b)
 | .int i=>Ab (.int i)
 | .str x=>if PB x then Ab (.str x) else Ah
 |_=>Ah
noncomputable def CW (h:Bf)(x:Str):Bool:=D1 x&&(h.names.lookup x==Ab .globalImplicit)
noncomputable def Rf:Ds->Option PV
 | .aa d=>Ab d
 | .cg _ d=>Ab d
 |_=>Ah
noncomputable def Rt (h:GE)(k:Bf)(o:A5)(x:Str):Option PV:=(o.lookup x).elim (if CW k x then h.gv x else Ah) Rf
variable {i:Nat} in
noncomputable def M':PV->Option PV
 | .int i=>Ab (.int (-i))
 |_=>Ah
noncomputable def Ck (e:Expr):Bool:=e.ctorIdx !=22
noncomputable def K7 (e:Expr):Bool:=e.ctorIdx !=7
noncomputable def Vw (e:Expr):Bool:=e.ctorIdx==23||e.ctorIdx==19||e.ctorIdx==21
variable {i:Nat} in
noncomputable def mD:PV->Option Int
 | .int i=>Ab i
 |_=>Ah
theorem Nx (h:mD d=Ab i):d=.int i:=by
 cases d with
 |int j=>cases h;rfl
 |_=>cases h
noncomputable def Sq (a n:Int):List PV:=(Ap n.toNat).map (λ(i:Nat)=>.int (a+(i:Int)*1))
noncomputable def qI (a b:Int):List PV->Option (List PV)
 |[]=>if a<=b/\b-a<=100000/\-1000000<=a/\b<=1000000 then Ab (Sq a (b-a)) else Ah
 |_::_=>Ah
variable {c:List (Str×PV)} in
noncomputable def qJ (a:Int):List PV->Option (List PV)
 |[]=>if 0<=a/\a<=100000 then Ab (Sq 0 a) else Ah
 |e::c=>(mD e).bind λ b=>qI a b c
variable {b:List PV} in
noncomputable def bB:List PV->Option (List PV)
 |[]=>Ah
 |d::b=>(mD d).bind λ a=>qJ a b
noncomputable def Gn (k:BV)(w:Nat)(a:Ai)(g:List PV->Option PV):Prop:=
 ∀(A:Dj)(s:Aq)(X:List Ai)(args:List PV)(h:List Ae)(d:PV),CX w A->Gd k s->(∀b∈X,k.h0.get? b=Ah/\∃o,s.heap.get? b=Ab o)->
  RpL k X s.heap h args->g args=Ab d->Dp k A (call (.ref a) h) s (λ v z=>Rp k X z v d)
variable {a:Ai}{m:Str->Option Ae} in
inductive tL (W:BV)(k:Nat)(mg:Str->Option Ae)(x:Str)(g:List PV->Option PV):Prop
 |mk (a:Ai) (o:Obj) (fd:Fz) (m:mg x=Ab (.ref a)) (e:W.h0.get? a=Ab o) (d:o.data=.func fd) (c1:o.cls≠.type "frame") (c2:o.cls≠.none) (ok:Gn W k a g)
variable {g:Array CB} in
structure EY (W:BV)(C:GE)(k:Nat)(mg mb:Str->Option Ae):Prop where
 g:W.h0.Ns Cd mg
 b:W.h0.Ns Jg mb
 blt:∀f:BF,mg f.name=Ah/\mb f.name=Ab f.val
 l9:mg "range"=Ah/\mb "range"=Ab (.type "range")
 l8:∃o,W.h0.get? NT=Ab o
 aa:∀x d,C.gv x=Ab d->∃v,mg x=Ab v/\∀X,(∀a∈X,W.h0.get? a=Ah)->Rp W X W.h0 v d
 fn:∀x g,C.fn x=Ab g->tL W k mg x g
 row:∀r xs,C.rw r=Ab xs->∃vs n,W.h0.get? r=Ab (I0 vs n)/\vs.size<=BX/\vs.size=xs.length
theorem Bj (s:Pos)(k:Env):∀(o:List Expr),o.all Ck=Ag->backTo s (M4 o k)=o.map λ e=>(Au,eval e k):=by
 intro o;induction o with
 |nil=>
  intro _;exact rfl
 |cons e o w=>
  intro h;simp only[Du,AG] at h;have:backTo s (M4 (e::o) k)=(Au,eval e k)::backTo s (M4 o k):=by
   cases e<;>first |rfl |exact absurd h.1 CQ
  rw[this,(w h.2)];rfl
theorem Dm {M:Dq}{es:List Expr}(h:es.all Ck=Ag)(k:Av M A (callWith a f first (es.map λ e=>(Au,eval e z)) b) Q E s):Av M A (callWith a f first (backTo a (M4 es z)) b) Q E s:=by
 rw[Bj a z es h];exact k
theorem FI.an (F:FI W V z Z X h O):∀a∈X,∃o,h.get? a=Ab o:=λ a k=>(F.alive a k).2
theorem NE {M:Dq}{a:Args->Aq->Prop}(h:List Expr)(k:Av M A (spliced (h.map λ e=>(Au,eval e z))) (λ o w=>a ⟨o,[]⟩ w) E s):
 Av M A (evalArgs f Ag (h.map λ e=>(Au,eval e z)) []) a E s:=by
 cases h with
 |nil=>
  refine Ac (DH k (λ o w C=>?_) λ _ _ x=>x);refine Ac (Ar ?_);refine Br ?_;exact Ac (Ar (Ac (Ar (Ar C))))
 |cons e h=>exact Be k
theorem On (h:List Expr):((h.map λ e=>((Au,eval e z):Bool×Sem Ae)).any (·.1))=Au:=by
 induction h with
 |nil=>rfl
 |cons _ _ k=>rw[Bu,List.any_cons,k];rfl
theorem CF (w:EY W C k mg mb)(F:FI W V z Z X s.heap O)(G:Gd W s)(h:CW V x=Ag)(o:mg x=Ab v\/(mg x=Ah/\mb x=Ab v))(H:Q v s):
 Av W.M A (eval (.Name x a) z) Q E s:=by
 unfold CW at h;rw[AG,beq_iff_eq] at h;refine Calls.Name_function_global F.kind (F.dp x h.2) ?_ (HU h.1).1;have N:=Dl G.ao w.g;rcases o with o |⟨b,c⟩
 ·exact Calls.loadGlobal_global (by rw[F.bx];exact N) o H
 ·exact Calls.loadGlobal_builtin (by rw[F.bx];exact N) b (by rw[F.blt];exact(Dl G.ao w.b)) c H
theorem VA (w:EY W C k mg mb)(F:FI W V z Z X s.heap O)(G:Gd W s)(e:Rt C V O x=Ab d):Dp W A (eval (.Name x b) z) s (λ v N=>Rp W X N v d):=by
 cases o:O.lookup x with
 |none=>
  obtain⟨c,e⟩:=IA ((congrArg (Option.elim · _ Rf) o).symm.trans e)
  obtain⟨v,f,g⟩:=w.aa x d e;exact λ Q E h=>CF w F G c (.inl f) (h v s.heap s.toks (.refl _) (An _) ((g X λ a i=>(F.alive a i).1).ae G.ao))
 |some H=>
  have e:Rf H=Ab d:=(congrArg (Option.elim · _ Rf) o).symm.trans e
  cases H with
  |aa=>cases e;exact λ Q E h=>F.name o λ v r=>h v s.heap s.toks (.refl _) (An _) r
  |cg=>cases e;exact λ Q E h=>F.name o λ v r=>h v s.heap s.toks (.refl _) (An _) r.2
  |_=>contradiction
theorem Iz (h:K7 r=Ag):behindInMarks a r=Au:=by
 cases r<;>first |rfl |exact absurd h CQ
theorem LK (k:K7 e=Ag)(h:Env):∀v,foldedSetIterable e h v=pure v:=by
 intro v;cases e<;>first |rfl |exact absurd k CQ
theorem RX (k:Vw a=Ag)(name:Str)(h:Env):attributeBase a name h (eval a h)=eval a h:=by
 cases a<;>first |rfl |exact absurd k CQ
theorem hH (b:BF):(∃id,b.val=.builtin id)\/(∃T,b.val=.type T):=by
 cases b<;>first |exact .inl ⟨_,rfl⟩ |exact .inr ⟨_,rfl⟩
theorem NC (k:List Expr)(h:Pos)(o:k.all Ck=Ag)(s:k.length<20):
 ((backTo h (M4 k z)).all (λ x=>!x.1)&&(backToKw h (keywordEach [] z)).all (λ x=>x.1.isSome)&&decide (k.length+([]:List Keyword).length+(if([]:List Keyword).isEmpty then 0 else 1)<30))=Ag:=by
 rw[Bj h z k o];have:((k.map λ e=>((Au,eval e z):Bool×Sem Ae)).all (λ x=>!x.1))=Ag:=by
  rw[List.all_map,AQ];intro _ _;rfl
 rw[this];rw[show backToKw h (keywordEach [] z)=[] from rfl];simp;exact Ao s (by decide)
theorem Sn (r:Rp W X h v d)(w:(∃x,d=.str x/\T="str")\/(∃k,d=.list k/\T="list")):
 (∀(s:Aq),s.heap=h->s.TypeIs v T)/\(∀a,v=.ref a->∃ob,h.get? a=Ab ob/\ob.dict=Ah):=by
 rcases w with⟨x,rfl,rfl⟩ |⟨k,rfl,rfl⟩
 ·obtain⟨_,rfl,_⟩:=r.aj;exact⟨λ s _=>KT s _ _,λ a e=>nomatch e⟩
 ·obtain⟨a,z,n,rfl,o,A,z1,C⟩:=r.aj;exact⟨λ s e=>⟨_,by rw[e];exact o,rfl⟩,λ b e=>by cases e;exact⟨_,o,rfl⟩⟩
theorem jP {f:Str->Option PV}(e:Vl b f=Ab d):∃x,b=.str x:=by
 cases b with
 |str x=>exact⟨x,rfl⟩
 |_=>exact no e
theorem lP {f:List PV->Option PV}(e:lQ b f=Ab d):∃x,b=.list x:=by
 cases b with
 |list x=>exact⟨x,rfl⟩
 |_=>exact no e
theorem Yj (e:Mf m b a=Ab d):(∃x,b=.str x/\m.ty="str")\/(∃h,b=.list h/\m.ty="list"):=by
 cases m with
 |dh=>exact .inr ((lP e).imp λ _ q=>⟨q,rfl⟩)
 |_=>exact .inl ((jP e).imp λ _ q=>⟨q,rfl⟩)
theorem U5 (r:Rp W X s.heap v d)(e:Pm d=Ab b):Dp W A (truthy v) s (λ h _=>h=b):=
 .of λ _ _ k=>R7 r e λ o=>k _ _ o (.refl _) rfl
variable {t:Expr}{y:Str}{a:Ds} in
noncomputable def Bs:A5->Str->Ds->A5
 |[],x,a=>[(x,a)]
 |(y,t)::O,x,a=>if y=x then(x,a)::O else(y,t)::Bs O x a
theorem B9 (x:Str)(o:Ds):∀(h:A5)(y:Str),(Bs h x o).lookup y=if y=x then Ab o else h.lookup y:=by
 intro h;induction h with
 |nil=>
  intro y;by_cases q:y=x
  ·subst q;rw[if_pos rfl,AC]
  ·rw[if_neg q,AI q]
 |cons k h s=>
  intro y;show C9 y (if k.1=x then(x,o)::h else(k.1,k.2)::Bs h x o)=_;by_cases q:k.1=x
  ·subst q;rw[if_pos rfl];by_cases r:y=k.1
   ·subst r;rw[if_pos rfl,AC]
   ·rw[if_neg r,AI r,AI r]
  ·rw[if_neg q];by_cases r:y=k.1
   ·subst r;rw[AC,AC,if_neg q]
   ·rw[AI r,AI r];exact s y
variable {a:List PV}{b:List (Str×PV)} in
noncomputable def Td (h:Bf):List Expr->List PV->A5->Option A5
 |[],a,O=>match a with
  |[]=>Ab O
  |_::_=>Ah
 |e::b,a,O=>match a with
  |[]=>Ah
  |d::a=>(qW e).bind λ x=>if A3 h x then Td h b a (Bs O x (.aa d)) else Ah
variable {a:List (Str×PV)} in
noncomputable def GB (h:Bf)(t:Expr)(d:PV)(k:A5):Option A5:=match oY t with
 | .name x _=>if A3 h x then Ab (Bs k x (.aa d)) else Ah
 | .ba a _ _=>(pT d).bind λ o=>Td h a o k
 | .no=>Ah
theorem Rh {a:A5}(h:∀y,O.lookup y=a.lookup y)(y:Str):(Bs O x b).lookup y=C9 y ((x,b)::a):=by
 rw[B9];by_cases q:y=x
 ·subst q;rw[if_pos rfl,AC]
 ·rw[if_neg q,AI q];exact h y
theorem Zl (e:GB V t d O=Ab a):(∃x p,t=.Name x p/\A3 V x=Ag/\Bs O x (.aa d)=a)\/∃h k p o,t=.Tuple h k p/\d=.ba o/\Td V h o O=Ab a:=by
 unfold GB at e;have k:=U9 t;generalize oY t=v at e k;cases v with
 |name x p=>exact .inl ⟨x,p,k,W8 e⟩
 |ba h n p=>obtain⟨o,s,e⟩:=AL.mp e;exact .inr ⟨h,n,p,o,k,Tv s,e⟩
 |no=>contradiction
theorem Zm:∀(w:List Expr)(o:List PV)(z s h:A5),(∀y,z.lookup y=s.lookup y)->Td V w o z=Ab h->∃k,FJ V w o s=Ab k/\∀y,h.lookup y=k.lookup y:=by
 intro w;induction w with
 |nil=>
  intro o z s h A e;cases o with
  |nil=>cases e;exact⟨s,rfl,A⟩
  |cons _ _=>contradiction
 |cons C w E=>
  intro o z s h A e;cases o with
  |nil=>contradiction
  |cons d o=>
   refine Jr λ Z H=>?_;obtain⟨x,N,e⟩:=AL.mp (e);obtain⟨O,e⟩:=IA e;obtain⟨k,Q,W⟩:=E o _ ((x,.aa d)::s) h (Rh A) e;refine H ?_;refine⟨k,?_,W⟩;show((qW C).bind λ x=>if A3 V x then FJ V w o ((x,.aa d)::s) else Ah)=Ab k;rw[N];exact(if_pos O).trans Q
theorem hG (e:GB V t d O=Ab a):∃h,Hf V t d O=Ab h/\∀y,a.lookup y=h.lookup y:=by
 rcases Zl e with⟨x,p,rfl,k,rfl⟩ |⟨o,_,_,s,rfl,rfl,e⟩
 ·exact⟨(x,.aa d)::O,if_pos k,Rh λ _=>rfl⟩
 ·exact Zm o s O O a (λ _=>rfl) e
inductive Fl where
 |next (O:A5)
 |brk (O:A5)
 |ret (d:PV)
structure XB (W:BV)(sc:Bf)(ah:Env)(hb:AS):Prop where
 ao:BA W W.h0 hb
 dl:W.di hb
 wr:∀a,Ea sc ah a->hb.get? a=Ah
variable {c:Ai}{es:List (Str×PV)}{g:Array CB} in
inductive wR (h:AS)(b:Ai):Prop
 |mk (o:Obj) (es:_) (ep:_) (g:h.get? b=Ab o) (c:o.cls=.type "frame") (d:o.data=.dict es ep)
noncomputable def DW (h:Env)(k:AS):Prop:=wR k h.locals
theorem DW.bg (f:DW z h)(E:BA W h H):DW z H:=by
 obtain⟨o,s,w,N,hc,A⟩:=f;rcases E.1 _ o N with k |⟨_,_,O,k⟩ |⟨_,Q,C,k,_⟩
 ·exact⟨o,s,w,k,hc,A⟩
 ·exact⟨_,s,w,k,hc,A⟩
 ·subst k;contradiction
theorem DW.bo (f:DW z h)(K:FW h H):DW z H:=by
 obtain⟨o,E,N,O,hc,Q⟩:=f;obtain⟨V,k,s,w,A,C⟩:=K _ o E N O Q;exact⟨V,k,s,w,A.trans hc,C⟩
theorem DW.at (f:DW z h)(k:∀o,h.get? z.locals=Ab o->H.get? z.locals=Ab o):DW z H:=by obtain⟨o,s,w,A,c,d⟩:=f;exact⟨o,s,w,k o A,c,d⟩
variable {tk:Nat}{fr:List Nat} in
structure XS (W:BV)(sc:Bf)(ah:Env)(hb:AS)(Z X:List Ai)(s:Aq)(ρ:A5):Prop where
 F:FI W sc ah Z X s.heap ρ
 le:BA W hb s.heap
 tk:1<=s.toks
 fr:∀a∈X,a∉Z->hb.get? a=Ah
 fc:DW ah s.heap
noncomputable def D7 (k:Bf)(h:Env)(s X:List Ai)(w z:AS):Prop:=∀b o,((b∉X/\EJ o)\/(b∈s/\¬Ea k h b/\o.cls≠.type "frame"/\o.cls≠.none))->w.get? b=Ab o->z.get? b=Ab o
theorem D7.refl:D7 V z Z X h h:=λ _ _ _ e=>e
theorem D7.trans (a:D7 V z Z X h H)(b:D7 V z Z X H d):D7 V z Z X h d:=λ c o hc e=>b c o hc (a c o hc e)
theorem BA.ap (k:BA W h H):D7 V z Z X h H:=λ _ _ hc e=>hc.elim (λ q=>D3 k e q.2) λ q=>k.keep e q.2.2.1 q.2.2.2
theorem Lr.ap (S:Lr W (Ea V z) h H)(k:∀a,Ea V z a->a∈X):D7 V z Z X h H:=λ b o hc e=>S.keep b o (λ q=>hc.elim (λ c=>c.1 (k b q)) λ c=>c.2.1 q) e
theorem D7.eo (k:BK a h H)(s:a∈X)(w:a∉Z):D7 V z Z X h H:=λ b o hc e=>(k.2 b (λ q=>hc.elim (λ c=>c.1 (q▸s)) λ c=>w (q▸c.1))).trans e
noncomputable def Ky (z:BV)(A:Bf)(s:Env)(C:AS)(w X:List Ai)(k:Aq)(H:Fl)(E:FB->Aq->Prop):Prop:=match H with
 | .next O=>∀h o,XS z A s C w X {k with heap:=h,toks:=o} O->D7 A s w X k.heap h->k.toks<=o->E .next {k with heap:=h,toks:=o}
 | .brk O=>∀h o,XS z A s C w X {k with heap:=h,toks:=o} O->D7 A s w X k.heap h->k.toks<=o->E .brk {k with heap:=h,toks:=o}
 | .ret d=>∀v h o,BA z C h->k.toks<=o->Rp z w h v d->E (.ret v) {k with heap:=h,toks:=o}
theorem XS.gd (S:XS W V z N Z X s O)(B:XB W V z N):Gd W s:=⟨B.ao.trans S.le,S.le.2 B.dl,S.tk⟩
theorem XS.ae {tk:Nat}(S:XS W V z N Z X s O)(h:BA W s.heap H)(l:s.toks<=tk):XS W V z N Z X {s with heap:=H,toks:=tk} O:=⟨S.F.ae h,S.le.trans h,Aa S.tk l,S.fr,S.fc.bg h⟩
theorem XS.aw (S:XS W V z N Z X s O)(k:∀x h,a.lookup x=Ab h->O.lookup x=Ab h):XS W V z N Z X s a:=⟨S.F.aw k,S.le,S.tk,S.fr,S.fc⟩
theorem GR (w:A.handled=Ah)(B:XB W V z N)(S:XS W V z N Z X s O)(e:GB V t d O=Ab b)(r:Rp W X s.heap v d){c:Unit->Aq->Prop}
 (C:∀h k,XS W V z N Z X {s with heap:=h,toks:=k} b->Lr W (Ea V z) s.heap h->s.toks<=k->c () {s with heap:=h,toks:=k}):Av W.M A (NX t z v) c E s:=by
 obtain⟨i,H,Q⟩:=hG e;refine Cy (An _) (NK S.F w H r λ h k f St l=>?_);have o:=l;exact C h k ⟨f.aw λ x j q=>by rw[<-Q];exact q,St.j9 N (λ a g=>B.wr a g) S.le,Aa S.tk o,S.fr,S.fc.bo St.cls⟩ St o
noncomputable def W5 (e:Expr):Bool:=e.ctorIdx==23||e.ctorIdx==25
theorem QB (h:W5 t=Ag):(Ji [t] z).map (·.2)=[NX t z]:=by
 cases t<;>first |exact absurd h CQ |rfl
theorem Cz {c:FB->Aq->Prop}(N:W5 t=Ag)(C:Dk [t] a b.line z=pure Au)(H:swappedStores [t] a z=pure Ah)
 (O:Av W.M A (eval a z) (λ v h=>Av W.M A (NX t z v) (λ _ k=>c .next k) E h) E s):Av W.M A (exec (.Assign [t] a b) z) c E s:=by
 rw[arm_exec_Assign];refine Ac (AZ (Ac (EG C ?_)));simp only[BR,if_false];refine Ac (DH O (λ v h o=>Ac (EG H ?_)) λ _ _ x=>x);rw[QB N];exact Ac (DH o (λ _ _ w=>Ar w) λ _ _ x=>x)
theorem Q6 {m:Str->Option Ae}(B:XB W V z N)(S:XS W V z N Z X s O)(hh:A.handled=Ah)(e:GB V t d O=Ab f){g:FB->Aq->Prop}
 (hQ:∀h k,(∀b o,H.get? b=Ab o->b≠c->¬Ea V z b->h.get? b=Ab o)->XS W V z N Z X {s with heap:=h,toks:=k} f->D7 V z Z X s.heap h->s.toks<=k->g .next {s with heap:=h,toks:=k})
 (R:s.heap.get? c=Ah) (Q:BA W s.heap H) (l:s.toks<=i) (hn:H.Ns c m) (r:Rp W (c::X) H (.ref D) d):
 Jz W.M A E (Ab λ v=>assignAll v [NX t z]) (λ _ u=>g .next u) (.ref D) c (.ok .next) {s with heap:=H,toks:=i}:=by
 have y:∃o,H.get? c=Ab o:=by obtain⟨o,_,_,j,_⟩:=hn;exact⟨o,j⟩
 have n:c∉X:=λ q=>by obtain⟨o,j⟩:=S.F.an c q;exact Dn R j
 have G:c∉AV z:=λ q=>n (S.F.zx _ (S.F.bb _ q));have U:N.get? c=Ah:=BA.bh S.le R;have I:XS W V z N (c::Z) (c::X) {s with heap:=H,toks:=i} O:=
  ⟨S.F.fresh (B.ao.trans S.le) Q R y,S.le.trans Q,Aa S.tk l,λ a Y hz=>S.fr a ((Al.mp Y).resolve_left λ q=>hz (q▸Ad)) λ q=>hz (Af _ q),S.fc.bg Q⟩
 refine GR hh B I e r λ J p w St L=>?_;have C:J.Ns c m:=by obtain⟨o,es,ep,j,x⟩:=hn;exact⟨o,es,ep,St.keep c o (λ q=>n (S.F.br q)) j,x⟩
 refine⟨m,C,λ h M=>?_⟩;refine hQ h p (λ b o e N hw=>(M.2 b N).trans (St.keep b o hw e)) ⟨w.F.bp (λ b o N e=>(M.2 b N).trans e) G n S.F.zx,w.le.az U (λ o vs j T=>?_) M,w.tk,S.fr,w.fc.at λ o j=>(M.2 _ (λ q=>G (q▸Ad))).trans j⟩ (λ b o T e=>?_) (Aa l L)
 ·obtain⟨o',es,ep,a0,a1,_⟩:=C;obtain rfl:=A4 j a0;cases Eq.trans (Eq.symm T) a1
 ·have a2:b≠c:=λ q=>by simp only[q,R] at e;contradiction
  refine Eq.trans (M.2 b a2) ?_;exact(St.ap (X:=X) (Z:=Z) λ a Y=>S.F.br Y) b o T (Q.ap b o T e)
theorem Tt {m:Str->Option Ae}(B:XB W V z N)(S:XS W V z N Z X s O)(Q:A.handled=Ah){d:PV}(e:GB V t d O=Ab b){c:FB->Aq->Prop}(g:Ky W V z N Z X s (.next b) c)
 {D a:Ai} (i:s.heap.get? a=Ah) (C:BA W s.heap H) (l:s.toks<=f) (j:H.Ns a m) (r:Rp W (a::X) H (.ref D) d):
 Jz W.M A E (Ab λ v=>assignAll v [NX t z]) (λ _ o=>c .next o) (.ref D) a (.ok .next) {s with heap:=H,toks:=f}:=
 Q6 B S Q e (λ w h _ S k l=>g w h S k l) i C l j r
noncomputable def Ft (k:Bf)(h:Env)(o:AS)(x:Str)(v:Ae):Prop:=
 (k.names.lookup x=Ab .local/\∃m,o.Ns h.locals m/\m x=Ab v)\/((k.names.lookup x=Ab .cell\/k.names.lookup x=Ab .free)/\∃c,h.cells.lookup x=Ab c/\o.IsCell c (Ab v))
theorem Ft.eh (a:Ft V z h x v)(b:Ft V z h x d):v=d:=by
 rcases a with⟨a,m,N,e⟩ |⟨a,c,hc,i⟩<;>rcases b with⟨b,j,w,O⟩ |⟨b,l,A,Q⟩
 ·obtain⟨o,n,p,C,E,_,W⟩:=N;obtain⟨Z,f,g,s,k,_,H⟩:=w;obtain rfl:=A4 C s;cases E.symm.trans k;have:Ab v=Ab d:=by rw[<-e,<-O,<-W,<-H]
  injection this
 ·rcases b with b |b<;>cases a.symm.trans b
 ·rcases a with a |a<;>cases b.symm.trans a
 ·obtain rfl:=A4 hc A;obtain⟨o,C,E⟩:=i;obtain⟨Z,s,k⟩:=Q;obtain rfl:=A4 C s;rw[E] at k;injection k with k;injection k
theorem Ft.ae (a:Ft V z h x v)(k:BA W h H):Ft V z H x v:=by
 rcases a with⟨a,m,o,e⟩ |⟨a,c,hc,i⟩
 ·exact .inl ⟨a,m,Dl k o,e⟩
 ·exact .inr ⟨a,c,hc,GU k i⟩
theorem FI.at (F:FI W V z Z X h O)(o:O.lookup x=Ab sl):∃v,Ft V z h x v/\BU W Z X h v sl:=by
 obtain⟨w,A⟩:=F.dt x sl o;rcases w with k |k
 ·obtain⟨m,C,s⟩:=F.ns;obtain⟨v,e,r⟩:=s x sl k o;exact⟨v,.inl ⟨k,m,C,e⟩,r⟩
 ·obtain⟨c,E,e,i,s⟩:=F.cell x k;obtain⟨v,rfl,r⟩:=s sl o;exact⟨v,.inr ⟨k,c,e,i⟩,r⟩
theorem FI.bv (F:FI W V z Z X s.heap O)(w:O.lookup x=Ab a)(C:Ft V z s.heap x v)(o:Q v s):Av W.M A (eval (.Name x b) z) Q E s:=by
 refine NS ?_ (HU (F.dt x a w).2).1;rcases C with⟨h,m,H,e⟩ |⟨h,c,e,i⟩
 ·exact Fu F.kind (F.ea x h) H e o
 ·rcases h with h |h
  ·exact J2 F.kind (F.da x h) e i o
  ·rcases F.df x h with k |k
   ·exact wpAny_loadName_free F.kind k e i o (HU (F.dt x a w).2).2
   ·exact J2 F.kind k e i o
theorem FI.cu (F:FI W V z Z X h O)(j:O.lookup x=Ab (.own d))(G:Ft V z h x (.ref a))(Q:BK a h H)(l:a∈X)(n:a∉Z)(t:BY W X H a f):
 FI W V z Z X H (Bs O x (.own f)):=by
 have C:∀y v w,Ft V z h y v->O.lookup y=Ab w->BU W Z X h v w->∀k,(Bs O x (.own f)).lookup y=Ab k->BU W Z X H v k:=by
  intro y v w p E r k o;rw[B9] at o;by_cases q:y=x
  ·subst y;rw[if_pos rfl] at o;injection o with o;subst o;exact⟨a,Ft.eh p G,l,n,t⟩
  ·rw[if_neg q,E] at o;injection o with o;subst o;cases w with
   |aa e=>exact Rp.az Q l r
   |av u=>exact r
   |cg u e=>exact⟨r.1,Rp.az Q l r.2⟩
   |own e=>exact absurd (F.ci y x e d E j) q
 have A:∀y k,(Bs O x (.own f)).lookup y=Ab k->∃w,O.lookup y=Ab w:=by
  intro y k o;rw[B9] at o;by_cases q:y=x
  ·subst y;exact⟨_,j⟩
  ·rw[if_neg q] at o;exact⟨_,o⟩
 exact{F with
  ns:=by
   obtain⟨m,B,N⟩:=F.ns;refine⟨m,B.sameBut Q (λ q=>n (q▸F.bb _ Ad)),λ y k E o=>?_⟩;obtain⟨w,s⟩:=A y k o;obtain⟨v,e,r⟩:=N y w E s;exact⟨v,e,C y v w (.inl ⟨E,m,B,e⟩) s r k o⟩
  cell:=λ y E=>by
   obtain⟨c,I,e,i,N⟩:=F.cell y E;refine⟨c,I,e,i.sameBut Q (λ q=>n (q▸F.bb _ (Di e))),λ k o=>?_⟩;obtain⟨w,s⟩:=A y k o;obtain⟨v,rfl,r⟩:=N w s;exact⟨v,rfl,C y v w (.inr ⟨E,c,e,i⟩) s r k o⟩
  dt:=λ y k o=>by
   obtain⟨w,s⟩:=A y k o;exact F.dt y w s
  alive:=λ b D=>⟨(F.alive b D).1,Gx Q t.alive (F.alive b D).2⟩
  ci:=λ y J L M R S=>by
   have g:∀y e,(Bs O x (.own f)).lookup y=Ab (.own e)->y=x:=λ y e o=>by
    by_cases q:y=x
    ·exact q
    ·rw[B9,if_neg q] at o;exact F.ci y x e d o j
   rw[g y L R,g J M S]}
theorem FI.iu (F:FI W V z b X h O)(k:∀a∈Z,a∈b)(s:∀a∈AV z,a∈Z):FI W V z Z X h O:=
 F.same s (λ a w=>F.zx a (k a w)) (λ _ h=>h) (λ _ _ _ _ h=>h) (λ _ _ _ _ r=>r.to (λ _ _ r=>r) λ a _ m A o=>⟨m,λ q=>A (k a q),o⟩) F.alive
theorem XS.cu (S:XS W V z N Z X s O)(C:O.lookup x=Ab (.own d))(E:Ft V z s.heap x (.ref a))(h:BK a s.heap H)(A:a∈X)(k:a∉Z)
 (w:∀o Q,s.heap.get? a=Ab o->o.data=.fields Q->o.cls≠.none/\o.cls≠.type "code") (e:BY W X H a b) (l:s.toks<=c):
 XS W V z N Z X {s with heap:=H,toks:=c} (Bs O x (.own b)):=
 ⟨S.F.cu C E h A k e,S.le.az (S.fr a A k) w h,Aa S.tk l,S.fr,S.fc.at λ o f=>(h.2 _ (λ q=>k (q▸S.F.bb _ Ad))).trans f⟩
theorem Rr (B:XB W V z N)(S:XS W V z N Z X s O)(t:A3 V x=Ag)(Q:∀y e,O.lookup y=Ab (.own e)->y=x)
 (j:s.heap.get? a=Ah) (m:BA W s.heap H) (l:s.toks<=c) (u:BY W (a::X) H a d) {f:Unit->Aq->Prop}
 (v:∀k h,XS W V z N Z (a::X) {s with heap:=k,toks:=h} (Bs O x (.own d))->s.toks<=h->f () {s with heap:=k,toks:=h}):
 Av W.M A (NX (.Name x g) z (.ref a)) f E {s with heap:=H,toks:=c}:=by
 have n:N.get? a=Ah:=BA.bh S.le j;have p:a∉X:=λ q=>by obtain⟨o,D⟩:=S.F.an a q;exact Dn j D
 have r:a∉Z:=λ q=>p (S.F.zx a q);refine IG (FI.cw (s:={s with heap:=H,toks:=c}) ((S.F.fresh (B.ao.trans S.le) m j u.alive).iu (λ b N=>Af _ N) S.F.bb) (sl:=.own d) (Fq t).2 (Fq t).1 ⟨a,rfl,Ad,r,u⟩ (λ e L y G I=>Q y G I) λ k h i St C=>?_);refine v k h ⟨i.aw λ y M q=>?_,St.j9 N (λ b w=>B.wr b w) (S.le.trans m),Aa S.tk (Aa l C),λ b w J=>?_,(S.fc.bg m).bo St.cls⟩ (Aa l C)
 ·rw[B9] at q;by_cases e:y=x
  ·subst y;rw[if_pos rfl] at q;rw[AC];exact q
  ·rw[if_neg e] at q;rw[AI e];exact q
 ·rcases Al.mp w with rfl |w
  ·exact n
  ·exact S.fr b w J
variable {i:Nat} in
noncomputable def uF:PV->Option Str
 | .str i=>Ab i
 |_=>Ah
theorem Z4 (h:uF d=Ab i):d=.str i:=by
 cases d with
 |str j=>cases h;rfl
 |_=>cases h
variable {a:List PV}{b:List (Str×PV)} in
noncomputable def qB (d h v:PV):Option PV:=match d with
 | .list a=>(mD h).bind λ h=>if 0<=h/\h<a.length then Ab (.list (a.set h.toNat v)) else Ah
 | .dict b=>(uF h).bind λ h=>if b.length<BX then Ab (.dict (E7 b h v)) else Ah
 |_=>Ah
noncomputable def WL (h:A5)(x:Str):Bool:=h.all λ q=>match q.2 with | .own _=>q.1==x |_=>Ag
theorem Ch (h:AS):h.get? h.objs.size=Ah:=by
 cases e:h.get? h.objs.size with
 |none=>rfl
 |some o=>exact absurd (AT e) (EW _)
theorem Qx (O:∃w,a=.list w)(V:Rp W X s.heap g a)(rb:Rp W X s.heap f b)(e:GC c a b=Ab d):
 Dp W A (Fi c g f) s (λ v Z=>v=.ref s.heap.objs.size/\BY W (s.heap.objs.size::X) Z s.heap.objs.size d):=.of λ Q E i=>by
 obtain⟨w,rfl⟩:=O;have k:∀{o:Array Ae}{z:List PV},PV.list z=d->o.size<=BX->RpL W X s.heap o.toList z->Q (.ref s.heap.objs.size) {s with heap:=s.heap.push (I0 o 0)}:=λ q h r=>
  i _ _ _ (.push _ _) ⟨rfl,q▸⟨_,_,AD _ rfl,h,(r.be (Ch s.heap)).ae (BA.push _ _)⟩⟩
 obtain⟨_,_,_,rfl,C,y,z1,H⟩:=V.aj;cases c with
 |Add=>
  cases b with
  |list B=>
   obtain⟨_,_,_,rfl,j,D,z2,l⟩:=rb.aj;have q:=WW H l e;exact UR C j q.1 (k q.2.1 q.2.2.1 q.2.2.2)
  |_=>exact no e
 |Mult=>
  refine Hd (P:=λ f=>Av W.M A (Fi .Mult _ f) Q E s) rb e λ n u e=>?_;obtain⟨v,x,rfl,N,m,p,t⟩:=WV H e;exact TY C N.1 N.2 (k m p t)
 |_=>exact no e
theorem Jp (r:BY W X h a d):∀o w,h.get? a=Ab o->o.data=.fields w->o.cls≠.none/\o.cls≠.type "code":=by
 intro o w z A;cases d with
 |list H=>obtain⟨N,n,e,_⟩:=r;obtain rfl:=A4 z e;contradiction
 |dict O=>obtain⟨C,e,_⟩:=r;obtain⟨Q,E,V,k,Z,s,_⟩:=e;obtain rfl:=A4 z k;cases s.symm.trans A
 |_=>exact r.elim
theorem RpL.set {e:List PV}{c:List Ae}(k:Rp W X h v d)(j:Nat)(r:RpL W X h c e):RpL W X h (c.set j v) (e.set j d):=
 r.bt (P:=λ c e=>∀j,RpL W X h (c.set j v) (e.set j d)) (λ _=>.nil) (λ _ _ _ _ a b i j=>j.casesOn (.cons k b) λ j=>.cons a (i j)) j
theorem YX (k:s.heap.get? D=Ab (I0 c n))(C:s.heap.get? b=Ab (I0 a m))(o:c.size+a.size<=BX)
 (H:∀w N,w.get? D=Ab (I0 (c++a) N)->BK D s.heap w->Q .none {s with heap:=w}):Av W.M A (call (.builtin "list.extend") [.ref D,.ref b]) Q E s:=by
 have h:=FR;have O:BX=1048576:=rfl;refine Ie F.slot_list_extend ⟨_,k,rfl⟩ F.entry_list_extend (F.args_list_extend_2 _ _) (AutoSeq1.list_extend_list_list_0 D c n b a m ?_ (Aa (Ih o) h) (BC (Aa o h))) ⟨k,C,?_⟩
 ·exact λ z=>absurd (of_decide_eq_true (AB.mp z).2) (B6.mpr (Aa o h))
 ·exact H _ _ (PySem.IsL.update k (λ x=>x++a)) (BN ..)
noncomputable def Ei (h:List Str)(k:A5):A5:=k.filter λ q=>h.contains q.1
theorem SP (w:List Str)(x:Str)(s:Ds):∀o:A5,(Ei w o).lookup x=Ab s->o.lookup x=Ab s:=by
 intro o;induction o with
 |nil=>
  intro h;cases h
 |cons z o k=>
  intro h;obtain⟨y,t⟩:=z;unfold Ei at h;rw[FH] at h;by_cases q:x=y
  ·subst q;split at h
   ·rw[AC] at h ⊢;exact h
   ·rename_i hk;have:=k h;exfalso;exact hk (Aw.mp (mem_of_lookup h)).2
  ·rw[AI q];split at h
   ·rw[AI q] at h;exact k h
   ·exact k h
theorem Ky.aq {c:FB->Aq->Prop}(w:Ky W V z N Z X s e c)(E:D7 V z Z X s.heap b)(l:s.toks<=a):Ky W V z N Z X {s with heap:=b,toks:=a} e c:=by
 cases e with
 |next H=>exact λ h k S A o=>w h k S (E.trans A) (Aa l o)
 |brk H=>exact λ h k S A o=>w h k S (E.trans A) (Aa l o)
 |ret d=>exact λ v h k C o r=>w v h k C (Aa l o) r
theorem Vu (h:WL O x=Ag):∀y e,O.lookup y=Ab (.own e)->y=x:=λ y e k=>by
 have:=AQ.mp h (y,.own e) (mem_of_lookup k);exact BO this
inductive wS (W:BV)(a:Ai)(fd:Fz):Prop
 |mk (o:Obj) (e:W.h0.get? a=Ab o) (d:o.data=.func fd) (c1:o.cls≠.type "frame") (c2:o.cls≠.none)
variable {c f:Ai}{vs:List Ae}{q:Pos}{t:Expr} in
inductive tK (W:BV)(fd:Fz):Prop
 |mk (c:Ai) (o:Obj) (vs:Array Ae) (t:Tok) (f:fd.code=.ref c) (e:W.h0.get? c=Ab o) (d:o.data=.fields vs) (q:vs[1]? =Ab (.str fd.qualname t)) (c1:o.cls≠.type "frame") (c2:o.cls≠.none)
structure Gm (W:BV)(a:Ai)(fd:Fz)(ps:List Str)(body:List Bq):Prop where
 obj:wS W a fd
 code:tK W fd
 body:fd.body=.stmts body
 bind:∀(vals:List Ae)(s:Aq),BA W W.h0 s.heap->vals.length=ps.length->BindsTo s fd ⟨vals,[]⟩ (ps.zip vals)
 mn:fd.closure=[]
 co:fd.scope.isCoroutine=Au
 bi:fd.scope.isGenerator=Au
 kind:fd.scope.kind=.function
 bx:fd.globals=Cd
 blt:fd.builtins=Jg
 jj:∀x∈ps,D1 x=Ag/\(fd.scope.names.lookup x=Ab .local\/fd.scope.names.lookup x=Ab .cell)
 nd:ps.Nodup
 names:(fd.scope.names.map (·.1)).Nodup
 free:∀x,fd.scope.names.lookup x≠Ab .free
 ng:W.h0.NoLimit
theorem IP {c:List Str}{a:Type}{d:a}{b:List a}(h:(c.zip b).lookup x=Ab d):x∈c:=(List.of_mem_zip (mem_of_lookup_some h)).1
theorem UO (k:Str->Option Gs):∀(o:List (Str×Ae))(m:Str->Option Ae),x∉o.map (·.1)->Om k o m x=m x:=by
 intro o;induction o with
 |nil=>
  intro m _;exact rfl
 |cons w r s=>
  intro m h;obtain⟨n,v⟩:=w;rw[show Om k ((n,v)::r) m=Om k r (if k n=Ab .local then λ y=>if y=n then Ab v else m y else m) from rfl,s _ λ q=>h (Af _ q)];split
  ·have:x≠n:=λ q=>h (by simp[q]);exact if_neg ‹_›
  ·rfl
theorem UP (k:Str->Option Gs):∀(o:List (Str×Ae))(m:Str->Option Ae),x∉o.map (·.1)->Q2 k o m x=m x:=by
 intro o;induction o with
 |nil=>
  intro m _;exact rfl
 |cons w r s=>
  intro m h;obtain⟨n,v⟩:=w;rw[show Q2 k ((n,v)::r) m=Q2 k r (if k n=Ab .local then m else λ y=>if y=n then Ab v else m y) from rfl,s _ λ q=>h (Af _ q)];split
  ·rfl
  ·have:x≠n:=λ q=>h (by simp[q]);exact if_neg ‹_›
theorem R4 {a c:Type}{x:a}{b:List a}{vs:List c}(h:x∈(b.zip vs).map (·.1)):x∈b:=by
 obtain⟨_,k,rfl⟩:=AF.mp h;exact(List.of_mem_zip k).1
class inductive MT (W:BV) (X:List Ai) (h:AS):List Ae->List Ds->Prop
 |nil:MT W X h [] []
 |aa {v0:Ae} {vs0:List Ae} {d:PV} {ds0:List Ds}:Rp W X h v0 d->MT W X h vs0 ds0->MT W X h (v0::vs0) (.aa d::ds0)
 |av {v0 vs0 ds0}:MT W X h vs0 ds0->MT W X h (v0::vs0) (.av v0::ds0)
theorem MT.gw (r:RpL W X h b c):MT W X h b (c.map Ds.aa):=r.bt (P:=λ b c=>MT W X h b (c.map Ds.aa)) .nil λ _ _ _ _ a _ i=>.aa a i
theorem MT.length {a:List Ae}{b:List Ds}(r:MT W X c a b):a.length=b.length:=by
 induction r with
 |nil=>rfl
 |aa _ _ i=>exact congrArg (·+1) i
 |av _ i=>exact congrArg (·+1) i
theorem MT.bi {a c:AS}(hk:∀b o,a.get? b=Ab o->b∉X->(o.cls=.type "list"\/o.cls=.type "tuple"\/o.cls=.type "dict")->c.get? b=Ab o/\b∉Y)(r:MT W X a d e):MT W Y c d e:=by
 induction r with
 |nil=>exact .nil
 |aa r _ i=>exact .aa (r.bi hk) i
 |av _ i=>exact .av i
theorem MT.fk {c:List Str}(r:MT W X h b a)(q:(c.zip a).lookup x=Ab (.own d)):False:=by
 replace q:=(List.of_mem_zip (mem_of_lookup_some q)).2
 induction r with
 |nil=>exact BG q
 |aa _ _ k=>exact(Al.mp q).elim Ds.noConfusion k
 |av _ k=>exact(Al.mp q).elim Ds.noConfusion k
theorem Tc (s:Str->Option Gs):∀{o:List Str}{k:List Ae}{w:List Ds}(m:Str->Option Ae),MT W X h k w->o.Nodup->(o.zip w).lookup x=Ab a->
 (s x=Ab .local->∃v,Om s (o.zip k) m x=Ab v/\BU W Z X h v a)/\(s x≠Ab .local->∃v,Q2 s (o.zip k) m x=Ab v/\BU W Z X h v a):=by
 intro o;induction o with
 |nil=>intro _ _ m _ _ e;contradiction
 |cons p o O=>
  intro k w m r N e;rw[Bz] at N
  suffices A:∀{v:Ae}{C:List Ae}{d0:Ds}{w:List Ds},BU W Z X h v d0->MT W X h C w->((p,d0)::o.zip w).lookup x=Ab a->
   (s x=Ab .local->∃H,Om s ((p,v)::o.zip C) m x=Ab H/\BU W Z X h H a)/\(s x≠Ab .local->∃H,Q2 s ((p,v)::o.zip C) m x=Ab H/\BU W Z X h H a) by
   cases r with
   |nil=>contradiction
   |@aa v C d w r E=>exact A (d0:=.aa d) r E e
   |@av v C w E=>exact A (d0:=.av v) rfl E e
  intro v C d0 w Q E e;by_cases q:x=p
  ·subst q;obtain rfl:=A4 AC e;have V:x∉(o.zip C).map (·.1):=λ z=>N.1 (R4 z)
   constructor
   ·intro hk;refine⟨v,?_,Q⟩;exact(UO s _ _ V).trans ((congrFun (if_pos hk) x).trans (if_pos rfl))
   ·intro hk;refine⟨v,?_,Q⟩;exact(UP s _ _ V).trans ((congrFun (if_neg hk) x).trans (if_pos rfl))
  ·rw[AI q] at e;exact⟨(O _ E N.2 e).1,(O _ E N.2 e).2⟩
theorem Lj (k:h.objs.size<=a):h.get? a=Ah:=by
 cases e:h.get? a with
 |none=>rfl
 |some o=>exact absurd (AT e) (B6.mpr k)
theorem TQ:∀{l:List (Str×Ai)},(l.Pairwise λ a b=>a.2≠b.2)->(y,c)∈l->(d,c)∈l->y=d:=by
 intro l;induction l with
 |nil=>
  intro _ h _;cases h
 |cons p l w=>
  intro s z A;rw[JT] at s;rcases Al.mp z with k |k<;>rcases Al.mp A with o |o
  ·have:=k.trans o.symm;injection this
  ·exact absurd (by rw[<-k]) (s.1 _ o)
  ·exact absurd (by rw[<-o]) (s.1 _ k)
  ·exact w s.2 k o
theorem Mp:∀(k:List (Str×Gs))(n:Nat)(o:List (Str×Ai)),(k.map (·.1)).Nodup->(∀p∈o,p.1∉k.map (·.1))->(∀p∈o,o.lookup p.1=Ab p.2)->∀p∈CD n k o,(CD n k o).lookup p.1=Ab p.2:=by
 intro k;induction k with
 |nil=>
  intro n o _ _ h p s;exact h p s
 |cons C r w=>
  intro n o A E h p s;rw[Bu,Bz] at A;have z:∀p∈o,p.1∉r.map (·.1):=λ p s q=>E p s (by simp only[Bu];exact Af _ q)
  unfold cellsFrom at s ⊢;split at s
  ·rename_i q;rw[if_pos q];refine w (n+1) ((C.1,n)::o) A.2 (λ p s=>?_) (λ p s=>?_) p s
   ·rcases Al.mp s with rfl |s
    ·exact A.1
    ·exact z p s
   ·rcases Al.mp s with rfl |s
    ·exact AC
    ·have:p.1≠C.1:=λ q=>E p s (by simp[q]);refine Eq.trans (AI this) ?_;exact h p s
  ·rename_i q;rw[if_neg q];exact w n o A.2 z h p s
theorem Ut (w:Gm W a fd i j)(G:Gd W s)(l:∀b∈X,W.h0.get? b=Ah/\∃o,s.heap.get? b=Ab o)
 (r:MT W X s.heap g args)
 (x:Mb s (B4 fd s.heap.objs.size a).locals (Om (B4 fd s.heap.objs.size a).kindOf (i.zip g) λ _=>Ah) (B4 fd s.heap.objs.size a).cells (Q2 (B4 fd s.heap.objs.size a).kindOf (i.zip g) λ _=>Ah) f):
 FI W fd.scope (B4 fd s.heap.objs.size a) (AV (B4 fd s.heap.objs.size a)++X) (AV (B4 fd s.heap.objs.size a)++X) f.heap (i.zip args):=by
 have N:∀y,(B4 fd s.heap.objs.size a).kindOf y=fd.scope.names.lookup y:=λ y=>rfl;have p:∀y,(B4 fd s.heap.objs.size a).cells.lookup y=(CD (s.heap.objs.size+1) fd.scope.names []).lookup y:=λ y=>rfl;have fresh:∀b∈AV (B4 fd s.heap.objs.size a),s.heap.get? b=Ah:=λ b k=>by
  rcases Al.mp k with q |q
  ·rw[q];exact Ch s.heap
  ·obtain⟨⟨n,c⟩,O,rfl⟩:=AF.mp q;exact Lj (AX (x.above n c O))
 have alive:∀b∈AV (B4 fd s.heap.objs.size a),∃o,f.heap.get? b=Ab o:=λ b k=>by
  rcases Al.mp k with q |q
  ·obtain⟨o,_,_,Q,_⟩:=x.toInCall.ns;exact⟨o,q▸Q⟩
  ·obtain⟨⟨n,c⟩,O,rfl⟩:=AF.mp q;have V:=Mp fd.scope.names (s.heap.objs.size+1) [] w.names (λ _ h=>by contradiction) (λ _ h=>by contradiction) (n,c) O;obtain⟨o,Q,_⟩:=x.cell n c V;exact⟨o,Q⟩
 have Z:=r.bi λ b o e n _=>⟨x.toInCall.keep b o e,λ q=>by
  rcases AK.mp q with q |q
  ·replace e:=Eq.trans (Eq.symm (fresh b q)) e;contradiction
  ·exact n q⟩
 exact{
  bb:=λ b k=>AK.mpr (.inl k)
  zx:=λ b k=>k
  kind:=w.kind
  bx:=w.bx
  blt:=w.blt
  ea:=λ y h=>h
  da:=λ y h=>h
  df:=λ y h=>.inl h
  dp:=λ y h=>h
  ns:=⟨_,x.toInCall.ns,λ y m V A=>(Tc _ _ Z w.nd A).1 V⟩
  cell:=λ y A=>by
   have hc:=A.resolve_right (w.free y);obtain⟨c,C,_⟩:=(Dr y fd.scope.names (s.heap.objs.size+1) [] w.names).2 hc;refine⟨c,_,C,x.cell y c C,λ m A=>?_⟩;exact(Tc _ _ Z w.nd A).2 (by rw[N,hc];decide)
  inj:=λ y z c E H=>TQ x.apart (mem_of_lookup E) (mem_of_lookup H)
  dt:=λ y m A=>by
   obtain⟨E,H⟩:=w.jj y (IP A);exact⟨H.elim .inl λ q=>.inr (.inl q),E⟩
  alive:=λ b k=>by
   rcases AK.mp k with q |q
   ·exact⟨(λ b k=>DC G.ao (fresh b k)) b q,alive b q⟩
   ·exact⟨(l b q).1,BJ (W:=W) (.af x.toInCall.keep) (l b q).2⟩
  ci:=λ y z d e E H=>absurd E (MT.fk Z)}
theorem CX.down (h:CX (n+1) A)(k:Env):CX n (A.deeper k):=⟨h.handled,TU h.depth (by decide),TU h.units (by decide)⟩
theorem pZ {M:Dq}{m:Str->Option Ae}{d:Str->Option Ae}{f:Unit->Aq->Prop}(x:Mb a z.locals m z.cells d s)(i:DW z s.heap)(hk:z.scope.kind=.function)
 (l:z.kindOf n=Ab .local\/(z.kindOf n=Ab .cell/\(z.cells.lookup n).isSome=Ag))
 (N:∀O,Mb a z.locals (if z.kindOf n=Ab .local then λ y=>if y=n then Ab v else m y else m) z.cells (if z.kindOf n=Ab .local then d else λ y=>if y=n then Ab v else d y) O->DW z O.heap->f () O):Av M A (M3 z n v) f E s:=by
 obtain⟨j,t,rfl⟩:=id x.toInCall.same;rcases l with H |⟨H,hc⟩
 ·simp only[H,if_true] at N;refine C4 H x.toInCall.ns (λ Q V h W=>N _ ⟨⟨⟨Q,_,rfl⟩,V,λ b o e=>?_,x.toInCall.fresh⟩,λ k c hc=>?_,x.apart,x.above⟩ (i.bo W)) (by rw[hk];rfl)
  ·exact h.extBut b o (Ct (Ao (AT e) x.toInCall.fresh)) (x.toInCall.keep b o e)
  ·exact(x.cell k c hc).sameBut h (Dy (x.above k c (mem_of_lookup hc)))
 ·have Z:¬z.kindOf n=Ab .local:=by rw[H];decide
  simp only[Z,if_false] at N;obtain⟨c,hc⟩:=G3.mp hc;have w:=x.above n c (mem_of_lookup hc);refine wpAny_storeName_cell hk H hc (x.cell n c hc) λ Q g h=>N _ ⟨⟨⟨Q,_,rfl⟩,x.toInCall.ns.sameBut h (Ct w),λ b o e=>?_,x.toInCall.fresh⟩,λ k p C=>?_,x.apart,x.above⟩ (i.at λ o r=>(h.2 _ (Ct w)).trans r)
  ·exact h.extBut b o (Ct (Cu (Ao (AT e) x.toInCall.fresh) w)) (x.toInCall.keep b o e)
  ·by_cases q:k=n
   ·cases q
    obtain rfl:=A4 hc C;simpa using g
   ·simp only[q,if_false];exact(x.cell k p C).sameBut h λ e=>q (TQ x.apart (mem_of_lookup C) (e▸mem_of_lookup hc))
theorem kB {M:Dq}(f:Str×Ae->PUnit->Sem (ForInStep PUnit))(W:∀n v u,f (n,v) u=(do M3 z n v;pure (.yield ⟨⟩)))(hk:z.scope.kind=.function):
 ∀(k:List (Str×Ae))(m w:Str->Option Ae)(s:Aq)(Q:PUnit->Aq->Prop),Mb s₀ z.locals m z.cells w s->DW z s.heap->
  (∀x∈k,z.kindOf x.1=Ab .local\/(z.kindOf x.1=Ab .cell/\(z.cells.lookup x.1).isSome=Ag))->
  (∀o,Mb s₀ z.locals (Om z.kindOf k m) z.cells (Q2 z.kindOf k w) o->DW z o.heap->Q ⟨⟩ o)->Av M A (forIn k ⟨⟩ f) Q E s:=by
 intro k;induction k with
 |nil=>
  intro m w s Q x C _ h;exact Ar (h s x C)
 |cons O r H=>
  intro m w s Q x C V h;rw[EF,W];refine Ac (Ac (pZ x C hk (V (O.1,O.2) Ad) λ o Z N=>Ar ?_));exact H _ _ o Q Z N (λ y a=>V y (Af _ a)) h
theorem kN {M:Dq}{code:Ae}{j:Env->Aq->Prop}(hk:a.kind=.function)
 (k:∀x∈f,a.names.lookup x.1=Ab .local\/(a.names.lookup x.1=Ab .cell/\((CD (s.heap.objs.size+1) a.names []).lookup x.1).isSome=Ag))
 (Q:∀h,h=newEnv a s.heap.objs.size globals (CD (s.heap.objs.size+1) a.names []) g i code Ah d->
  ∀w,Mb s h.locals (Om h.kindOf f λ _=>Ah) h.cells (Q2 h.kindOf f λ _=>Ah) w->DW h w.heap->j h w):
 Av M A (F3 a globals [] f g i code Ah d) j E s:=by
 simp only[F3,Option.isSome_none,BR,if_false];refine Ac (OY ?_);refine Ac (wpAny_layCells _ (λ name z H=>by cases N:z==Co<;>simp[N]) _ _ _ _ ?_);have C:=cellsFrom_ok a.names (s.heap.push {cls:=.type "frame",data:=.dict #[]}) (s.heap.objs.size+1) [] ⟨λ _ _ O=>(nomatch O),GZ⟩ (by rw[CU];exact An _);rw[CU] at C;rw[show({s with heap:=s.heap.push {cls:=.type "frame",data:=.dict #[]}}:Aq).heap.objs.size=s.heap.objs.size+1 from CU ..];refine Ac (kB (s₀:=s) (z:=newEnv a s.heap.objs.size globals (CD (s.heap.objs.size+1) a.names []) g i code Ah d) _ (λ _ _ _=>rfl) hk f (λ _=>Ah) (λ _=>Ah) _ _
  ⟨⟨⟨_,_,rfl⟩,(Heap.Ns.new s.heap (.type "frame")).keeps (Eb _ _),λ b o e=>Eb _ _ b o (AH _ e),An _⟩,
    λ n c hc=>(C.empty n c (mem_of_lookup hc)).1,C.apart,λ n c O=>(C.empty n c O).2⟩
  ⟨_,_,_,Eb _ _ _ _ (AD _ rfl),rfl,rfl⟩ k λ w x V=>Ar (Q _ rfl w x V))
theorem F8 (C:Gm W a fd i g)(Y:CX (k+1) A)(G:Gd W s)(U:∀b∈X,W.h0.get? b=Ah/\∃o,s.heap.get? b=Ab o)
 (r:MT W X s.heap d args) (hl:args.length=i.length)
 (a0:∀(h:Env)(z:AS)(w:Nat),h=B4 fd s.heap.objs.size a->XB W fd.scope h s.heap->(∀b∈X,b∉AV h)->s.toks<=w->
  XS W fd.scope h s.heap (AV h++X) (AV h++X) {s with heap:=z,toks:=w} (i.zip args)->
  Av W.M (A.deeper h) (execs g h) (λ f l=>Q (match f with | .ret v=>v |_=>.none) l) (λ e l=>Av W.M (A.deeper h) (leaving h e) (λ _ N=>E e N) (λ e' N=>E e' N) l) {s with heap:=z,toks:=w}):
 Av W.M A (call (.ref a) d) Q E s:=by
 obtain⟨o,I,O,J,L⟩:=C.obj;obtain⟨c,oc,vs,t,V,M,R,m,p,u⟩:=C.code;have B:s.heap.NoLimit:=by obtain⟨mc,h1,h2⟩:=C.ng;exact⟨mc,Dl G.ao h1,h2⟩
 have D:=r.length;refine Ia (OI (by exact Y.d (by decide)) (G.ao.keep I J L) O C.co C.bi C.body (⟨c,oc,vs,t,V,G.ao.keep M p u,R,m⟩) ?_);refine C.bind d s G.ao (D.trans hl) _ _ _ _ ?_;rw[C.mn];have Z:∀x∈i.zip d,fd.scope.names.lookup x.1=Ab .local\/(fd.scope.names.lookup x.1=Ab .cell/\((CD (s.heap.objs.size+1) fd.scope.names []).lookup x.1).isSome=Ag):=λ x hx=>by
  have S:=R4 (AF.mpr ⟨x,hx,rfl⟩);rcases(C.jj x.1 S).2 with q |q
  ·exact .inl q
  ·obtain⟨c,hc,_⟩:=(Dr x.1 fd.scope.names (s.heap.objs.size+1) [] C.names).2 q;exact .inr ⟨q,by rw[hc];rfl⟩
 refine(Cy (An _) (kN C.kind Z λ h he l x fc T=>?_));subst he;refine⟨B.keeps x.toInCall.keep,codeAny_func ?_⟩;obtain⟨z,w,e⟩:=x.toInCall.same;subst e;have H:=T;have fresh:∀b∈AV (B4 fd s.heap.objs.size a),s.heap.get? b=Ah:=λ b j=>by
  rcases Al.mp j with q |q
  ·rw[q];exact Ch s.heap
  ·obtain⟨⟨n,c⟩,S,rfl⟩:=AF.mp q;exact Lj (AX (x.above n c S))
 refine DH (a0 (B4 fd s.heap.objs.size a) z w rfl ⟨G.ao,G.dl,λ b j=>fresh b ?_⟩ (λ b j q=>?_) H ⟨(Ut C G U r x),.af x.toInCall.keep,Aa G.toks H,λ b j hz=>absurd j hz,fc⟩) (λ f l m=>?_) λ e l m=>m
 ·rcases j with rfl |⟨y,_,hy⟩
  ·exact Ad
  ·exact Di hy
 ·obtain⟨o,I⟩:=(U b j).2
  replace I:=Eq.trans (Eq.symm (fresh b q)) I;contradiction
 ·exact m
variable {r:List Bq} in
noncomputable def Ba (h:BV)(k:AS):List Env->Prop
 |[]=>True
 |z::r=>z.scope.kind≠.module/\z.frame=Ab z.locals/\h.h0.get? z.locals=Ah/\DW z k/\Ba h k r
noncomputable def GG (l:List Env):List Ai:=l.map (·.locals)
theorem Ba.imp (s:∀k:Env,DW k h->DW k H):∀{l:List Env},Ba W h l->Ba W H l:=by
 intro l;induction l with
 |nil=>
  intro _;exact trivial
 |cons _ _ o=>
  rintro⟨a,b,c,d,r⟩;exact⟨a,b,c,s _ d,o r⟩
theorem Ba.bg (S:Ba W h l)(k:BA W h H):Ba W H l:=S.imp λ _ f=>f.bg k
theorem Ba.bo (S:Ba W h l)(k:FW h H):Ba W H l:=S.imp λ _ f=>f.bo k
theorem Ba.jy:∀{l:List Env},Ba W h l->h.FunFrames {objs:= #[]} l:=by
 intro l;induction l with
 |nil=>
  intro _;exact trivial
 |cons k r s=>
  rintro⟨a,b,c,⟨o,A,C,w,_,z⟩,d⟩;exact⟨a,⟨k.locals,o,b,by rfl,w,λ E q=>by cases Eq.trans (Eq.symm z) q⟩,s d⟩
theorem Ba.mem (S:Ba W h l)(k:b∈GG l):W.h0.get? b=Ah/\wR h b:=by
 induction l with
 |nil=>exact absurd k BG
 |cons o r s=>
  exact(Al.mp k).elim (λ q=>q▸⟨S.2.2.1,S.2.2.2.1⟩) (s S.2.2.2.2)
theorem Ba.frames:∀{l:List Env},Ba W h l->l.filterMap (·.frame)=GG l:=by
 intro l;induction l with
 |nil=>
  intro _;exact rfl
 |cons o r k=>
  rintro⟨_,b,_,_,d⟩;rw[List.filterMap_cons,b];simp;rw[k d];rfl
variable {c f:Ai}{g:Array CB} in
inductive zW (h:AS)(e:Ai)(vs:Array Ae)(f3:Ae)(T:Ai):Prop
 |mk (h1:vs[1]? =Ab (.ref T)) (ne:T≠e) (oT:Obj) (ts:Array Ae) (g:h.get? T=Ab oT) (c:oT.cls=.type "traceback") (d:oT.data=.fields ts) (f:ts[3]? =Ab f3)
noncomputable def xI (k:AS)(e:Ai)(h:Array Ae)(o:Ae):Option Ai->Prop
 |none=>h[1]? =Ab .none
 |some T=>zW k e h o T
variable {a c:Ai}{vs:List Ae}{r:List Bq}{g:Array CB} in
inductive Zx (h:AS)(e:Ai)(C a0:Ae)(hd:Option Ai)(f3:Ae):Prop
 |mk (oe:Obj) (vs:Array Ae) (g:h.get? e=Ab oe) (c:oe.cls=C) (d:oe.data=.fields vs) (a:vs[0]? =Ab a0) (r:xI h e vs f3 hd)
noncomputable def UW (l:List Ai)(e:Ai)(k:Option Ai)(s h:AS):Prop:=
 ∀b o,s.get? b=Ab o->b≠e->Ab b≠k->h.get? b=Ab o\/(b∈l/\∃w,h.get? b=Ab {o with slots:=w})
theorem UA {M:Dq}{j:Unit->Aq->Prop}(x:A.frames=Ab (z::c))(St:Ba W s.heap (z::c))
 (R:s.heap.get? e=Ab d) (U:d.cls=g) (y:d.data=.fields f) (Y:f[0]? =Ab l) (Q:1<f.size)
 (hQ:∀t T,s.heap.get? T=Ah->Zx t e g l (Ab T) (BS z.locals)->(∀b o,s.heap.get? b=Ab o->b≠e->t.get? b=Ab o\/(b∈GG (z::c)/\∃B,t.get? b=Ab {o with slots:=B}))->j () {s with heap:=t}):
 Av M A (do let a <-frameOf z;let u <-entryPlaceOf z.locals b;let T <-EntryCells.newEntry i a .none (BS z.locals) .none u;setField (.ref e) 1 T) j E s:=by
 have D:=St.frames;have V:e∉GG (z::c):=λ hm=>by
  obtain⟨_,o,es,ep,ho,_,G⟩:=St.mem hm;obtain rfl:=A4 R ho;cases Eq.trans (Eq.symm y) G
 refine Ac (wpAny_frameOf_fun x St.jy St.2.1 λ k h=>?_)
 replace h:=(D)▸h
 refine Ac (wpAny_entryPlaceOf λ u I=>?_);refine Ac (B2 ?_ (I.sizeOk5 _ _ _ _ _));have w:k.get? e=Ab d:=(h.2.1 e V).trans R;have C:s.heap.get? k.objs.size=Ah:=by rw[h.1];exact Ch s.heap
 have Z:k.objs.size≠e:=Dy (AT w);generalize O:({cls:=.type "traceback",dict:=Ah,data:=.fields ([i,.ref z.locals,.none,BS z.locals,.none]++(if u.isEmpty then Bg 6 E0 else u)).toArray}:Obj)=m;have n:m.cls=.type "traceback":=by rw[<-O]
 have p:m.isFreed=Au:=by rw[<-O];rfl
 have r:∃v,m.data=.fields v/\v[3]? =Ab (BS z.locals):=⟨_,by rw[<-O],by rfl⟩;have H:(k.push m).get? e=Ab d:=AH _ w;refine IF H y Q (hQ _ k.objs.size C ?_ λ b o S J=>?_)
 ·have N:=Ek y (·.setIfInBounds 1 (BI k.objs.size))
  obtain⟨v,h1,h2⟩:=r;exact⟨_,_,B1 _ H (D9 N),(KG _ _).trans U,N,by rw[Array.getElem?_setIfInBounds_ne (Nat.succ_ne_zero _)];exact Y,by simp[Q],Z,m,v,by refine Eq.trans (Dh _ _ (Ne.symm Z)) ?_;exact AD _ p,n,h1,h2⟩
 ·rw[Dh _ _ (Ne.symm J)];by_cases q:b∈GG (z::c)
  ·obtain⟨B,L⟩:=h.2.2 b o S;exact .inr ⟨q,B,AH _ L⟩
  ·exact .inl (AH _ ((h.2.1 b q).trans S))
theorem SA {M:Dq}{c:Option Ai}{f:Unit->Aq->Prop}(V:A.frames=Ab (z::a))(St:Ba W s.heap (z::a))(F:Zx s.heap e d g c .none)
 (B:∀N T,s.heap.get? T=Ah->Zx N e d g (Ab T) (BS z.locals)->UW (GG (z::a)) e c s.heap N->f () {s with heap:=N}):Av M A (UZ (.ref e) z) f E s:=by
 obtain⟨oe,vs,r,D,k,G,Z⟩:=F;have R:=St.2.1;unfold noteFrame;rw[R];cases c with
 |none=>
  have i:=Z;refine Ac (CS r k i ?_);exact UA V St r D k G (C8.mp i).1 λ N T O t hk=>B N T O t λ b o H Q _=>hk b o H Q
 |some T=>
  obtain⟨i,u,oT,ts,O,S,w,I⟩:=Z;refine Ac (CS r k i ?_);refine Ac (CS O w I ?_);refine Ac (IF O w (C8.mp I).1 ?_);have U:T∉GG (z::a):=λ Y=>by
   obtain⟨_,o,J,L,ho,_,v⟩:=St.mem Y;obtain rfl:=A4 O ho;cases Eq.trans (Eq.symm w) v
  have h:∀b,b≠T->(s.heap.update T (Er (·.setIfInBounds 3 E0))).get? b=s.heap.get? b:=λ b H=>Dh _ _ (Ne.symm H)
  have C:=B1 (Er (·.setIfInBounds 3 E0)) O (D9 (Ek w _))
  have x:Ba W (s.heap.update T (Er (·.setIfInBounds 3 E0))) (z::a):=St.bo λ b o J L H j=>⟨o,J,L,by
   refine Eq.trans (h b (λ q=>by subst q;obtain rfl:=A4 O H;cases Eq.trans (Eq.symm w) j)) ?_;exact H,rfl,j⟩
  refine UA (s:={s with heap:=s.heap.update T (Er (·.setIfInBounds 3 E0))}) V x ((h e (Ne.symm u)).trans r) D k G (C8.mp i).1 λ N l m t hk=>B N l ?_ t λ b o H Q y=>?_
  ·by_cases q:l=T
   ·subst q;have n:(s.heap.update l (Er (·.setIfInBounds 3 E0))).get? l=Ah:=m
    cases Eq.trans (Eq.symm C) n
   ·rw[<-h l q];exact m
  ·have p:b≠T:=λ q=>y (by exact congrArg _ (q));exact hk b o ((h b p).trans H) Q
theorem YR {M:Dq}{c:Unit->Aq->Prop}(F:Zx s.heap e a g (Ab T) d)
 (Z:∀H,Zx H e a g (Ab T) .none->(∀b o,s.heap.get? b=Ab o->b≠T->H.get? b=Ab o)->c () {s with heap:=H}):Av M A (setFlight (.ref e) Ah) c E s:=by
 obtain⟨i,j,Q,l,h,m,V,k,q,r,W,N,w,n⟩:=F;refine Ac (CS Q h V ?_);have z:=(C8.mp n).1;have C:=Ek w (·.setIfInBounds 3 ((Ah:Option Ai).elim E0 λ f=>BS f))
 refine IF W w z (Z _ ⟨i,j,?_,l,h,m,V,k,_,_,B1 _ W (D9 C),(KG _ _).trans N,C,by simp[z]⟩ λ b o p O=>?_)
 ·refine Eq.trans (Dh _ _ k) ?_;exact Q
 ·refine Eq.trans (Dh _ _ (Ne.symm O)) ?_;exact p
variable {f:Ai}{n:Nat}{t:Expr}{g:Array CB} in
inductive KN (W:BV)(hs h:AS)(e:Ai)(C v:Ae):Prop
 |mk (le:BA W hs h) (no:hs.get? e=Ah) (t:Ai) (n:Nat) (hd:Option Ai) (g:h.get? t=Ab (M1 #[v] n)) (f:Zx h e C (.ref t) hd .none) (k:∀T,hd=Ab T->hs.get? T=Ah)
theorem KN.il {c:AS}(F:KN W c h e b v):c.get? e=Ah:=F.rec λ _ a _ _ _ _ _ _=>a
theorem BA.gq {a:Option Ai}(x:BA W d h)(St:Ba W h l)(K:UW (GG l) e a h H)(F:Zx h e c g a f)(y:c≠.none/\c≠.type "code")(B:d.get? e=Ah)(D:∀T,a=Ab T->d.get? T=Ah):BA W d H:=by
 obtain⟨S,U,j,O,G,Y,m⟩:=F;have step:∀b o,h.get? b=Ab o->b≠e->Ab b≠a->H.get? b=Ab o\/(W.h0.get? b=Ah/\o.cls=.type "frame"/\(∃Z i,o.data=.dict Z i)/\∃C,H.get? b=Ab {o with slots:=C}):=λ b o s I J=>by
  rcases K b o s I J with k |⟨L,C,k⟩
  ·exact .inl k
  ·obtain⟨M,o',Z,i,p,hc,E⟩:=St.mem L;obtain rfl:=A4 s p;exact .inr ⟨M,hc,⟨Z,i,E⟩,C,k⟩
 refine⟨λ b o s=>?_,λ t=>W.ch h H (λ b o ws s r N=>?_) (x.2 t)⟩
 ·have w:b≠e:=λ q=>by simp only[q,B] at s;contradiction
  have A:Ab b≠a:=λ q=>by replace s:=Eq.trans (Eq.symm (D b q.symm)) s;contradiction
  rcases x.1 b o s with k |⟨n,k,C,u⟩ |⟨n,R,Q,k,u⟩
  ·rcases step b o k w A with z |⟨z1,z2,_,C,z⟩
   ·exact .inl z
   ·exact .inr (.inl ⟨z1,z2,C,z⟩)
  ·rcases step b _ u w A with z |⟨z1,z2,_,V,z⟩
   ·exact .inr (.inl ⟨n,k,C,z⟩)
   ·exact .inr (.inl ⟨n,k,V,z⟩)
  ·rcases step b _ u w A with z |⟨z1,z2,_,V,z⟩
   ·exact .inr (.inr ⟨n,R,Q,k,z⟩)
   ·contradiction
 ·have w:b≠e:=λ q=>by
   subst q;obtain rfl:=A4 j s;rcases N with q |q
   ·exact y.1 (O.symm.trans q)
   ·exact y.2 (O.symm.trans q)
  have A:Ab b≠a:=λ q=>by
   subst q;obtain⟨_,_,oT,ts,v,hc,_⟩:=m;obtain rfl:=A4 s v
   replace N:=(hc)▸N
   contradiction
  rcases step b o s w A with z |⟨_,_,⟨Z,i,E⟩,_⟩
  ·exact z
  ·cases Eq.trans (Eq.symm r) E
theorem UW.stack {a:Option Ai}(St:Ba W h b)(K:UW (GG l) e a h H)(F:Zx h e c g a d):Ba W H b:=by
 obtain⟨m,n,A,Z,C,p,E⟩:=F;refine St.imp λ w f=>?_;obtain⟨o,Q,V,z,hc,s⟩:=f;have i:w.locals≠e:=λ q=>by simp only[q,A] at z;cases z;cases Eq.trans (Eq.symm C) s
 have j:Ab w.locals≠a:=λ q=>by
  subst q;obtain⟨_,_,r,t,N,_,O,_⟩:=E;obtain rfl:=A4 z N;cases Eq.trans (Eq.symm s) O
 rcases K _ o z i j with k |⟨_,u,k⟩
 ·exact⟨o,Q,V,k,hc,s⟩
 ·exact⟨_,Q,V,k,hc,s⟩
theorem UW.seq {a:Option Ai}(St:Ba W h l)(K:UW (GG l) e a h H)(F:Zx h e b f a c)(w:h.get? t=Ab o)(s:o.data=.seq d n):H.get? t=Ab o:=by
 obtain⟨j,m,z,V,A,p,C⟩:=F;have Z:t≠e:=λ q=>by simp only[q,z] at w;cases w;cases Eq.trans (Eq.symm A) s
 have g:Ab t≠a:=λ q=>by
  subst q;obtain⟨_,_,r,u,E,_,N,_⟩:=C;obtain rfl:=A4 w E;cases Eq.trans (Eq.symm s) N
 rcases K t o w Z g with k |⟨i,v,k⟩
 ·exact k
 ·obtain⟨_,x,y,B,O,_,Q⟩:=St.mem i;obtain rfl:=A4 w O;cases Eq.trans (Eq.symm s) Q
theorem KN.gk {M:Dq}{d:Unit->Aq->Prop}(O:b≠.none/\b≠.type "code")(o:A.frames=Ab (z::a))(St:Ba W s.heap (z::a))(F:KN W c s.heap e b v)
 (Q:∀h t n T,BA W c h->c.get? T=Ah->Ba W h (z::a)->h.get? t=Ab (M1 #[v] n)->Zx h e b (.ref t) (Ab T) (BS z.locals)->d () {s with heap:=h}):Av M A (UZ (.ref e) z) d E s:=by
 obtain⟨H,V,t,n,g,Z,k,f⟩:=F;refine SA o St k λ h T w C K=>?_;have N:c.get? T=Ah:=by
  exact BA.bh H w
 exact Q h t n T (H.gq St K k O V f) N (K.stack St k) (K.seq St k Z rfl) C
theorem KN.land {M:Dq}{d:Unit->Aq->Prop}(N:a≠.none/\a≠.type "code")(St:Ba W s.heap l)(O:BA W c s.heap)(H:c.get? e=Ah)(w:c.get? T=Ah)(Q:s.heap.get? t=Ab (M1 #[v] n))(F:Zx s.heap e a (.ref t) (Ab T) f)
 (V:∀h,KN W c h e a v->Ba W h l->d () {s with heap:=h}):Av M A (setFlight (.ref e) Ah) d E s:=by
 refine YR F λ h z k=>?_;have K:UW (GG l) e (Ab T) s.heap h:=λ b o Z _ C=>.inl (k b o Z λ q=>C (by exact congrArg _ (q)));exact V h ⟨O.gq St K F N H λ g q=>by cases q;exact w,H,t,n,Ab T,K.seq St F Q rfl,z,λ g q=>by cases q;exact w⟩ (K.stack St F)
theorem KN.bp {M:Dq}{c:Unit->Aq->Prop}(N:b≠.none/\b≠.type "code")(C:A.frames=Ab (z::a))(St:Ba W s.heap (z::a))(F:KN W d s.heap e b v)
 (O:∀H,KN W d H e b v->Ba W H (z::a)->c () {s with heap:=H}):Av M A (leaving z (.ref e)) c E s:=by
 refine Ac (F.gk N C St λ k t n T o Q h V w=>?_);exact KN.land (s:={s with heap:=k}) N h o F.il Q V w O
theorem KN.gr (F:KN W d h e c v)(s:BA W b d):KN W b h e c v:=by
 obtain⟨k,w,t,n,z,A,C,E⟩:=F;have o:∀{a:Ai},d.get? a=Ah->b.get? a=Ah:=λ{a} H=>by
  exact BA.bh s H
 exact⟨s.trans k,o w,t,n,z,A,C,λ T q=>o (E T q)⟩
theorem KN.jk (m:Heap.MadeExcOf h H e a [v]):KN W h H e a v:=by
 refine Jr λ w k=>?_;obtain⟨t,o,z,s⟩:=m.there;refine k ?_;exact⟨.af m.keeps,m.new,t,0,Ah,s,⟨_,_,o,rfl,rfl,rfl,rfl⟩,λ T q=>(by contradiction)⟩
variable {sl:Ds} in
class inductive Jt (h:AS) (name:Str) (bmB:List Ae):List Ae->Prop
 |base:Jt h name bmB bmB
 |own {A:Ai} {c0:Ae} {dd:Option Ai} {cd:ClassData} {sl:Array (Option Ae)} {mA:Str->Option Ae} {tl:List Ae}:
  h.get? A=Ab {cls:=c0,dict:=dd,data:=.cls cd,slots:=sl}->h.Ns cd.ns mA->mA name=Ah->Jt h name bmB tl->Jt h name bmB (.ref A::tl)
theorem Vb (s:BA W h H)(T:Jt h name a b):Jt H name a b:=by
 induction T with
 |base=>exact .base
 |own A hN o _ w=>
  rcases s.1 _ _ A with k |⟨_,_,C,k⟩ |⟨_,E,z,k,_⟩
  ·exact .own k (Dl s hN) o w
  ·exact .own k (Dl s hN) o w
  ·injection k with _ _ k;cases k
variable {hs:AS} in
inductive z5 (W:BV)(C:Ai)(bm:List Ae):Prop
 |mk (nm q0 N bs hdct sn0 sub ab col dd k0 k10 k2 k3 k5 B newId initId bmB mN nm0:_) (fx:ExcBaseFacts B newId initId bmB) (hC:W.h0.get? C=Ab (E8 nm q0 C N bs bm hdct sn0 sub ab col dd k0 k10 k2 k3 k5 newId)) (hN:W.h0.Ns N mN) (hi:mN "__init__"=Ah) (hT:OwnTail W.h0 bmB bm)
  (hs:mN "__str__"=Ah) (hS:Jt W.h0 "__str__" bmB bm) (fs:ExcStrFacts B nm0)
structure Gf (W:BV)(mg:Str->Option Ae)(x:Str)(C:Ai)(bm:List Ae):Prop where
 bx:mg x=Ab (.ref C)
 cls:z5 W C bm
theorem TS (s:BA W h H)(T:OwnTail h a b):OwnTail H a b:=by
 induction T with
 |base=>exact .base
 |own A hN o _ w=>
  rcases s.1 _ _ A with k |⟨_,_,C,k⟩ |⟨_,E,z,k,_⟩
  ·exact .own k (Dl s hN) o w
  ·exact .own k (Dl s hN) o w
  ·injection k with _ _ k;cases k
set_option genCtorIdx true in
inductive xD where
 |ret (d:PV)
 |mh (x:Str) (w:Str)
noncomputable def HN (h:AS)(B:Ai):AS:={h with objs:=h.objs.modify B λ o=>{o with data:=.freed}}
section
theorem IT:(HN h B).get? B=Ah:=by
 unfold HN Heap.get?;rw[Io,if_pos rfl];cases h.objs[B]? with
 |none=>rfl
 |some o=>rfl
theorem GA (k:b≠B):(HN h B).get? b=h.get? b:=by
 unfold HN Heap.get?;rw[Io,if_neg (Ne.symm k)]
theorem MJ (k:h.get? b=Ah):(HN h B).get? b=Ah:=by
 by_cases q:b=B
 ·subst q;exact IT
 ·rw[GA q];exact k
theorem SL:BA W (HN h B) h:=
 .af λ b o e=>by
  by_cases q:b=B
  ·subst q;exact Dn IT e
  ·rw[GA q] at e;exact e
theorem Ru (R:BA W W.h0 h)(s:W.h0.get? B=Ah)(w:∀o k,h.get? B=Ab o->o.data≠.fields k):BA W W.h0 (HN h B):=by
 refine⟨λ b o e=>?_,λ t=>W.ch h _ (λ b o k e z _=>?_) (R.2 t)⟩
 ·have q:b≠B:=λ q=>by rw[q,s] at e;contradiction
  rw[GA q];exact R.1 b o e
 ·rw[GA (λ q=>w o k (q▸e) z:b≠B)];exact e
theorem Nt (T:W.di h)(s:∀o k,h.get? B=Ab o->o.data≠.fields k):W.di (HN h B):=
 W.ch h _ (λ b o k e w _=>by
   have q:b≠B:=λ q=>s o k (q▸e) w;rw[GA q];exact e) T
end
theorem BY.bj (S:Lr W (Ea V z) h H)(k:∀a,Ea V z a->a∈X)(o:¬Ea V z a)(r:BY W X h a d):BY W X H a d:=r.map (λ _ e _=>S.keep _ _ o e) λ _ _=>RpL.bj k S
theorem BU.bj (F:FI W V z Z X h O)(S:Lr W (Ea V z) h H)(r:BU W Z X h v b):BU W Z X H v b:=r.to (λ _ _=>Rp.bj (λ a k=>F.br k) S) λ _ _ m s o=>⟨m,s,o.bj S (λ a k=>F.br k) λ q=>s (F.wr q)⟩
theorem XS.fg (B:XB W V z N)(S:XS W V z N Z X s O)(i:A3 V x=Ag)(H:BU W Z X s.heap v sl)(o:∀d,sl=.own d->∀y e,O.lookup y=Ab (.own e)->y=x){a:Unit->Aq->Prop}
 (j:∀Q f,XS W V z N Z X {s with heap:=Q,toks:=f} (Bs O x sl)->Lr W (Ea V z) s.heap Q->s.toks<=f->a () {s with heap:=Q,toks:=f}):Av W.M A (NX (.Name x c) z v) a E s:=by
 refine IG (FI.cw S.F (sl:=sl) (Fq i).2 (Fq i).1 H o λ w k C St h=>?_);refine j w k ⟨C.aw λ y l q=>?_,St.j9 N (λ b g=>B.wr b g) S.le,Aa S.tk h,S.fr,S.fc.bo St.cls⟩ St h;rw[B9] at q;by_cases e:y=x
 ·subst y;rw[if_pos rfl] at q;rw[AC];exact q
 ·rw[if_neg e] at q;rw[AI e];exact q
variable {a:List PV}{b:Ds} in
noncomputable def Vr:List (Str×Pos)->List Ds->A5->A5
 |(x,_)::a,b::h,O=>Vr a h (Bs O x b)
 |_,_,O=>O
variable {v:Ae}{b:List Ae}{a:Ds} in
noncomputable def LR (k:BV)(o X:List Ai)(s:AS):List Ae->List Ds->Prop
 |[],[]=>True
 |v::b,a::h=>BU k o X s v a/\(∀d,a≠.own d)/\LR k o X s b h
 |_,_=>False
theorem LR.bj (F:FI W V z Z X h O)(S:Lr W (Ea V z) h H)(x:LR W Z X h b a):LR W Z X H b a:=by
 induction b generalizing a with
 |nil=>cases a with
  |nil=>exact x
  |cons _ _=>exact x.elim
 |cons v b k=>cases a with
  |nil=>exact x.elim
  |cons s a=>exact⟨x.1.bj F S,x.2.1,k x.2.2⟩
theorem XS.jt (B:XB W V z N):∀(C:List (Str×Pos))(w:List Ae)(k:List Ds)(j:A5)(s:Aq)(Q:Unit->Aq->Prop),XS W V z N Z X s j->C.all (λ x=>A3 V x.1)=Ag->C.length=k.length->LR W Z X s.heap w k->
 (∀m n,XS W V z N Z X {s with heap:=m,toks:=n} (Vr C k j)->Lr W (Ea V z) s.heap m->s.toks<=n->Q () {s with heap:=m,toks:=n})->
 Av W.M A (assignInOrder (List.map (λ x=>x.2) (Ji (C.map λ x=>.Name x.1 x.2) z)) w) Q E s:=by
 intro C;induction C with
 |nil=>
  intro w k j s Q S _ p r h;cases k with
  |cons _ _=>contradiction
  |nil=>cases w with
   |cons _ _=>exact r.elim
   |nil=>exact wpAny_assignInOrder_none (h s.heap s.toks S .refl (An _))
 |cons x C t=>
  intro w k j s Q S l p r h;cases k with
  |nil=>contradiction
  |cons u k=>cases w with
   |nil=>exact r.elim
   |cons v w=>
    have l:=AB.mp l;refine wpAny_assignInOrder_more (S.fg B l.1 r.1 (λ d q=>absurd q (r.2.1 d)) λ b H c o e=>?_);exact t w k _ {s with heap:=b,toks:=H} Q c l.2 (Hk p) (r.2.2.bj S.F o) λ f O g a i=>h f O g (o.trans a) (Aa e i)
theorem TW:∀(h:List (Str×Pos)),(Ji (h.map λ x=>Expr.Name x.1 x.2) z).length=h.length/\List.findIdx? (λ x=>x.1) (Ji (h.map λ x=>Expr.Name x.1 x.2) z)=Ah:=by
 intro h;induction h with
 |nil=>
  exact⟨rfl,rfl⟩
 |cons x h k=>
  obtain⟨o,s⟩:=k;exact⟨congrArg (·+1) o,by show List.findIdx? _ ((Au,_)::Ji (h.map λ x=>Expr.Name x.1 x.2) z)=Ah;rw[List.findIdx?_cons,s];rfl⟩
theorem XS.fz (m:A.handled=Ah)(B:XB W V z N)(S:XS W V z N Z X s O)(p:s.heap.get? T=Ab (M1 vs.toArray n))(t:xs.all (λ x=>A3 V x.1)=Ag)(j:xs.length=sls.length)
 (r:LR W Z X s.heap vs sls) (f:vs.length=sls.length) {d:Unit->Aq->Prop}
 (u:∀C g,XS W V z N Z X {s with heap:=C,toks:=g} (Vr xs sls O)->Lr W (Ea V z) s.heap C->s.toks<=g->d () {s with heap:=C,toks:=g}):Av W.M A (NX (.Tuple (xs.map λ x=>.Name x.1 x.2) c a) z (.ref T)) d E s:=by
 have l:=TW (z:=z) xs;refine wpAny_assign_Tuple m ⟨_,p,rfl,_,rfl⟩ (by rw[l.1];simp;exact j.trans f.symm) l.2 λ C i=>?_;have k:∀b o,s.heap.get? b=Ab o->C.get? b=Ab o:=λ b o q=>i b o (Ct (AT q)) q;refine XS.jt B xs vs sls O {s with heap:=C} d (S.ae (tk:=s.toks) (.af k) (An _)) t j (r.bj S.F (.af k)) λ H h Q w e=>u H h Q ((Lr.af k).trans w) e
theorem QW {a:Type}(f:a->Bool)(l:List a)(i:Nat)(h:∀x,l[i]? =Ab x->f x=Au):(l.eraseIdx i).find? f=l.find? f:=by
 induction l generalizing i with
 |nil=>exact rfl
 |cons x l k=>
  cases i with
  |zero=>exact(EP (ne_true_of_eq_false (h x rfl))).symm
  |succ i=>
   show(match f x with |true=>Ab x |false=>(l.eraseIdx i).find? f)=match f x with |true=>Ab x |false=>l.find? f
   rw[k i h]
theorem OR (k:a.findIdx? (λ e=>e.key.isStr name)=Ab i)(s:x≠name):Ic (a.eraseIdxIfInBounds i) x=Ic a x:=by
 obtain⟨l⟩:=a;simp only[Ic,findBy,List.eraseIdxIfInBounds_toArray,List.find?_toArray,List.findIdx?_toArray] at k ⊢;rw[QW];intro e o;obtain⟨h,w,_⟩:=List.findIdx?_eq_some_iff_getElem.mp k;have:l[i]=e:=by rw[AA h] at o;injection o
 rw[<-this];cases q:l[i].key.isStr x with
 |false=>rfl
 |true=>exact absurd (Value.isStr_inj _ _ _ q w) s
theorem R6 {M:Dq}{m:Str->Option Ae}{f:Bool->Aq->Prop}(x:s.heap.Ns a m)(C:(m name).isSome=Ag)
 (B:∀O p,O.Ns a p->(∀y,y≠name->p y=m y)->BK a s.heap O->FW s.heap O->f Ag {s with heap:=O}):Av M A (nsDel a name) f E s:=by
 obtain⟨o,z,D,Q,V,hk,r⟩:=id x;have u:z.any (·.refKey)=Au:=by
  rw[Array.any_eq_false'];intro e G;obtain⟨n,t,h⟩:=hk e G;simp[DictEntry.refKey,h]
 obtain⟨i,W⟩:∃i,z.findIdx? (λ e=>e.key.isStr name)=Ab i:=by
  cases q:z.findIdx? (λ e=>e.key.isStr name) with
  |some i=>exact⟨i,rfl⟩
  |none=>
   exfalso;rw[<-r name,Ic,findBy_of_findIdx?,q] at C;cases C
 have H:z.any (λ e=>e.key.isStr name)=Ag:=by
  rw[Array.any_eq_true];obtain⟨Z,I,_⟩:=Array.findIdx?_eq_some_iff_getElem.mp W;exact⟨i,Z,I⟩
 have N:nsHas name o=pure Ag:=by
  rw[nsHas_eq];unfold nsHasByArray;rw[V];simp only[H,if_true]
 have k:(Obj.dropName name o).cls=o.cls/\(Obj.dropName name o).isFreed=Au/\(Obj.dropName name o).data=.dict (z.eraseIdxIfInBounds i) (D+1):=by
  obtain⟨c,d,R,S⟩:=o;simp only at V;subst V;simp only[Obj.dropName_eq,Obj.dropNameByArray,W];exact⟨trivial,rfl,trivial⟩
 have w:=B1 (Obj.dropName name) Q k.2.1;unfold nsDel;refine Ac (wpAny_loadPart Q ?_);rw[N];refine Ac (Ar ?_);simp only[if_true];refine Ac (MZ Q (Ar (B _ (Ic (z.eraseIdxIfInBounds i)) ⟨_,_,_,w,k.2.2,hk.erase i,λ _=>rfl⟩ (λ y J=>by rw[OR W J,r]) (BN ..) λ b L g j v l=>?_)));by_cases q:b=a
 ·subst q;obtain rfl:=A4 Q v;exact⟨_,_,_,w,k.1,k.2.2⟩
 ·exact⟨L,g,j,by rw[Dh _ _ (Ne.symm q)];exact v,rfl,l⟩
noncomputable def OF (h:A5)(n:Str):A5:=h.filter λ q=>!(q.1==n)
theorem IB (n:Str):∀(h:A5)(y:Str),(OF h n).lookup y=if y=n then Ah else h.lookup y:=by
 intro h;induction h with
 |nil=>
  intro y;exact(ite_self _).symm
 |cons s h k=>
  intro y;obtain⟨z,t⟩:=s;have o:=k y;unfold OF at o ⊢;rw[FH];by_cases q:z=n
  ·subst q;simp only[beq_self_eq_true,KQ,BR,if_false];rw[o];by_cases r:y=z
   ·rw[if_pos r,if_pos r]
   ·rw[if_neg r,if_neg r,AI r]
  ·have:(z==n)=Au:=by simpa using q
   simp only[this,Bool.not_false,if_true];by_cases r:y=z
   ·subst r;rw[AC,AC,if_neg q]
   ·rw[AI r,AI r];exact o
theorem IW (h:(OF O n).lookup y=Ab a):y≠n/\O.lookup y=Ab a:=by
 rw[IB] at h;by_cases q:y=n
 ·rw[if_pos q] at h;cases h
 ·rw[if_neg q] at h;exact⟨q,h⟩
theorem XP {M:Dq}{m:Str->Option Ae}{a:Unit->Aq->Prop}(N:z.kindOf n=Ab .local)(O:(z.scope.kind== .class||(z.scope.kind== .module&&z.locals !=z.globals))=Au)(Q:s.heap.Ns z.locals m)(V:(m n).isSome=Ag)
 (W:∀h k,h.Ns z.locals k->(∀y,y≠n->k y=m y)->BK z.locals s.heap h->FW s.heap h->a () {s with heap:=h}):Av M A (Jy z n b) a E s:=by
 unfold unbindBehindTheSuite;refine wpAny_onRaise ?_;unfold unbindName;refine Ac (wpAny_point (Ac ?_));unfold deleteName;simp only[N,O];rw[if_neg (by decide)];refine Ac (R6 Q V λ h k o w C H=>?_);simp only[KQ,BR,if_false];exact Ar (wpAny_point (W h k o w C H))
theorem XS.jb (B:XB W V z N)(S:XS W V z N Z X s O)(U:V.names.lookup n=Ab .local)(J:D1 n=Ag){f:Unit->Aq->Prop}
 (a5:∀h' tk,XS W V z N Z X {s with heap:=h',toks:=tk} (OF O n)->D7 V z Z X s.heap h'->s.toks<=tk->f () {s with heap:=h',toks:=tk}):Av W.M A (do bindName z n .none;Jy z n g) f E s:=by
 have a6:A3 V n=Ag:=by unfold A3;rw[J,U];rfl
 refine Ac (wpAny_bindName ?_);refine FI.cw S.F (sl:=.av .none) (.inl U) J rfl (λ d q=>nomatch q) λ l H w Q D=>?_;have p:XS W V z N Z X {s with heap:=l,toks:=H} ((n,.av .none)::O):=⟨w,Q.j9 N (λ b a0=>B.wr b a0) S.le,Aa S.tk D,S.fr,S.fc.bo Q.cls⟩;have hp:(z.scope.kind== .class||(z.scope.kind== .module&&z.locals !=z.globals))=Au:=by rw[S.F.kind];rfl
 obtain⟨m,hn,hv⟩:=w.ns;obtain⟨v,a1,_⟩:=hv n (.av .none) U AC;refine XP (s:={s with heap:=l,toks:=H}) (S.F.ea n U) hp hn (by rw[a1];rfl) λ j L t G h I=>?_;have hz:z.locals∈Z:=S.F.bb _ Ad;have hX:=S.F.zx _ hz;have M:FI W V z Z X j (OF O n):=
  {w with
   ns:=⟨L,t,λ y R hy C=>by
    obtain⟨q,C⟩:=IW C;obtain⟨v,e,r⟩:=hv y R hy (by rw[AI q];exact C);exact⟨v,by rw[G y q];exact e,r.az h hX hz⟩⟩
   cell:=λ y hy=>by
    obtain⟨c,ov,e,i,k⟩:=w.cell y hy;refine⟨c,ov,e,i.sameBut h (MQ i hn),λ R C=>?_⟩;obtain⟨q,C⟩:=IW C;obtain⟨u,e',r⟩:=k R (by rw[AI q];exact C);exact⟨u,e',r.az h hX hz⟩
   dt:=λ y R C=>S.F.dt y R (IW C).2
   alive:=λ a Y=>⟨(w.alive a Y).1,Gx h (by obtain⟨o,_,_,T,_⟩:=t;exact⟨o,T⟩) (w.alive a Y).2⟩
   ci:=λ y a7 d e h1 h2=>S.F.ci y a7 d e (IW h1).2 (IW h2).2}
 have x:BA W N j:=p.le.az (B.wr _ (.inl rfl)) (λ o vs T hd=>by
  obtain⟨o',es,ep,a2,a3,_⟩:=hn;have a4:l.get? z.locals=Ab o:=T;obtain rfl:=A4 a4 a2;cases Eq.trans (Eq.symm hd) a3) h
 have kd:D7 V z Z X s.heap j:=(Q.ap λ a Y=>S.F.br Y).trans λ b o hc T=>(h.2 b (λ q=>hc.elim (λ c=>c.1 (q▸hX)) λ c=>c.2.1 (.inl q))).trans T;exact a5 j H ⟨M,x,p.tk,S.fr,p.fc.bo I⟩ kd D
open Builtin Builtin.Str Builtin.BaseException Builtin.Exceptions
section
variable {C:Ai}
theorem Wm {M:Dq}{g:Array CB}{os:GS}{d:M9}{t:Nat}{a:List Ae}{name:Str}{b:List Ae}{y:Option Ae}{c:Option Ae->Aq->Prop}(T:Jt h name a b)(k:lookupAlong a name=pure y)(s:c y ⟨h,g,d,t,os⟩):
 Av M A (lookupAlong b name) c E ⟨h,g,d,t,os⟩:=by
 induction T with
 |base=>rw[k];exact Ar s
 |own w hN o _ z=>
  rw[lookupAlong_cons];refine Ac (wpAny_classOwn_cls w hN ?_);rw[o];exact z
theorem T6 {M:Dq}{j m a sub:List Ae}{g:Array CB}{os:GS}{d:M9}{t:Nat}{nm q:Str}{i:Ai}{f p:Bool}{n:List Str}{l:Option Bool}{r:Option Ai}{u v x D G:Option Ae}{B b:String}{name:Str}{c:Str->Option Ae}{y:Option Ae}{e:Option Ae->Aq->Prop}(w:h.get? C=Ab (E8 nm q C i m j f n sub p l r u v x D G b))(H:h.Ns i c)(o:c name=Ah)(T:Jt h name a j)
 (s:mroOf (.type B)=pure a) (z:Ff (.type B) name=pure y) (N:e y ⟨h,g,d,t,os⟩):Av M A (Ff (.ref C) name) e E ⟨h,g,d,t,os⟩:=by
 have k:lookupAlong a name=pure y:=by rw[typeLookup_eq,s] at z;exact z
 rw[typeLookup_eq];refine Ac (wpAny_mroOf_exc w ?_);rw[lookupAlong_cons];refine Ac (wpAny_classOwn_exc w H ?_);rw[o];exact Wm T k N
end
section
variable {C:Ai}
theorem X1 {os:GS}{sub:List Ae}{p:Str->Option Ae}(W:A.units<I7)(k:ExcStrFacts B b)
 (o:h.get? C=Ab (E8 nm q C v y c r D sub G x I J L M R S f)) (Z:h.Ns v p) (s:p "__str__"=Ah) (T:Jt h "__str__" i c) (z:mroOf (.type B)=pure i) (H:c.contains (.type "BaseException")=Ag)
 (V:h.get? e=Ab a) (hc:a.cls=.ref C) (U:a.data=.fields j) (Y:j[0]? =Ab (.ref t0)) (ht:h.get? t0=Ab (M1 #[.str m l] n)) (hq:Q (.str m l) ⟨h,g,d,t,os⟩):
 Av (model u w) A (Builtin.Str.strOf (.ref e)) Q E ⟨h,g,d,t,os⟩:=by
 have N:=k.str.lookup;unfold Builtin.Str.strOf
 repeat (first |with_reducible refine wpAny_cRoomFor W ?_ |(with_reducible refine GO V ?_;rw[hc]) |with_reducible refine T6 o Z s T z N ?_ |wp_step)
 refine EG (k.str.bind _) ?_;refine Ac (Ia (JA k.str.plain F.entry_bexc_str ?_));have O:(BI C::c).contains (.type "BaseException")=Ag:=by rw[Hm,H,Jx]
 have hk:builtinKind "BaseException.__str__"=Ab .slot:=by decide+kernel
 have hs:splitId "BaseException.__str__"=Ab ("BaseException","__str__"):=by decide+kernel
 unfold checkBuiltinCall;rw[hk,hs]
 repeat (first |(with_reducible refine GO V ?_;rw[hc]) |with_reducible refine GO o ?_ |(with_reducible refine wpAny_isSubtype_exc o ?_;rw[O]) |wp_step)
 rw[U];refine Ar ?_;rw[Y];refine Ar (Ac (wpAny_seqItems ht rfl ?_));refine Ar ?_
 repeat wp_step
 exact hq
theorem jH {sub:List Ae}{i:Str->Option Ae}(M:A.units+2<I7)(S:ExcStrFacts B c)
 (U:s.heap.get? C=Ab (E8 nm q C r u j l v sub x t y D G I J L d)) (Y:s.heap.Ns r i) (o:i "__str__"=Ah) (T:Jt s.heap "__str__" f j) (z:mroOf (.type B)=pure f) (H:j.contains (.type "BaseException")=Ag)
 (he:s.heap.get? e=Ab a) (hc:a.cls=.ref C) (hd:a.data=.fields g) (h0:g[0]? =Ab (.ref t0)) (ht:s.heap.get? t0=Ab (M1 #[.str m b] n)) (hq:Q (.str m b) s):
 Av (model p w) A (call (.type "str") [.ref e]) Q E s:=
 callType_new F.called_str (by decide) (F.typeCall_str_1 _) (F.newCall_str_1 _) (λ N=>F.args_object_init_2 N _) F.entry_str_new
  (meets_str_new (S:=λ O R k=>O.units+1<I7/\k.heap=s.heap/\R (.ok (.ret (.str m b))) k)
   λ _ _ O _ k V=>by
    obtain⟨h',g',d',t',a0⟩:=k;obtain⟨W,h,Z⟩:=V;simp only at h;subst h;exact X1 (A:=O.in1) W S U Y o T z H he hc hd h0 ht Z)
  ⟨(show A.units+1+1<I7 from M),rfl,KT _ _ _,hq⟩
end
section
variable {C:Ai}
theorem T0 {M:Dq}{v L sub B a r:List Ae}{g:Array CB}{os:GS}{d:M9}{t:Nat}{nm q y q':Str}{J c N':Ai}{p S l G:Bool}{R D:List Str}{x u:Option Bool}{T I:Option Ai}{U Y k2 k3 k5 j0 j1 j2 j3 j5:Option Ae}{j i:String}{e:Ai}{m:Obj}{b:Bool}{n:Bool->Aq->Prop}(z:h.get? C=Ab (E8 nm q C J L v p R sub S x T U Y k2 k3 k5 j))(o:h.get? c=Ab (E8 y q' c N' B a l D r G u I j0 j1 j2 j3 j5 i))
 (H:h.get? e=Ab m) (s:m.cls=.ref C) (k:a.contains (.type "BaseException")=Ag) (N:(BI C::v).contains (.ref c)=b) (O:n b ⟨h,g,d,t,os⟩):
 Av M A (excMatches (.ref e) (.ref c)) n E ⟨h,g,d,t,os⟩:=by
 have w:(BI c::a).contains (.type "BaseException")=Ag:=by rw[Hm,k,Jx]
 have f:=tc_notTuple;unfold excMatches
 repeat (first |(with_reducible refine GO H ?_;rw[s]) |with_reducible refine GO o ?_ |(with_reducible refine wpAny_isSubtype_exc o ?_;rw[w]) |(with_reducible refine wpAny_isSubtype_exc z ?_;rw[N]) |wp_step)
 cases b<;>(wp_walk;exact O)
end
theorem KN.again {M:Dq}{b:Unit->Aq->Prop}(O:a≠.none/\a≠.type "code")(St:Ba W s.heap l)(F:KN W c s.heap e a v)
 (z:∀h,KN W c h e a v->Ba W h l->BA W c h->b () {s with heap:=h}):Av M A (setFlight (.ref e) Ah) b E s:=by
 obtain⟨H,Q,t,n,V,Z,C,d⟩:=id F;cases V with
 |some T=>exact KN.land O St H Q (d T rfl) Z C λ h N o=>z h N o N.1
 |none=>
  obtain⟨g,i,w,hc,k,j,f⟩:=C;unfold setFlight;refine Ac (CS w k f ?_);rw[if_neg (by decide)];exact Ar (z s.heap F St H)
variable {a c:Ai}{n:Nat}{vs:List Ae}{t:Expr}{g:Array CB} in
inductive JV (h:AS)(e:Ai)(Cv v:Ae):Prop
 |mk (oe:Obj) (vs:Array Ae) (t:Ai) (n:Nat) (g:h.get? e=Ab oe) (c:oe.cls=Cv) (d:oe.data=.fields vs) (a:vs[0]? =Ab (.ref t)) (gt:h.get? t=Ab (M1 #[v] n))
theorem KN.is (F:KN W b h e a v):JV h e a v:=by
 obtain⟨H,C,t,n,E,s,⟨w,z,o,hc,k,A,_⟩,N⟩:=F;exact⟨w,z,t,n,o,hc,k,A,s⟩
theorem JV.bj (x:JV h e a v)(F:FI W V z Z X h O)(S:Lr W (Ea V z) h H):JV H e a v:=by
 obtain⟨Q,i,t,n,C,hc,k,j,l⟩:=x;have A:∀b o,h.get? b=Ab o->(∀d f,o.data≠.dict d f)->(∀g,o.data≠.cell g)->H.get? b=Ab o:=λ b o E p r=>S.keep b o (λ q=>by
  rcases q with rfl |⟨x,u,N⟩
  ·obtain⟨m,⟨y,d,f,s,w,_⟩,_⟩:=F.ns;obtain rfl:=A4 E s;exact p _ _ w
  ·obtain⟨c,g,B,⟨y,s,w⟩,_⟩:=F.cell x (.inl u);obtain rfl:=A4 N B;obtain rfl:=A4 E s;exact r _ w) E
 exact⟨Q,i,t,n,A e Q C (λ _ _ q=>by cases Eq.trans (Eq.symm k) q) (λ _ q=>by cases Eq.trans (Eq.symm k) q),hc,k,j,A t _ l (λ _ _ q=>by cases q) λ _ q=>by cases q⟩
theorem JV.bg (x:JV h e a v)(hc:a≠.none/\a≠.type "frame")(w:BA W h H):JV H e a v:=by
 obtain⟨z,A,t,n,s,k,o,C,E⟩:=x;exact⟨z,A,t,n,w.keep s (by rw[k];exact hc.2) (by rw[k];exact hc.1),k,o,C,w.keep E (by simp) (by simp)⟩
theorem XS.putName (B:XB W V z N)(S:XS W V z N Z X s O)(g:A3 V x=Ag)(H:BU W Z X s.heap v sl)(o:∀d,sl=.own d->∀y e,O.lookup y=Ab (.own e)->y=x){a:Unit->Aq->Prop}
 (i:∀Q c,XS W V z N Z X {s with heap:=Q,toks:=c} (Bs O x sl)->Lr W (Ea V z) s.heap Q->s.toks<=c->a () {s with heap:=Q,toks:=c}):Av W.M A (M3 z x v) a E s:=by
 refine FI.cw S.F (sl:=sl) (Fq g).2 (Fq g).1 H o λ w k C St h=>?_;refine i w k ⟨C.aw λ y j q=>?_,St.j9 N (λ b f=>B.wr b f) S.le,Aa S.tk h,S.fr,S.fc.bo St.cls⟩ St h;rw[B9] at q;by_cases e:y=x
 ·subst y;rw[if_pos rfl] at q;rw[AC];exact q
 ·rw[if_neg e] at q;rw[AI e];exact q
theorem jI {Cl:Ai}(V:Gf W mg x Cl b)(R:BA W W.h0 s.heap)(Z:A.units+2<I7)(I:JV s.heap e (.ref Cl) (.str m a))(c:Q (.str m a) s):
 Av W.M A (call (.type "str") [.ref e]) Q E s:=by
 refine Jr λ y d=>?_;obtain⟨nm,q,N,B,H,D,sub,G,f,J,L,M,S,T,U,Y,o,k,g,mN,i,O,j,hN,l,p,w,z,r⟩:=V.cls;obtain⟨oe,vs,t,n,C,hc,h,u,v⟩:=I;refine d ?_;exact jH Z r (R.keep j (by simp[E8]) (by simp[E8])) (Dl R hN) w (Vb R z) O.mroIs (p.hasType O.hasBase) C hc h u v c
theorem Yk {Cl:Ai}{f:Bool->Aq->Prop}(B:Gf W mg x Cl j)(w:Gf W mg i a c)(R:BA W W.h0 s.heap)(I:JV s.heap e (.ref Cl) v)(D:(BI Cl::j).contains (.ref a)=b)(G:f b s):
 Av W.M A (excMatches (.ref e) (.ref a)) f E s:=by
 obtain⟨nm,q,N,bs,Z,sn,sub,ab,J,dd,k0,k1,k2,k3,k5,Bn,z,k,L,mN,M,Fx,S,hN,T,hT,_⟩:=B.cls;obtain⟨U,q',N',Y,C,a0,l,a1,m,a2,j0,j1,j2,j3,j5,a3,o,h,p,a4,r,H,O,a5,u,Q,_⟩:=w.cls;obtain⟨oe,vs,t,n,V,hc,y,h0,ht⟩:=I;obtain⟨hh,g,d,tk,os⟩:=s;exact T0 (R.keep S (by simp[E8]) (by simp[E8])) (R.keep O (by simp[E8]) (by simp[E8])) V hc (Q.hasType H.hasBase) D G
theorem Ke {Cl:Ai}(Gk:EY W C k mg mb)(B:XB W V z N)(xo:Gf W mg x Cl D)(M:Gf W mg p j r)(a4:(BI Cl::D).contains (.ref j)=b)
 (S:XS W V z N Z X {s with heap:=y,toks:=m} O) (l0:m<=s.toks) (F:KN W y s.heap e (.ref Cl) v) (St:Ba W s.heap l) (hg:CW V p=Ag) (hn:A3 V n=Ag) {t:FB->Aq->Prop}
 (a5:b=Ag->∀R tk,XS W V z N Z X {s with heap:=R,toks:=tk} (Bs O n (.av (.ref e)))->D7 V z Z X y R->JV R e (.ref Cl) v->Ba W R l->s.toks<=tk->
  Av W.M (A.mark (Ab (.ref e))) (execs (g::c) z) (λ f w=>Av W.M A (do bindName z n .none;Jy z n u) (λ _ T=>t f T) E w) (λ _ _=>False) {s with heap:=R,toks:=tk})
 (a6:b=Au->Av W.M A (handleBy (.ref e) z i) t E s):
 Av W.M A (handleBy (.ref e) z (.ExceptHandler (Ab (.Name p G)) (Ab n) (g::c) u::i)) t E s:=by
 have H:XS W V z N Z X s O:=S.ae F.1 l0;have Q:=H.gd B;refine wpAny_handleBy_cons (codeAny_handlers_test (CF Gk H.F Q hg (.inl M.bx) ?_)) (by intro q;contradiction);refine Yk xo M Q.ao F.is a4 ?_;cases b with
 |false=>exact a6 rfl
 |true=>
  refine codeAny_handlers_suite_as (F.again (by simp) St λ U Y J I=>?_);have o:XS W V z N Z X {s with heap:=U} O:=S.ae (tk:=s.toks) I l0;refine o.putName B hn (sl:=.av (.ref e)) rfl (λ d q=>(by contradiction)) λ a0 L a1 h a2=>?_;exact DH (a5 rfl a0 L a1 ((BA.ap I).trans (h.ap λ a ha=>o.F.br ha)) (Y.is.bj o.F h) (J.bo h.cls) a2) (λ f w a3=>a3) λ _ _ f=>f.elim
theorem Wy {c:Unit->Aq->Prop}(O:b≠.none/\b≠.type "code")(H:A.frames=Ab (z::a))(St:Ba W s.heap (z::a))(F:KN W d s.heap e b v)
 (Q:∀N,KN W d N e b v->Ba W N (z::a)->c () {s with heap:=N}):Av W.M A (UZ (.ref e) z) (λ _ k=>Av W.M A (setFlight (.ref e) Ah) c E k) f s:=
 F.gk O H St λ o t n T w V h Z C=>KN.land (s:={s with heap:=o}) O h w F.il V Z C Q
theorem FI.av (F:FI W V z Z X s.heap O)(k:O.lookup x=Ab (.av v))(o:Q v s):Av W.M A (eval (.Name x a) z) Q E s:=by
 obtain⟨u,h,w⟩:=F.at k;have:u=v:=w;subst this;exact F.bv k h o
theorem Tu (F:FI W V z Z X s.heap O)(p:O.lookup x=Ab (.av v))(q:Ck b=Ag)(r:Ck a=Ag)(u:Dp W A (eval b z) s (λ v w=>Rp W X w v e))
 (y:∀k h,BA W s.heap k->s.toks<=h->Dp W A (eval a z) {s with heap:=k,toks:=h} (λ v w=>Rp W X w v d))
 (B:∀w m t n v2 v3,BA W s.heap w->s.toks<=m->s.heap.get? t=Ah->w.get? t=Ab (M1 #[v,v2,v3] n)->Rp W X w v2 e->Rp W X w v3 d->Q (.ref t) {s with heap:=w,toks:=m}):
 Av W.M A (eval (.Tuple [.Name x f,b,a] g c) z) Q E s:=by
 rw[KV,Bj c z [.Name x f,b,a] (by rw[Du,Du,Du,q,r];rfl)];refine Ac (AZ (Ac ?_));refine AE (F.av p ?_);refine AE (u _ _ λ v2 k h C H D=>?_);refine AE (y k h C H _ _ λ v3 o i N j G=>?_);refine A6 ?_;have l:BA W s.heap o:=C.trans N;have I:s.heap.get? o.objs.size=Ah:=by
  exact BA.bh l (Ch _)
 refine B2 (B _ i o.objs.size 0 v2 v3 (l.trans (.push _ _)) (Aa H j) I (AD _ rfl) ((D.ae N).ae (.push _ _)) (G.ae (.push _ _))) (by show 3<=HG;simp[HG])
theorem LJ (F:FI W V z Z X s.heap O)(h:O.lookup x=Ab (.aa d)):Dp W A (eval (.Name x a) z) s (λ v k=>Rp W X k v d):=
 λ Q E o=>F.name h λ v r=>o v s.heap s.toks (.refl _) (An _) r
theorem UI (F:FI W V z Z X s.heap O)(t:O.lookup x=Ab (.aa (.list a)))(y:Ck e=Ag)(B:Dp W A (eval e z) s (λ v p=>Rp W X p v d))(D:a.length+1<=BX):
 Dp W A (eval (.BinOp (.Name x f) .Add (.List [e] b) c) z) s (λ v p=>Rp W X p v (.list (a++[d]))):=λ Q E G=>by
 refine LX (F.name t λ v I=>?_);rw[Mq,Bj b z [e] (by simp[y])];refine Ac (AZ (Ac (AE (B _ _ λ u N o h g J=>A6 ?_))));refine Dp.newList (s:={s with heap:=N,toks:=o}) (F.ae h).an (RpL.bq J) (show 1<=BX from AM rfl) _ _ λ w i C k j q=>?_;have L:GC .Add (.list a) (.list [d])=Ab (.list (a++[d])):=Pe D;exact MR (s:={s with heap:=i,toks:=C}) ((F.ae h).ae k).an ((Rp.ae h I).ae k) q L _ _ λ v3 l H m n r=>G v3 l H ((h.trans k).trans m) (Aa g (Aa j n)) r
theorem ND {Cl:Ai}(h:EY W C k mg mb)(F:FI W V z Z X s.heap O)(G:Gd W s)(o:O.lookup n=Ab (.av (.ref e)))(w:CW V "str"=Ag)(H:Gf W mg x Cl d)(N:A.units+2<I7)
 (I:JV s.heap e (.ref Cl) (.str m b)) (g:Q (.str m b) s):Av W.M A (eval (.Call (.Name "str" f) [.Name n a] [] c) z) Q E s:=by
 refine B3 (CF h F G w (.inr (h.blt .str)) ?_);rw[Bj c z [.Name n a] rfl];refine M7 rfl (Be (AE (F.av o (A6 ?_))));exact jI H G.ao N I g
variable {es:List (Str×PV)}{hs:AS}{p:Evs} in
structure SV where
 es:List Expr:=[]
 bs:List (List Bq):=[]
 hs:List ExceptHandler:=[]
 sc:Bf:=default
 p:Pos:=default
 nm:Str:=""
 ar:D8:=default
variable {a f:Ai}{i:Nat}{v:Ae}{c d:List PV}{t:Expr}{es:List (Str×PV)}{hs:AS}{p:Evs} in
noncomputable def Ip:Bq->SV
 | .FunctionDef nm ar b c _ _ sc _ _ p=>{es:=c,bs:=[b],sc,p,nm,ar}
 | .AsyncFunctionDef _ _ b c _ _ sc _ _ p=>{es:=c,bs:=[b],sc,p}
 | .ClassDef _ d _ b _ _ sc _ _ _ p=>{es:=d,bs:=[b],sc,p}
 | .Return o p=>{es:=o.toList,p}
 | .Delete d p=>{es:=d,p}
 | .Assign h v p=>{es:=v::h,p}
 | .TypeAlias a _ b sc _ _ p=>{es:=[a,b],sc,p}
 | .AugAssign a _ b p=>{es:=[a,b],p}
 | .AnnAssign a b o _ p=>{es:=a::b::o.toList,p}
 | .For t i b o p=>{es:=[t,i],bs:=[b,o],p}
 | .AsyncFor t i b o p=>{es:=[t,i],bs:=[b,o],p}
 | .While t b o p=>{es:=[t],bs:=[b,o],p}
 | .If t b o p=>{es:=[t],bs:=[b,o],p}
 | .With _ b p=>{bs:=[b],p}
 | .AsyncWith _ b p=>{bs:=[b],p}
 | .Match a _ p=>{es:=[a],p}
 | .Raise a b p=>{es:=a.toList++b.toList,p}
 | .Try b hs o f p=>{bs:=[b,o,f],hs,p}
 | .TryStar b hs o f p=>{bs:=[b,o,f],hs,p}
 | .Assert a o p=>{es:=a::o.toList,p}
 | .Import _ p=>{p}
 | .ImportFrom _ _ _ p=>{p}
 | .Global _ p=>{p}
 | .Nonlocal _ p=>{p}
 | .Expr e p=>{es:=[e],p}
 | .Pass p=>{p}
 | .Break p=>{p}
 | .Continue p=>{p}
noncomputable def EV.x (v:EV)(i:Nat):Expr:=v.es.getD i default
noncomputable def SV.x (v:SV)(i:Nat):Expr:=v.es.getD i default
noncomputable def EV.e (v:EV)(i:Nat):EV:=JC (v.x i)
noncomputable def SV.e (v:SV)(i:Nat):EV:=JC (v.x i)
noncomputable def SV.b (v:SV)(i:Nat):List Bq:=v.bs.getD i []
noncomputable def LY (b:List Bq)(i:Nat):SV:=Ip (b.getD i (.Pass default))
noncomputable def BE (p:Fw)(i:Nat):List Bq:=(LY p.main.body i).b 0
theorem XS.gm (h:XB W V z s.heap)(S:XS W V z s.heap Z X {s with heap:=c,toks:=b} O)(w:∀o A,s.heap.get? B=Ab o->o.data≠.fields A)(C:W.h0.get? B=Ah):
 XB W V z (HN s.heap B)/\XS W V z (HN s.heap B) Z X {s with heap:=c,toks:=b} O:=
 ⟨⟨Ru h.ao C w,Nt h.dl w,λ a k=>MJ (h.wr a k)⟩,⟨S.F,SL.trans S.le,S.tk,λ a k E=>MJ (S.fr a k E),S.fc⟩⟩
noncomputable def Rz {a:Type}(k:BV)(z:Dj)(t:Sem a)(h:Aq)(A:List Env)(Cl:Ai)(o:Str):Prop:=
 ∀(Q:a->Aq->Prop)(E:I9),(∀s w e t,h.toks<=w->A9 o=Ag->o.length<=BX->KN k h.heap s e (.ref Cl) (.str o t)->Ba k s A->E (.ref e) {h with heap:=s,toks:=w})->Av k.M z t Q E h
section
variable {w:Str}
theorem Rz.aq {Cl:Ai}{c:Type}{t:Sem c}{b:AS}(h:BA W s.heap b)(k:s.toks<=a)(R:Rz W A t {s with heap:=b,toks:=a} f Cl w){d:c->Aq->Prop}
 (C:∀o z e t,s.toks<=z->A9 w=Ag->w.length<=BX->KN W s.heap o e (.ref Cl) (.str w t)->Ba W o f->E (.ref e) {s with heap:=o,toks:=z}):Av W.M A t d E {s with heap:=b,toks:=a}:=
 R d E λ o z e t l H z1 F St=>C o z e t (Aa k l) H z1 (F.gr h) St
theorem lL {Cl:Ai}(h:Ck e=Ag)(k:Rz W A (eval e z) s b Cl w):Rz W A (eval (.List [e] a) z) s b Cl w:=λ Q E o=>by
 rw[Mq,Bj a z [e] (by simp[h])];exact Ac (AZ (Ac (AE (k _ _ o))))
theorem s6 {Cl:Ai}(F:FI W V z Z X s.heap O)(h:O.lookup x=Ab (.aa d))(k:Rz W A (eval e z) s c Cl w):Rz W A (eval (.BinOp (.Name x f) b e a) z) s c Cl w:=λ Q E o=>
 LX (F.name h λ v C=>k _ _ o)
theorem pS {Cl:Ai}(F:FI W V z Z X s.heap O)(h:O.lookup x=Ab (.av v))(k:Ck b=Ag)(o:Ck a=Ag)(C:Rz W A (eval b z) s d Cl w):Rz W A (eval (.Tuple [.Name x e,b,a] f c) z) s d Cl w:=λ Q E H=>by
 rw[KV,Bj c z [.Name x e,b,a] (by simp only[Du,Du,Du,k,o];rfl)];exact Ac (AZ (Ac (AE (F.av h (AE (C _ _ H))))))
theorem qG {Cl:Ai}(h:Rz W A (eval e z) s a Cl w):Rz W A (exec (.Return (Ab e) b) z) s a Cl w:=λ Q E k=>EM (h _ _ k)
theorem Qj {Cl:Ai}{st:Bq}(h:Rz W A (exec st z) s a Cl w):Rz W A (execs (st::r) z) s a Cl w:=λ Q E k=>Ax (h _ _ k)
end
variable {S:Nat} in
structure HS (W:BV)(sc:Bf)(ah:Env)(hb:AS)(Z X:List Ai)(D:Ai)(es:List (Str×PV))(l:List Env)(s:Aq)(ρ:A5):Prop where
 S:XS W sc ah hb Z X s ρ
 dD:BY W X s.heap D (.dict es)
 St:Ba W s.heap l
 zD:D∈Z
 fD:D∉AV ah
 bD:hb.get? D=Ah
section
theorem HS.ae (h:HS W V z N Z X D a l s O)(K:BA W s.heap H)(k:s.toks<=tk):HS W V z N Z X D a l {s with heap:=H,toks:=tk} O:=⟨h.S.ae K k,h.dD.ae K,h.St.bg K,h.zD,h.fD,h.bD⟩
theorem HS.dy (h:HS W V z N Z X D a l s O):¬Ea V z D:=λ q=>h.fD (by
 rcases q with q |⟨x,_,q⟩
 ·exact q▸Ad
 ·exact Di q)
theorem HS.bj (h:HS W V z N Z X D c l s O)(k:XS W V z N Z X {s with heap:=H,toks:=d} b)(K:Lr W (Ea V z) s.heap H):HS W V z N Z X D c l {s with heap:=H,toks:=d} b:=
 ⟨k,h.dD.bj K (λ a o=>h.S.F.br o) h.dy,h.St.bo K.cls,h.zD,h.fD,h.bD⟩
theorem VT (G:A.handled=Ah)(B:XB W V z N)(Q:HS W V z N Z X D p l s O)(I:O.lookup y=Ab (.av (.ref T)))(J:s.heap.get? T=Ab (M1 #[b,v1,v2] n))(L:Rp W X s.heap v1 d1)(M:Rp W X s.heap v2 d2)
 (H:(A3 V a&&A3 V c&&A3 V e)=Ag) {g:FB->Aq->Prop}
 (R:∀x v,HS W V z N Z X D p l {s with heap:=x,toks:=v} (Bs (Bs (Bs O a (.av b)) c (.aa d1)) e (.aa d2))->s.toks<=v->g .next {s with heap:=x,toks:=v}):
 Av W.M A (exec (.Assign [.Tuple [.Name a i,.Name c j,.Name e m] r f] (.Name y u) t) z) g E s:=by
 rw[AG,AG] at H;refine Cz (t:=.Tuple [.Name a i,.Name c j,.Name e m] r f) rfl rfl rfl (Q.S.F.av I ?_);refine XS.fz (xs:=[(a,i),(c,j),(e,m)]) (vs:=[b,v1,v2]) (sls:=[.av b,.aa d1,.aa d2]) G B Q.S J (by simp[H.1.1,H.1.2,H.2]) rfl ⟨rfl,(λ d q=>nomatch q),L,(λ d q=>nomatch q),M,(λ d q=>nomatch q),trivial⟩ rfl λ o h w k C=>?_;exact R o h (Q.bj w k) C
end
set_option genInjectivity false
set_option genSizeOfSpec false
theorem rU {b:Bool}{x d:PV}(h:(if b then Ab x else Ah)=Ab d):b=Ag/\x=d:=by
 cases b with
 |false=>cases h
 |true=>exact⟨rfl,AN h⟩
theorem Le {p:Prop} [Decidable p] {a:Type}{x d:a}(h:(if p then Ab x else Ah)=Ab d):p/\x=d:=by
 by_cases q:p
 ·rw[if_pos q] at h;exact⟨q,AN h⟩
 ·rw[if_neg q] at h;cases h
theorem Sx {x:Str}(h:PB x=Ag):A9 x=Ag/\x.length<=BX:=⟨(AB.mp h).1,of_decide_eq_true (AB.mp h).2⟩
structure Pt (C:GE)(sc:Bf)(ρ:A5) where
 W:BV
 A:Dj
 ah:Env
 Z:List Ai
 X:List Ai
 k:Nat
 mg:Str->Option Ae
 mb:Str->Option Ae
 Gk:EY W C k mg mb
 hA:CX k A
section
variable {α β:Type}
noncomputable def Pt.J (c:Pt C V O)(t:Sem α)(P:α->AS->Prop):Prop:=∀s,FI c.W V c.ah c.Z c.X s.heap O->Gd c.W s->Dp c.W c.A t s P
variable {r:List Bq}{q:Pos} in
structure Pt.St (c:Pt C V O)(vs:List Ae)(ds:List PV)(P:α->AS->Prop)(Q:α->Aq->Prop)(s:Aq):Prop where
 F:FI c.W V c.ah c.Z c.X s.heap O
 G:Gd c.W s
 r:RpL c.W c.X s.heap vs ds
 q:∀a h' tk,BA c.W s.heap h'->s.toks<=tk->P a h'->Q a {s with heap:=h',toks:=tk}
variable {c:Pt C V O}{P:α->AS->Prop}{Q:α->Aq->Prop}
theorem Pt.J.mk (h:∀Q E s,c.St [] [] P Q s->Av c.W.M c.A t Q E s):c.J t P:=λ s F G Q E q=>h Q E s ⟨F,G,.nil,q⟩
theorem Pt.St.aq (S:c.St b d P Q s)(k:BA c.W s.heap h)(l:s.toks<=e):c.St b d P Q {s with heap:=h,toks:=e}:=
 ⟨S.F.ae k,S.G.step k l,S.r.ae k,λ a w o z A=>S.q a w o (k.trans z) (Aa l A)⟩
theorem Pt.St.cr (S:c.St a b P Q s)(h:Dp c.W c.A t s P):Av c.W.M c.A t Q E s:=h Q E S.q
theorem Pt.St.out (S:c.St b d P Q s)(h:P a s.heap):Q a s:=S.q a s.heap s.toks (.refl _) (An _) h
theorem Pt.St.gh (S:c.St b d P Q s)(h:P a s.heap):Q a {s with toks:=s.toks+1}:=S.q a s.heap _ (.refl _) (Bo _) h
theorem Pt.St.alive (S:c.St b d P Q s):∀a∈c.X,∃o,s.heap.get? a=Ab o:=S.F.an
theorem Pt.St.r1 (S:c.St (v::b) (d::e) P Q s):Rp c.W c.X s.heap v d:=by cases S.r with |cons a _=>exact a
theorem Pt.St.li (S:c.St (v::b) (d::e) P Q s):c.St b e P Q s:=⟨S.F,S.G,by cases S.r with |cons _ a=>exact a,S.q⟩
theorem Pt.St.r2 (S:c.St (v::a::b) (d::e::f) P Q s):Rp c.W c.X s.heap a e:=S.li.r1
noncomputable abbrev Pt.Is (c:Pt C V O)(d:PV)(v:Ae)(h:AS):Prop:=Rp c.W c.X h v d
theorem Pt.J.go (j:c.J t (c.Is d))(S:c.St b e P Q s)(k:∀v s,c.St (v::b) (d::e) P Q s->a v s):Av c.W.M c.A t a E s:=
 j s S.F S.G a E λ v h w o l r=>let T:=S.aq o l;k v _ ⟨T.F,T.G,.cons r T.r,T.q⟩
theorem Pt.J.bl {R:β->AS->Prop}(j:c.J t R)(S:c.St b d P Q s){a:β->Aq->Prop}(w:∀v k,c.St b d P Q k->BA c.W s.heap k.heap->R v k.heap->a v k):Av c.W.M c.A t a E s:=
 j s S.F S.G a E λ v h z o l r=>w v _ (S.aq o l) o r
theorem Pt.St.ku (S:c.St b d P Q s){a:β->Aq->Prop}(k:∀(Q:β->Aq->Prop)(E:I9),(∀h,Q v {s with toks:=h})->Av c.W.M c.A t Q E s)(z:∀o,c.St b d P Q o->a v o):Av c.W.M c.A t a E s:=
 Dp.of (P:=λ w k=>w=v) (λ Q E A=>k Q E λ h=>A _ _ h (.refl _) rfl) a E λ w k h C l e=>e▸z _ (S.aq C l)
noncomputable def Dc (h:GE)(k:Bf)(o:A5)(e:Expr)(d:PV):Prop:=∀c:Pt h k o,c.J (eval e c.ah) (c.Is d)
noncomputable def KW (h:GE)(k:Bf)(o:A5)(e:Expr)(b:Bool):Prop:=∀c:Pt h k o,c.J (isTrue e c.ah (eval e c.ah)) λ s _=>s=b
noncomputable def OK (k:GE)(o:Bf)(s:A5)(e:Expr)(w:List PV):Prop:=K7 e=Ag/\∀c:Pt k o s,c.J (eval e c.ah) λ v h=>tI c.W c.X h v w
noncomputable def iP (c:BV)(k X:List Ai)(h:AS)(v:Ae)(d:PV):Prop:=Rp c X h v d\/∃a,v=.ref a/\a∉k/\BY c X h a d
theorem iP.at (b:iP W Z X h v d)(c:BA W h H):QG W X H v d:=b.imp (λ r=>r.ae c) λ x=>by obtain⟨a,e,_,r⟩:=x;exact⟨a,e,r.ae c⟩
noncomputable def iO (k:GE)(o:Bf)(s:A5)(e:Expr)(d:PV):Prop:=∀c:Pt k o s,c.J (eval e c.ah) λ v h=>iP c.W c.Z c.X h v d
noncomputable def Zs (h:GE)(k:Bf)(o:A5)(e:Option Expr)(s:Option Int):Prop:=∀c:Pt h k o,c.J (evalPart e c.ah) λ v _=>IsPart v s
noncomputable def UX (o:GE)(s:Bf)(w:A5)(k:List Expr)(z:List PV):Prop:=k.all Ck=Ag/\∀c:Pt o s w,c.J (spliced (k.map λ e=>(Au,eval e c.ah))) λ A h=>RpL c.W c.X h A z
noncomputable def oU (h:GE)(k:Bf)(o:A5)(s:BoolOp)(w:List Expr)(b:Bool):Prop:=∀c:Pt h k o,c.J (allTrue s w c.ah) λ z _=>z=b
theorem Dc.at (c:Dc C V O e d)(h:EY W C k mg mb)(o:CX k A)(F:FI W V z Z X s.heap O)(G:Gd W s):Dp W A (eval e z) s (λ v c=>Rp W X c v d):=c ⟨W,A,z,Z,X,k,mg,mb,h,o⟩ s F G
theorem KW.at (c:KW C V O e d)(h:EY W C k mg mb)(o:CX k A)(F:FI W V z Z X s.heap O)(G:Gd W s):Dp W A (isTrue e z (eval e z)) s (λ v _=>v=d):=c ⟨W,A,z,Z,X,k,mg,mb,h,o⟩ s F G
theorem Dc.name (h:Rt C V O x=Ab d):Dc C V O (.Name x p) d:=λ c s F G=>VA c.Gk F G h
theorem Dc.aa (h:O.lookup x=Ab (.aa d)):Dc C V O (.Name x p) d:=λ c=>.mk λ Q E s S=>S.F.name h λ v r=>S.out r
theorem Dc.ag (h:sU t=Ab d):Dc C V O (.Constant t a p) d:=λ c=>.mk λ Q E s S=>by
 cases t with
 |none=>cases h;exact wpAny_Constant_none (S.out .none)
 |bool b=>cases h;exact wpAny_Constant_bool (S.out (.bool _))
 |int i=>cases h;exact wpAny_Constant_int (S.gh (.int _ _))
 |str x=>
  obtain⟨q,rfl⟩:=rU h;exact KS (S.gh (.str _ _ (Sx q).1 (Sx q).2))
 |_=>cases h
theorem Dc.int:Dc C V O (.Constant (.int i) kk p) (.int i):=.ag rfl
theorem Dc.am (h:Dc C V O l a)(k:Dc C V O r b)(o:GC e a b=Ab d):Dc C V O (.BinOp l e r p) d:=λ c=>.mk λ Q E s S=>
 LX ((h c).go S λ v s S=>(k c).go S λ w s S=>S.cr (MR S.alive S.r2 S.r1 o))
theorem Dc.ja (k:KW C V O t b')(o:Dc C V O (if b' then a else b) d):Dc C V O (.IfExp t a b p) d:=λ c=>.mk λ Q E s S=>
 wpAny_IfExp ((k c).bl S λ v w h _ e=>by subst e;cases v<;>exact h.cr (o c w h.F h.G))
theorem iO.own (h:O.lookup x=Ab (.own d)):iO C V O (.Name x p) d:=λ c=>.mk λ Q E s S=>S.F.name h λ v r=>S.out (.inr (by obtain⟨a,e,_,z,r⟩:=r;exact⟨a,e,z,r⟩))
theorem iO.bn (h:Dc C V O e d):iO C V O e d:=λ c s F G=>(h c s F G).ae λ _ _ _ r=>.inl r
theorem Dc.sub (A:iO C V O v b)(H:Dc C V O i kd)(N:∀h z,subscripted i Au h z=operate [h,z] (L0 h z))(W:ET b kd=Ab d):Dc C V O (.Subscript v i p) d:=λ c=>.mk λ Q E s S=>
 Subscript_ ((A c).bl S λ o s S _ Z=>(H c).bl S λ w s S k rw=>S.cr (Vf (Z.at k) rw W v i N))
theorem Zs.no:Zs C V O Ah Ah:=λ c=>.mk λ Q E s S=>wpAny_evalPart_none (S.out .none)
theorem Zs.int (h:Dc C V O e (.int i)):Zs C V O (Ab e) (Ab i):=λ c=>.mk λ Q E s S=>
 wpAny_evalPart_some ((h c).bl S λ v s S _ r=>S.out (by obtain⟨t,q⟩:=r.aj;exact q▸.int _ _))
theorem N3 (lo k st:Option Expr)(o:Pos)(h:Ae)(a:Ai):∃c,subscripted (.Slice lo k st o) Au h (.ref a)=operate c (L0 h (.ref a)):=by
 cases st<;>exact⟨_,rfl⟩
theorem Dc.slice {p:Pos}{v:Expr}{lo a st:Option Expr}{e:Pos}{b d:PV}{l u t:Option Int}(k:iO C V O v b)(w:Zs C V O lo l)(z:Zs C V O a u)(A:Zs C V O st t)(H:En b l u t=Ab d):Dc C V O (.Subscript v (.Slice lo a st e) p) d:=λ c=>.mk λ Q E s S=>
 Subscript_ ((k c).bl S λ o s S _ N=>wpAny_Slice ((w c).bl S λ W s S Z f=>(z c).bl S λ g s S i j=>(A c).bl S λ m s S n q=>
  let h:BA c.W s.heap (s.heap.push {cls:=.type "slice",data:=.fields #[W,g,m]}):=.push _ _
  let T:=S.aq h (An s.toks)
  T.cr (Nd (N.at (((Z.trans i).trans n).trans h)) T.alive ⟨_,AD _ rfl,rfl,rfl⟩ f j q H v _ (N3 lo a st e _ _).choose_spec)))
theorem UX.nil:UX C V O [] []:=⟨rfl,λ c=>.mk λ Q E s S=>A6 (S.out .nil)⟩
theorem UX.cons (o:Dc C V O e d)(h:UX C V O a b)(w:Ck e=Ag):UX C V O (e::a) (d::b):=
 ⟨by rw[Du,w,h.1];rfl,λ c=>.mk λ Q E s S=>AE ((o c).bl S λ v s S _ r=>(h.2 c).bl S λ A s S k z=>S.out (.cons (r.ae k) z))⟩
theorem Dc.list (h:UX C V O a b)(k:b.length<=BX):Dc C V O (.List a p) (.list b):=λ c=>.mk λ Q E s S=>by
 rw[Mq,Bj p c.ah a h.1];exact Ac (AZ (Ac ((h.2 c).bl S λ vs s S _ r=>S.cr (Dp.newList S.alive r k))))
theorem Dc.ba (h:UX C V O a b)(k:b.length<=BX):Dc C V O (.Tuple a d p) (.ba b):=λ c=>.mk λ Q E s S=>by
 rw[KV,Bj p c.ah a h.1];exact Ac (AZ (Ac ((h.2 c).bl S λ o s S _ r=>S.cr (Dp.newTuple S.alive r k))))
theorem UX.fg (k:UX C V O d e)(S:c.St a b P Q s){R:Args->Aq->Prop}
 (w:∀o h,c.St a b P Q h->BA c.W s.heap h.heap->RpL c.W c.X h.heap o e->R ⟨o,[]⟩ h):Av c.W.M c.A (evalArgs f Ag (backTo p (M4 d c.ah)) []) R E s:=by
 rw[Bj p c.ah d k.1];exact NE d ((k.2 c).bl S w)
theorem Dc.blt (A:(CW V x&&(O.lookup x).isNone)=Ag)(H:wH x=Ab b)(w:UX C V O args ds)(N:Q0 b ds=Ab d):Dc C V O (.Call (.Name x q) args [] p) d:=λ c=>.mk λ Q E s S=>by
 have W:=Zn H;subst W;refine B3 (CF c.Gk S.F S.G (AB.mp A).1 (.inr (c.Gk.blt b)) ?_);have h:∀f,f=b.val->Av c.W.M c.A (evalArgs f Ag (backTo p (M4 args c.ah)) []) (λ a o=>Av c.W.M c.A (call f ([]++a.pos) a.kw) Q E o) E s:=λ f e=>
  w.fg S λ Z s S k r=>e▸S.cr (Wh c.hA.handled S.alive r N)
 have z:((backTo p (M4 args c.ah))).any (·.1)=Au:=by rw[Bj p c.ah args w.1];exact On args
 rcases hH b with⟨id,e⟩ |⟨T,e⟩
 ·exact e▸FX z (h _ e.symm)
 ·exact e▸M7 z (h _ e.symm)
theorem Dc.fn {g:List PV->Option PV}(H:(CW V x&&(O.lookup x).isNone)=Ag)(N:C.fn x=Ab g)(W:UX C V O args b)(Z:g b=Ab d):Dc C V O (.Call (.Name x q) args [] p) d:=λ c=>.mk λ Q E s S=>by
 obtain⟨a,o,m,e,f,i,z,A,h⟩:=c.Gk.fn x g N;refine B3 (CF c.Gk S.F S.G (AB.mp H).1 (.inl e) ?_);exact Ci (W.fg S λ j l w k r=>⟨⟨w.G.ao.keep f z A,i⟩,w.cr (h c.A l c.X b j d c.hA w.G w.F.alive r Z)⟩)
theorem Dc.bw {f:List PV}{p:Pos}{e:Expr}{name:Str}{a:Pos}{args:List Expr}{b d:PV}{mf:MF}(hk:(Vw e&&(a.endLine==p.line))=Ag)(H:u1 name=Ab mf)(N:Dc C V O e b)(h:UX C V O args f)(W:args.length<20)(z:Mf mf b f=Ab d):Dc C V O (.Call (.Attribute e name a) args [] p) d:=λ c=>.mk λ Q E s S=>by
 have o:=Yi H;subst o;have mt:=Yj z;have A:=AB.mp hk;refine wpAny_Call_method (RX A.1 _ c.ah) (NC _ p h.1 W) A.2 mf.plain mf.slot mf.lr ((N c).bl S λ v s S Z w=>⟨(Sn w mt).1 _ rfl,(Sn w mt).2,?_⟩);exact FX (by rw[Bj p c.ah args h.1];exact On args) (h.fg S λ g s S k r=>S.cr (TZ S.alive (w.ae k) r z))
theorem Dc.jr {p:Pos}{a:Pos}{x b:Str}(hk:(Vw d&&(a.endLine==p.line))=Ag)(z:Dc C V O d (.str x))(hc:(PB y&&PB b&&!(y==b)&&decide (x.length+(x.length+1)*b.length<=16777216)&&PB (KE x y b))=Ag):
 Dc C V O (.Call (.Attribute d "replace" a) [.Constant (.str y) f g,.Constant (.str b) e i] [] p) (.str (KE x y b)):=λ c=>.mk λ Q E s S=>by
 have w:=AB.mp hk;rw[AG,AG,AG,CZ,decide_eq_true_eq] at hc;obtain⟨⟨⟨_,A⟩,H⟩,h⟩:=hc;have h:=Sx h;refine wpAny_Call_method (RX w.1 _ c.ah) (NC _ p rfl (show 2<20 by decide)) w.2 PySem.F.plainAttrs_str PySem.F.slot_str_replace PySem.F.type_str_replace ((z c).bl S λ v s S W o=>⟨(Sn o (.inl ⟨_,rfl,rfl⟩)).1 _ rfl,(Sn o (.inl ⟨_,rfl,rfl⟩)).2,?_⟩);obtain⟨t,rfl,_⟩:=o.aj;rw[Bj p c.ah _ rfl];refine FX rfl (Be (AE (KS (AE (KS (A6 ?_))))));exact(S.aq (.refl _) (BC (Bo _))).cr (.of λ Q E N=>SC.replace (Dy S.G.toks) (Nat.succ_ne_zero _) (Ct (CH _)) A H λ Z k=>N _ _ k (.refl _) (.str _ _ h.1 h.2))
theorem S6 {R:Pt C V O->Ae->AS->Prop}(H:Dc C V O l a)(N:∀c:Pt C V O,c.J (eval r c.ah) (R c))(W:∀(c:Pt C V O) v h,R c v h->Rp c.W c.X h v b\/((d=.In\/d=.NotIn)/\QG c.W c.X h v b))(Z:K7 r=Ag)(h:I6 d a b=Ab t):
 KW C V O (.Compare l [d] [r] p) t/\Dc C V O (.Compare l [d] [r] p) (.bool t):=
 have e:∀c:Pt C V O,c.A.units<9000:=λ c=>Ay (AR _ _) c.hA.units
 ⟨λ c=>.mk λ Q E s S=>DA ((H c).bl S λ v s S _ o=>(N c).bl S λ w s S k rw=>S.ku (λ Q E z=>Hy (e c) (o.ae k) (W c _ _ rw) h λ A=>z A) λ s S=>CA (S.out rfl)) (Iz Z),
  λ c=>.mk λ Q E s S=>wpAny_Compare1 ((H c).bl S λ v s S _ o=>(N c).bl S λ w s S k rw=>S.ku (λ Q E z=>Hy (e c) (o.ae k) (W c _ _ rw) h λ A=>z A) λ s S=>S.out (.bool t)) (Iz Z)⟩
theorem KW.au (c:Dc C V O l a)(h:Dc C V O r b)(k:K7 r=Ag)(o:I6 d a b=Ab t):KW C V O (.Compare l [d] [r] p) t:=(S6 c h (λ _ _ _ r=>.inl r) k o).1
theorem KW.cq (c:Dc C V O l a)(h:iO C V O r b)(k:K7 r=Ag)(o:d=.In\/d=.NotIn)(s:I6 d a b=Ab t):KW C V O (.Compare l [d] [r] p) t:=(S6 c h (λ _ _ _ r=>.inr ⟨o,r.at (.refl _)⟩) k s).1
theorem Dc.au (c:Dc C V O l a)(h:Dc C V O r b)(k:K7 r=Ag)(o:I6 d a b=Ab t):Dc C V O (.Compare l [d] [r] p) (.bool t):=(S6 c h (λ _ _ _ r=>.inl r) k o).2
theorem KW.not (h:KW C V O e b):KW C V O (.UnaryOp .Not e p) (!b):=λ c=>.mk λ Q E s S=>wpAny_isTrue_Not ((h c).bl S λ v s S _ e=>S.out (e▸rfl))
theorem KW.val {e:Expr}(k:∀h,isTrue e h (eval e h)=(do let v <-eval e h;standAt e.pos;holding [v] (truthy v)))(o:Dc C V O e d)(w:Pm d=Ab b):KW C V O e b:=λ c=>.mk λ Q E s S=>by
 rw[k];exact Ac ((o c).bl S λ v s S _ r=>Ac (AZ (Br (S.cr (U5 r w)))))
theorem KW.name (c:Rt C V O x=Ab d)(h:Pm d=Ab b):KW C V O (.Name x p) b:=.val (λ _=>rfl) (.name c) h
theorem oU.nil:oU C V O a [] (a== .And):=λ c=>.mk λ Q E s S=>Ar (S.out rfl)
theorem oU.bu (h:KW C V O x b)(k:b=Ag->oU C V O .And a t):oU C V O .And (x::a) (b&&t):=λ c=>.mk λ Q E s S=>
 wpAny_allTrue_And_cons ((h c).bl S λ v s S _ e=>by subst e;cases v;exact VO (S.out rfl);exact P3 (S.cr (k rfl c s S.F S.G)))
theorem oU.dj (h:KW C V O x b)(k:b=Au->oU C V O .Or a t):oU C V O .Or (x::a) (b||t):=λ c=>.mk λ Q E s S=>
 wpAny_allTrue_Or_cons ((h c).bl S λ v s S _ e=>by subst e;cases v;exact VO (S.cr (k rfl c s S.F S.G));exact P3 (S.out rfl))
theorem KW.all (h:oU C V O a d b):KW C V O (.BoolOp a d p) b:=λ c=>.mk λ Q E s S=>wpAny_isTrue_BoolOp (S.cr (h c s S.F S.G))
theorem OK.list (h:Dc C V O e (.list a))(k:K7 e=Ag):OK C V O e a:=⟨k,λ c s F G=>(h c s F G).ae λ _ _ _ r=>.list r⟩
theorem OK.ba (h:Dc C V O e (.ba a))(k:K7 e=Ag):OK C V O e a:=⟨k,λ c s F G=>(h c s F G).ae λ _ _ _ r=>.ba r⟩
theorem Vp (c:bB f=Ab g):(∃b,f=[.int b]/\(0<=b/\b<=100000)/\Sq 0 b=g)\/∃a b,f=[.int a,.int b]/\(a<=b/\b-a<=100000/\-1000000<=a/\b<=1000000)/\Sq a (b-a)=g:=by
 cases f with
 |nil=>cases c
 |cons d f=>
  obtain⟨a,h,c⟩:=AL.mp c;cases f with
  |nil=>exact .inl ⟨a,by rw[Nx h],Le c⟩
  |cons e k=>
   obtain⟨b,o,c⟩:=AL.mp c;cases k with
   |cons _ _=>cases c
   |nil=>exact .inr ⟨a,b,by rw[Nx h,Nx o],Le c⟩
theorem OK.range (A:CW V "range"=Ag)(z:UX C V O args ds)(H:bB ds=Ab d):OK C V O (.Call (.Name "range" q) args [] p) d:=⟨rfl,λ c=>.mk λ Q E s S=>by
 refine B3 (CF c.Gk S.F S.G A (.inr c.Gk.l9) (M7 (by rw[Bj p c.ah args z.1];exact On args) (z.fg S λ N s S k r=>?_)));rcases Vp H with⟨b,rfl,h,e⟩ |⟨a,b,rfl,h,e⟩
 ·obtain⟨v,rfl,o⟩:=r.k6;obtain⟨t,rfl⟩:=o.aj;refine call_range_1 (S.q _ _ _ (.push _ _) (BC (Bo _)) ?_);have:=tI.range (W:=c.W) (X:=c.X) (IsRange.new s.heap 0 b 1 s.toks t (s.toks+1)) h.1 (by rw[Int.sub_zero];exact h.2) (by decide) (Cw h.2 (by decide));rw[Int.sub_zero] at this;exact e▸this
 ·obtain⟨v,w,rfl,o,rw⟩:=r.kz;obtain⟨t,rfl⟩:=o.aj;obtain⟨u,rfl⟩:=rw.aj;exact call_range_2 (S.q _ _ _ (.push _ _) (Bo _) (e▸tI.range (IsRange.new s.heap _ _ 1 t u s.toks) h.1 h.2.1 h.2.2.1 h.2.2.2))⟩
end
set_option genInjectivity false
set_option genSizeOfSpec false
section
variable {β:Type}
noncomputable def NN (k:GE)(o:Bf)(s:A5)(h:List Expr)(b:Bool):Prop:=
 ∀c:Pt k o s,c.J (forIn h Ag λ t r=>if r=Ag then do let w <-isTrue t c.ah (eval t c.ah);pure (E3 w) else pure (E3 r)) λ z _=>z=b
theorem NN.nil:NN C V O [] Ag:=λ c=>.mk λ Q E s S=>Ar (S.out rfl)
theorem NN.bq (h:KW C V O e b):NN C V O [e] b:=λ c=>.mk λ Q E s S=>by
 rw[EF];refine Ac ?_;exact Ac ((h c).bl S λ v s S _ e=>Ar (Ar (S.out e)))
variable {xs:List PV}{it:Expr} in
structure KO (C:GE)(sc:Bf)(β:Type) where
 W:BV
 A:Dj
 ah:Env
 hb:AS
 Z:List Ai
 X:List Ai
 k:Nat
 mg:Str->Option Ae
 mb:Str->Option Ae
 I:Ai
 D:Ai
 xs:List PV
 St:Nat->AS->Prop
 Acc:List Ai->AS->List β->Prop
 Gk:EY W C k mg mb
 hA:CX k A
 ak:ZA D Acc
 ao:BA W W.h0 hb
 dl:W.di hb
 wr:∀a,Ea sc ah a->hb.get? a=Ah
 Df:D∉AV ah
 D0:hb.get? D=Ah
 DZ:D∈Z
 ZX:∀a∈Z,a∈X
 IX:I∉X
 If:I∉AV ah
 Ib:hb.get? I=Ah
 it:MX W A (I::X) I xs St
variable {tk:Nat}{st:Bq} in
structure CI (L:KO C V β)(s0:Aq)(i:Nat)(ρ:A5)(ds:List β)(s:Aq):Prop where
 F:FI L.W V L.ah (L.I::L.Z) (L.I::L.X) s.heap ρ
 st:L.St i s.heap
 le:BA L.W L.hb s.heap
 ck:L.Acc (L.I::L.X) s.heap ds
 kb:FV (λ b=>b=L.I\/b=L.D\/Ea V L.ah b) s0.heap s.heap
 tk:s0.toks<=s.toks
 t1:1<=s.toks
 eq:s={s0 with heap:=s.heap,toks:=s.toks}
variable {tk:Nat} in
structure CO (L:KO C V β)(s0:Aq)(ρ:A5)(ds:List β)(s:Aq):Prop where
 F:FI L.W V L.ah L.Z L.X s.heap ρ
 le:BA L.W L.hb s.heap
 ck:L.Acc L.X s.heap ds
 kb:FV (λ b=>b=L.I\/b=L.D\/Ea V L.ah b) s0.heap s.heap
 tk:s0.toks<=s.toks
 eq:s={s0 with heap:=s.heap,toks:=s.toks}
variable {L:KO C V β}{ds:List β}
theorem K0 (h:Ea V z a):a∈AV z:=h.elim (λ e=>e▸Ad) λ⟨_,_,e⟩=>Di e
theorem CI.gd (c:CI L a i O ds s):Gd L.W s:=⟨L.ao.trans c.le,c.le.2 L.dl,c.t1⟩
theorem CI.fp (c:CI L d i O ds s)(w:∀o,o.cls≠.type "frame"->o.cls≠.none->s.heap.get? L.I=Ab o->h.get? L.I=Ab o):∀o,s.heap.get? L.I=Ab o->h.get? L.I=Ab o:=λ o e=>by
 obtain⟨z,k,a,_,b,_⟩:=L.it.cj i _ c.st;exact w o (by obtain rfl:=A4 e k;exact b) (by obtain rfl:=A4 e k;exact a) e
theorem CI.dq {i g:Nat}{f:Aq}(c:CI L f i O ds s)(k:BA L.W s.heap h)(l:s.toks<=g):CI L f i O ds {s with heap:=h,toks:=g} where
 F:=c.F.ae k
 st:=L.it.frame _ _ _ c.st (c.fp λ o a b e=>k.keep e a b) λ b o _ e d=>D3 k e d
 le:=c.le.trans k
 ck:=L.ak.bi c.ck (λ b o e w d=>⟨k.keep e d.1 d.2,w⟩) λ o e=>by
  obtain⟨A,z,d⟩:=L.ak.obj c.ck;obtain rfl:=A4 e z;exact D3 k e d
 kb:=c.kb.trans k.bz
 tk:=Aa c.tk l
 t1:=Aa c.t1 l
 eq:=by rw[c.eq]
theorem CI.ec (c:CI L j i O ds s)(F:FI L.W V L.ah (L.I::L.Z) (L.I::L.X) h f)(z:BA L.W L.hb h)(l:s.toks<=m)(k:L.Acc (L.I::L.X) h g)(w:FV (λ b=>b=L.D\/Ea V L.ah b) s.heap h):
 CI L j i f g {s with heap:=h,toks:=m} where
 F:=F
 st:=L.it.frame _ _ _ c.st (c.fp λ o a b e=>w _ o (λ q=>q.elim (λ q=>L.IX (q▸L.ZX _ L.DZ)) λ q=>L.If (K0 q)) e a b) λ b o A e d=>w b o (λ q=>A (q.elim (λ q=>q▸Af _ (L.ZX _ L.DZ)) λ q=>c.F.zx b (c.F.bb b (K0 q)))) e d.cls.1 d.cls.2
 le:=z
 ck:=k
 kb:=c.kb.trans (w.weak λ _ q=>.inr q)
 tk:=Aa c.tk l
 t1:=Aa c.t1 l
 eq:=by rw[c.eq]
theorem CI.bj (c:CI L d i O ds s)(F:FI L.W V L.ah (L.I::L.Z) (L.I::L.X) h a)(S:Lr L.W (Ea V L.ah) s.heap h)(l:s.toks<=f):CI L d i a ds {s with heap:=h,toks:=f}:=
 c.ec F (S.j9 _ L.wr c.le) l (L.ak.bi c.ck (λ b o e k _=>⟨S.keep b o (λ q=>k (c.F.zx b (c.F.bb b (K0 q)))) e,k⟩) λ o e=>S.keep _ o (λ q=>L.Df (K0 q)) e) (S.bz.weak λ _ q=>.inr q)
theorem CI.step {i j tk:Nat}{d:Aq}(c:CI L d i O ds s)(k:BB L.I s.heap h)(st:L.St j h)(l:s.toks<=tk):CI L d j O ds {s with heap:=h,toks:=tk} where
 F:=c.F.ext k Ad L.If (by obtain⟨o,e,_⟩:=L.it.cj _ _ st;exact⟨o,e⟩)
 st:=st
 le:=c.le.ext L.Ib (λ o C z _=>by obtain⟨E,A,a,b,_⟩:=L.it.cj _ _ c.st;obtain rfl:=A4 z A;exact⟨a,b⟩) k
 ck:=L.ak.bi c.ck (λ b o e w _=>⟨k b o (λ q=>w (q▸Ad)) e,w⟩) λ o e=>k _ o (λ q=>L.IX (q▸L.ZX _ L.DZ)) e
 kb:=c.kb.trans λ b o w e _ _=>k b o (λ q=>w (.inl q)) e
 tk:=Aa c.tk l
 t1:=Aa c.t1 l
 eq:=by rw[c.eq]
theorem CI.own (c:CI L f i O ds s)(k:BK L.D s.heap h)(z:∃o,h.get? L.D=Ab o)(l:s.toks<=g)(w:L.Acc (L.I::L.X) h a):CI L f i O a {s with heap:=h,toks:=g}:=
 c.ec (c.F.ext k.extBut (Af _ L.DZ) L.Df z) (c.le.ext L.D0 (λ o H A _=>by
   obtain⟨N,C,d⟩:=L.ak.obj c.ck;obtain rfl:=A4 A C;rcases d with d |d |d<;>rw[d]<;>exact⟨nofun,by decide⟩) k.extBut) l w λ b o E e _ _=>(k.2 b λ q=>E (.inl q)).trans e
theorem CI.weak {a:A5}(c:CI L b i a ds s)(k:∀y h,O.lookup y=Ab h->a.lookup y=Ab h):CI L b i O ds s:={c with F:=c.F.aw k}
theorem CI.out (c:CI L d i O ds s)(k:BB L.I s.heap h)(l:s.toks<=f):CO L d O ds {s with heap:=h,toks:=f} where
 F:=c.F.bp k L.If L.IX L.ZX
 le:=c.le.ext L.Ib (λ o C z _=>by obtain⟨E,A,a,b,_⟩:=L.it.cj _ _ c.st;obtain rfl:=A4 z A;exact⟨a,b⟩) k
 ck:=L.ak.bi c.ck (λ b o e w _=>⟨k b o (λ q=>w (q▸Ad)) e,λ q=>w (Af _ q)⟩) λ o e=>k _ o (λ q=>L.IX (q▸L.ZX _ L.DZ)) e
 kb:=c.kb.trans λ b o w e _ _=>k b o (λ q=>w (.inl q)) e
 tk:=Aa c.tk l
 eq:=by rw[c.eq]
noncomputable def KO.pt (h:KO C V β)(k:A5):Pt C V k:=⟨h.W,h.A,h.ah,h.I::h.Z,h.I::h.X,h.k,h.mg,h.mb,h.Gk,h.hA⟩
theorem CI.go {a:Type}{t:Sem a}{R:a->AS->Prop}{b:a->Aq->Prop}(c:CI L d i O ds s)(j:(L.pt O).J t R)(o:∀v h,CI L d i O ds h->BA L.W s.heap h.heap->R v h.heap->b v h):Av L.W.M L.A t b E s:=
 j s c.F c.gd b E λ v _ _ k l r=>o v _ (c.dq k l) k r
theorem rL {a b c d e:List β}(h:a++b=c++d)(k:d.length<=e.length):a.length+b.length<=c.length+e.length:=by
 rw[<-AP,h,AP];exact A0 k _
theorem Wx (h:i<n):n+1-(i+1)<n+1-i:=FE (Gl h) (CH i)
noncomputable def KO.fy (h:KO C V β)(k:List Expr)(o:A5)(b:Bool):Prop:=∀s,FI h.W V h.ah (h.I::h.Z) (h.I::h.X) s.heap o->Gd h.W s->BA h.W h.hb s.heap->
 Dp h.W h.A (forIn k Ag λ t r=>if r=Ag then do let w <-isTrue t h.ah (eval t h.ah);pure (E3 w) else pure (E3 r)) s λ z _=>z=b
theorem CI.lu {a:Type}{t:Sem a}{R:a->AS->Prop}{b:a->Aq->Prop}(c:CI L d i O ds s)(j:Dp L.W L.A t s R)(o:∀v h,CI L d i O ds h->BA L.W s.heap h.heap->R v h.heap->b v h):Av L.W.M L.A t b E s:=
 j b E λ v _ _ k l r=>o v _ (c.dq k l) k r
variable {t:Expr}{y:Str}{ρ':A5} in
inductive Wq {β:Type}(sc:Bf)(target:Expr)(T:A5->Bool->Prop)(ρ:A5)(inner:A5->List β->Prop)(rss:List (List β))(i:Nat)(x:PV):Prop
 |mk (y:List β) (ρ':A5) (ok:Bool) (e:rss[i]? =Ab y) (b:Hf sc target x ρ=Ab ρ') (t:T ρ' ok) (k:if ok=Ag then inner ρ' y else y=[])
theorem KO.loop {R:Ev->Aq->Prop}{l:List Expr}(h:KO C V β){e:Expr}{g:List FM}{j:Ae->Env->Sem Unit}(G:OM e g j){d iter:Expr}{a:Nat}(hg:g[a]? =Ab ⟨d,iter,l,0⟩)
 (N:(FN d).all (λ x=>(O.lookup x).isNone)=Ag) {f:List (List β)} (A:A5->List β->Prop) {T:A5->Bool->Prop} (hT:∀o B,T o B->h.fy l o B)
 (hm:∀(i:Nat)(x:PV),h.xs[i]? =Ab x->Wq V d T O A f i x) (hl:f.length=h.xs.length)
 (I:∀o r,A o r->∀(s0 s:Aq)(i:Nat)(ds:List β)(Q:Iw->Aq->Prop)(E:I9)(K:Sem Iw),CI h s0 i o ds s->ds.length+r.length<=BX->
  (∀W,CI h s0 i o (ds++r) W->Av h.W.M h.A K Q E W)->Av h.W.M h.A (VQ e (j (.ref h.D) h.ah) g a (.ref h.D) h.ah K) Q E s)
  (c:CI h s 0 O ds s) (J:ds.length+f.flatten.length<=BX) (hR:∀W,CO h s O (ds++f.flatten) W->R (.ok .next) W):Ep h.W.M h.A (.compLoop e a (.ref h.I) (.ref h.D) h.ah) R s:=by
 refine codeAny_loop rfl (λ k W=>∃i,i<=h.xs.length/\k=h.xs.length+1-i/\CI h s i O (ds++(f.take i).flatten) W) (λ k W hI=>ML λ Q' E' M gE=>?_) (h.xs.length+1) ⟨0,AY _,rfl,by simpa using c⟩;obtain⟨i,hi,rfl,c⟩:=hI;have n:(h.W.M.den (.compLoop e a (.ref h.I) (.ref h.D) h.ah))=((compTurn e a (.ref h.I) (.ref h.D) h.ah).onRaise (λ x=>do UZ x h.ah;theTreesLotGoes x)):=by
  show(if(Code.compLoop e a (.ref h.I) (.ref h.D) h.ah).isFrame=Ag then _ else _)=_;rw[G.loop];rfl
 rw[n,G.fi];refine wpAny_noted ?_;rw[G.cu _ _ _ _ _ _ _ hg];refine Ac (AZ (Xw λ K hK=>?_));by_cases w:i<h.xs.length
 ·obtain⟨y,o,B,S,Z,U,D⟩:=hm i h.xs[i] (AA w);refine Cy (An _) (h.it.item i _ _ _ _ c.st (AA w) λ v p m rv H z L=>hK _ _ ?_);have c:=c.step z H L;refine Xw λ K hK=>h.it.dn (i+1) _ _ _ d v H (hK _ _ ?_);refine Xw λ K hK=>Cy (An _) (NK c.F h.hA.handled Z rv λ a0 Y q t u=>hK _ _ ?_);have c:=c.bj q t u;refine Xw λ K hK=>c.lu (hT o B U _ c.F c.gd c.le) λ b a1 c _ e=>hK _ _ ?_;have hf:=Wi Z N;have tk:(ds++(f.take i).flatten)++y=ds++(f.take (i+1)).flatten:=by simp only[Sa S,BQ]
  subst e;cases b with
  |false=>
   refine KB (VO (Ar (M _ _ ⟨rfl,h.xs.length+1-(i+1),Wx w,i+1,w,rfl,?_⟩)));have D:=D;rw[<-tk,D,DV];exact c.weak hf
  |true=>
   exact KB (P3 (I o y D _ _ _ _ _ _ _ c (Aa (rL tk (OT f (i+1))) J) λ W c=>Ar (M _ _ ⟨rfl,h.xs.length+1-(i+1),Wx w,i+1,w,rfl,tk▸c.weak hf⟩)))
 ·have:=EI hi (B6.mp w);subst this;refine Cy (An _) (h.it.done _ _ _ c.st λ p m z L=>hK _ _ (Ar (M _ _ (hR _ ?_))));simp only[EO (Az hl)] at c;exact c.out z L
end
set_option genInjectivity false
set_option genSizeOfSpec false
section
theorem Hp (k:BA W h H)(e:H.get? a=Ah):h.get? a=Ah:=by
 exact BA.bh k e
theorem DJ (e:h.get? a=Ah)(f:∃o,h.get? b=Ab o):b≠a:=λ q=>by obtain⟨o,f⟩:=f;rw[q,e] at f;cases f
theorem Os {a:Bf}(h:Eg V a=Ag):a.kind=.function/\∀x∈a.names,x.2=.local->a.names.lookup x.1=Ab .local:=by
 unfold Eg at h;rw[AG,AG] at h;refine⟨BO h.1.1,λ x s w=>?_⟩;have k:∀(l:List (Str×Gs)),(l.map (·.1)).Nodup->x∈l->l.lookup x.1=Ab x.2:=λ l=>by
  induction l with
  |nil=>intro _ h;cases h
  |cons p r z=>
   intro o A;rw[Bu,Bz] at o;rcases Al.mp A with q |q
   ·rw[q];exact AC
   ·exact(AI λ e=>o.1 (AF.mpr ⟨x,q,e⟩)).trans (z o.2 q)
 rw[k _ (of_decide_eq_true h.1.2) s,w]
theorem PH:a∈I::(Y++D::Z)↔a∈Y++D::I::Z:=by
 simp only[Al,AK];exact⟨λ q=>q.elim (λ q=>.inr (.inr (.inl q))) λ q=>q.elim .inl λ q=>.inr (q.imp id .inr),λ q=>q.elim (λ q=>.inr (.inl q)) λ q=>q.elim (λ q=>.inr (.inr (.inl q))) λ q=>q.imp id λ q=>.inr (.inr q)⟩
end
section
variable {β:Type}
theorem Ln (c:Pt C V O){g:FM}{j:Ae->Env->Sem Unit}(ce:OM e (g::p) j)(a8:g.is_async=0)
 {Acc:BV->Ai->List Ai->AS->List β->Prop} (ak:∀W D,ZA D (Acc W D)) {oN:Obj} (c2:oN.isFreed=Au)
 (a9:∀(M:Dq)(A:Dj)(s:Aq)(Q:I9)(E:I9),Q (.ref s.heap.objs.size) {s with heap:=s.heap.push oN}->Av M A f Q E s) (a4:∀W D X h,h.get? D=Ab oN->Acc W D X h [])
  (B:Eg V d=Ag) (b0:OK C V O g.iter n)
  (run:∀(L:KO C d β),L.Acc=Acc L.W L.D->L.xs=n->(∀F:BV->Dj->AS->Prop,F c.W c.A s.heap->F L.W L.A L.hb)->∀(s:Aq)(R:Ev->Aq->Prop),CI L s 0 (Bp d O) [] s->(∀s',CO L s (Bp d O) rs s'->R (.ok .next) s')->Ep L.W.M L.A (.compLoop e 0 (.ref L.I) (.ref L.D) L.ah) R s)
 (F:FI c.W V c.ah c.Z c.X s.heap O) (G:Gd c.W s) {i:Option (Ae->Sem Unit)}
 (hQ:∀(D b1:Ai)(J:AS)(tk:Nat)(m:Str->Option Ae),s.heap.get? D=Ah->s.heap.get? b1=Ah->D≠b1->D∉c.X->BA c.W s.heap J->s.toks<=tk->J.Ns b1 m->Acc c.W D (b1::c.X) J rs->
  Jz c.W.M c.A E i Q (.ref D) b1 (.ok .next) {s with heap:=J,toks:=tk}):
 Av c.W.M c.A (Mk e d c.ah l f Au (eval g.iter c.ah) i) Q E s:=by
 obtain⟨cl,b2,_⟩:=TV (A:=c.A) (E:=E) (Q:=λ _ _=>True) F G.ao B (λ _ _ _ _ _ _ _ _=>trivial);refine wpAny_comprehension_free ce.dc (LK b0.1 c.ah) b2 (Os B).1 (Os B).2 (b0.2 c s F G _ _ λ x S u w T itb=>?_);refine Ha itb λ I z hI a5 a6 b3=>a9 _ _ _ _ _ ?_;have N:=F.ae w;have H:BA c.W S z:=.af a6;have hD:=Ch z;have Z:=AD z c2;have r:BA c.W z (z.push oN):=.push _ _;have b4:=(N.fresh (G.ao.trans w) H hI a5).fresh ((G.ao.trans w).trans H) r hD ⟨_,Z⟩;have b5:=((G.ao.trans w).trans H).trans r;have k3:=(w.trans H).trans r;generalize c8:z.objs.size=D at*;generalize c3:z.push oN=t at*;have c4:∀(k:Env) J Y,FI c.W d {k with scope:=NU d c.ah} (Y++D::I::c.Z) (Y++D::I::c.X) J (Bp d O)->(∀b o,t.get? b=Ab o->J.get? b=Ab o)->(∀a∈Y,t.get? a=Ah)->
  (∀a,Ea d {k with scope:=NU d c.ah} a->a∈Y)->(∀a∈AV {k with scope:=NU d c.ah},a∈Y\/a∈AV c.ah)->
  Ep c.W.M c.A (.compStart e 0 (.ref I) (.ref D) {k with scope:=NU d c.ah}) (Jz c.W.M c.A E i Q (.ref D) k.locals) {s with heap:=J,toks:=u}:=λ k U Y b6 y hY b7 b8=>by
  have a0:BA c.W t U:=.af y;have b9:I∉c.X:=λ q=>DJ hI (N.alive I q).2 rfl;have v:=BJ r a5;have c5:=DJ hD a5;have nY:∀{a},(∃o,t.get? a=Ab o)->a∉Y:=λ e q=>DJ (hY _ q) e rfl;have c6:D∉c.X:=λ q=>DJ hD ((N.ae H).alive D q).2 rfl;obtain⟨St,st,a1⟩:=MX.of (A:=c.A) ((((((b3 b9).be hD).ae r).ay (Y:=Y) hY).ae a0).ai λ a ha=>PH.mp ha) Ad c.hA.handled;have a2:∀a∈AV c.ah,∃o,S.get? a=Ab o:=λ a ha=>(N.alive a (N.zx a (N.bb a ha))).2;have c0:=Hp (w.trans H) hD;have a7:=b7 _ (.inl rfl)
  let L:KO C d β:={
   W:=c.W,A:=c.A,ah:={k with scope:=NU d c.ah},hb:=s.heap,Z:=Y++D::c.Z,X:=Y++D::c.X,k:=c.k,mg:=c.mg,mb:=c.mb,I:=I,D:=D,xs:=n,St:=St,Acc:=Acc c.W D
   Gk:=c.Gk,hA:=c.hA,ak:=ak c.W D,ao:=G.ao,dl:=G.dl
   wr:=λ a ha=>Hp k3 (hY a (b7 a ha))
   Df:=λ q=>(b8 _ q).elim (λ q=>nY ⟨_,Z⟩ q) λ q=>DJ hD (BJ H (a2 D q)) rfl
   D0:=c0
   DZ:=AK.mpr (.inr Ad)
   ZX:=λ a ha=>(AK.mp ha).elim (λ q=>AK.mpr (.inl q)) λ q=>AK.mpr (.inr ((Al.mp q).elim (λ q=>q▸Ad) λ q=>Af _ (F.zx a q)))
   IX:=λ q=>(AK.mp q).elim (nY v) λ q=>(Al.mp q).elim c5 b9
   If:=λ q=>(b8 I q).elim (nY v) λ q=>DJ hI (a2 I q) rfl
   Ib:=Hp w hI
   it:=a1}
  have a3:Ep c.W.M c.A (.compLoop e 0 (.ref I) (.ref D) {k with scope:=NU d c.ah}) (Jz c.W.M c.A E i Q (.ref D) k.locals) {s with heap:=U,toks:=u}:=
   run L rfl rfl (λ F h=>h) _ _ ⟨b6.congr (λ a=>PH) (λ a=>PH),st,k3.trans a0,a4 _ _ _ _ (y _ _ Z),.refl,An _,Aa G.toks T,rfl⟩ λ s' o=>by
    obtain⟨m,hn,_⟩:=o.F.ns;rw[o.eq];refine hQ D k.locals _ _ m c0 (Hp k3 (hY _ a7)) (λ q=>nY ⟨_,Z⟩ (q▸a7)) c6 o.le (Aa T o.tk) hn ((ak c.W D).bi o.ck (λ b o e nb _=>⟨e,λ q=>nb ?_⟩) λ _ e=>e);exact(Al.mp q).elim (λ q=>q▸AK.mpr (.inl a7)) λ q=>AK.mpr (.inr (Af _ q))
  exact Ml ce rfl a8 a3 (a1.self 0 _ _ _ st a3)
 obtain⟨c7,c1,hw⟩:=TV (s:={s with heap:=t,toks:=u})
  b4 b5 B c4
 exact(Sem.pure.inj (c1.symm.trans b2):c7=cl)▸hw
end
set_option genInjectivity false
set_option genSizeOfSpec false
section
variable {β:Type}{L:KO C V β}{ds:List β}
theorem Zb {b:KO C V PV}{e:List PV}(w:b.Acc=Zz b.W b.D)(c:CI b j i O e s)(L:Dc C V O f d)(N:e.length+1<=BX){g:Unit->Aq->Prop}
 (Q:∀z,CI b j i O (e++[d]) z->g () z):Av b.W.M b.A (NG f (.ref b.D) b.ah) g E s:=
 Ac (c.go (L (b.pt O)) λ v s c _ W=>by
  have a:=c.ck;rw[w] at a;obtain⟨l,n,Z,A⟩:=a;refine Ac (Kn Z (Aa (Az A.length) (CM N)) λ H o h k=>Ar (Q _ (c.own k ⟨_,h⟩ (An _) ?_)));rw[w];have:=(A.append (RpL.bq W)).az k (Af _ (b.ZX _ b.DZ));exact⟨_,o,h,by simpa using this⟩)
theorem Zc {b:KO C V (Str×PV)}{e:List (Str×PV)}(z:b.Acc=Wt b.W b.D)(c:CI b l i O e s)(Q:Dc C V O f (.str x))(W:Dc C V O g d)(Z:e.length+1<=BX){j:Unit->Aq->Prop}
 (m:∀A,CI b l i O (e++[(x,d)]) A->j () A):Av b.W.M b.A (Lm f g (.ref b.D) b.ah) j E s:=
 Ac (c.go (Q (b.pt O)) λ v s c _ n=>Ac (Br (c.go (W (b.pt O)) λ w s c hk p=>by
  obtain⟨t,rfl,_⟩:=n.aj;have a:=c.ck;rw[z] at a;obtain⟨q,r,h,u⟩:=a;have k:=MO e;have y:=FR;refine Ac (AZ (Br (wpAny_dictSet_pairs (knd:=b.W.K) (k:=x) (by simp[BV.K,KD,Value.isStrOf]) r (λ H L N=>m _ (c.own N (by obtain⟨o,_,_,B,_⟩:=L;exact⟨o,B⟩) (Bo _) ?_)) (Aa (Az (by simpa using congrArg BP h)) (Aa k (Aa (CM Z) y))))));have h:=LA (k:=x) h u p;rw[z];exact⟨_,L,by rw[Ki];exact h.1,by rw[Ki];exact h.2.az N (Af _ (b.ZX _ b.DZ))⟩)))
noncomputable def iJ (Acc:BV->Ai->List Ai->AS->List β->Prop)(A:GE)(C:Bf)(h:Ae->Env->Sem Unit)(o:A5)(d:β):Prop:=
 ∀(L:KO A C β),L.Acc=Acc L.W L.D->∀w i k s,CI L w i o k s->k.length+1<=BX->∀(Q:Unit->Aq->Prop)(E:I9),(∀z,CI L w i o (k++[d]) z->Q () z)->Av L.W.M L.A (h (.ref L.D) L.ah) Q E s
theorem iJ.list (h:Dc C V O a d):iJ Zz C V (NG a) O d:=λ L o _ _ _ _ c s _ _ k=>Zb o c h s k
theorem iJ.dict (h:Dc C V O a (.str x))(o:Dc C V O b d):iJ Wt C V (Lm a b) O (x,d):=λ L s _ _ _ _ c w _ _ k=>Zc s c h o w k
variable {Acc:BV->Ai->List Ai->AS->List β->Prop}
noncomputable def KO.Em (h:KO C V β)(k:Ae->Env->Sem Unit)(w:A5)(d:β):Prop:=
 ∀z i o s,CI h z i w o s->o.length+1<=BX->∀(Q:Unit->Aq->Prop)(E:I9),(∀A,CI h z i w (o++[d]) A->Q () A)->Av h.W.M h.A (k (.ref h.D) h.ah) Q E s
noncomputable def pP (w:Bf)(T:A5->Bool->Prop)(P:A5->β->Prop)(t:Expr)(o:A5)(s:List PV)(z:List β):Prop:=
 (FN t).all (λ x=>(o.lookup x).isNone)=Ag/\∃h:List (List β),h.length=s.length/\z=h.flatten/\
  ∀(i:Nat)(x:PV),s[i]? =Ab x->Wq w t T o (λ k y=>∃d,P k d/\y=[d]) h i x
theorem KO.dz {R:Ev->Aq->Prop}{f:Ae->Env->Sem Unit}(o:KO C V β)(H:OM e b f)(L:b[a]? =Ab ⟨t,l,g,0⟩)(N:b[a+1]? =Ah){j:List β}
 {T:A5->Bool->Prop} {P:A5->β->Prop} (W:∀h A,T h A->o.fy g h A) (hP:∀h d,P h d->o.Em f h d) (Z:pP V T P t O o.xs j) (c:CI o s 0 O ds s) (z:ds.length+j.length<=BX) (m:∀w,CO o s O (ds++j) w->R (.ok .next) w):Ep o.W.M o.A (.compLoop e a (.ref o.I) (.ref o.D) o.ah) R s:=by
 obtain⟨n,p,q,rfl,u⟩:=Z;refine o.loop H L n (λ h y=>∃d,P h d/\y=[d]) W u q (λ h r v x s i ds Q E K c z k=>?_) c z m;obtain⟨d,B,rfl⟩:=v;unfold VQ;rw[N];exact Ac (hP h d B x i ds s c z _ _ λ w c=>k w c)
theorem KO.ko (k:KO C V β)(h:A5)(o:Bool)(t:NN C V h a o):k.fy a h o:=λ s F G _=>t (k.pt h) s F G
theorem KO.ew {R:Ev->Aq->Prop}{d:Ae->Env->Sem Unit}(h:KO C V β)(z:h.Acc=Acc h.W h.D)(A:OM e b d)(E:b[a]? =Ab ⟨t,i,f,0⟩)(H:b[a+1]? =Ah){g:List β}
 (k:pP V (λ o L=>NN C V o f L) (iJ Acc C V d) t O h.xs g) (c:CI h s 0 O ds s) (N:ds.length+g.length<=BX) (Q:∀w,CO h s O (ds++g) w->R (.ok .next) w):Ep h.W.M h.A (.compLoop e a (.ref h.I) (.ref h.D) h.ah) R s:=
 h.dz A E H h.ko (λ _ _ k=>k h z) k c N Q
variable {xs:List PV}{it:Expr} in
noncomputable def KO.sub (h:KO C V β){J:Ai}{b:List PV}{St:Nat->AS->Prop}(k:J∉h.I::h.X)(o:J∉AV h.ah)(s:h.hb.get? J=Ah)(w:MX h.W h.A (J::h.I::h.X) J b St):KO C V β:=
 {h with Z:=h.I::h.Z,X:=h.I::h.X,I:=J,xs:=b,St:=St,DZ:=Af _ h.DZ,ZX:=λ a z=>(Al.mp z).elim (λ q=>q▸Ad) λ q=>Af _ (h.ZX a q),IX:=k,If:=o,Ib:=s,it:=w}
noncomputable def z7 (s:GE)(o:Bf)(P:A5->β->Prop)(t1 w L:Expr)(z:List Expr)(C:A5)(E:List PV)(N:List β):Prop:=
 (FN t1).all (λ x=>(C.lookup x).isNone)=Ag/\∃k:List (List β),k.length=E.length/\N=k.flatten/\
  ∀(i:Nat)(x:PV),E[i]? =Ab x->Wq o t1 (λ h A=>NN s o h [] A) C (λ h y=>∃H,OK s o h w H/\pP o (λ h A=>NN s o h z A) P L h H y) k i x
theorem KO.lc {R:Ev->Aq->Prop}{a:Ae->Env->Sem Unit}(h:KO C V β)(hL:h.Acc=Acc h.W h.D)(B:OM e [⟨t1,j,[],0⟩,⟨l,f,g,0⟩] a){m:List β}
 (a0:z7 C V (iJ Acc C V a) t1 f l g O h.xs m) (c:CI h s 0 O ds s) (D:ds.length+m.length<=BX) (hR:∀L,CO h s O (ds++m) L->R (.ok .next) L):Ep h.W.M h.A (.compLoop e 0 (.ref h.I) (.ref h.D) h.ah) R s:=by
 obtain⟨hf,a1,hl,rfl,hm⟩:=a0;refine h.loop B rfl hf (λ A y=>∃G,OK C V A f G/\pP V (λ A ok=>NN C V A g ok) (iJ Acc C V a) l A G y) h.ko hm hl (λ A r hr s0 s i ds Q E K c D k=>?_) c D hR;obtain⟨G,p,hg⟩:=hr;refine Ac (c.go (p.2 (h.pt A)) λ v w c U itb=>Ac (AZ (KB (VO (Ac (EG (LK p.1 h.ah v) (Ac (Br ?_))))))));refine Ha itb λ J z t I H u=>Ac (NQ ?_);have n:J∉h.I::h.X:=λ q=>DJ t (c.F.alive J q).2 rfl;obtain⟨St,st,N⟩:=MX.of (u n) Ad h.hA.handled;have W:BA h.W w.heap z:=.af H;have Y:=c.dq W (An _)
 let M:=h.sub n (λ q=>n (c.F.zx _ (c.F.bb _ q))) (Hp c.le t) N
 have cM:CI M {w with heap:=z} 0 A ds {w with heap:=z}:=⟨c.F.fresh c.gd.ao W t I,st,Y.le,h.ak.bi c.ck (λ b o e S d=>⟨H _ _ e,λ q=>(Al.mp q).elim (λ q=>DJ t ⟨o,e⟩ q) S⟩) λ _ e=>H _ _ e,.refl,An _,Y.t1,rfl⟩;have x:∀{R':Ev->Aq->Prop},(∀L,CO M {w with heap:=z} A (ds++r) L->R' (.ok .next) L)->Ep h.W.M h.A (.compLoop e 1 (.ref J) (.ref h.D) h.ah) R' {w with heap:=z}:=λ T=>
  M.ew hL B rfl rfl hg cM D T
 have Z:∀L,CO M {w with heap:=z} A (ds++r) L->Av h.W.M h.A K Q E L:=λ L o=>by
  rw[o.eq];refine k _ (c.ec o.F o.le o.tk o.ck λ b ob S e h1 h2=>o.kb b ob (λ q=>q.elim (λ q=>DJ t ⟨ob,e⟩ q) S) (H _ _ e) h1 h2)
 rw[Oc];exact Ml B rfl rfl (x Z) (N.self 0 _ _ _ st (x Z))
end
section
variable {β:Type}{P:A5->β->Prop}
theorem pP.of {b:Type}{l:List b}{g:b->PV}{T:A5->Bool->Prop}{q:b->Bool}{f:b->β}(z:(FN t).all (λ x=>(O.lookup x).isNone)=Ag)
 (o:∀a∈l,∃h,Hf V t (g a) O=Ab h/\T h (q a)/\(q a=Ag->P h (f a))):pP V T P t O (l.map g) ((l.filter q).map f):=by
 refine⟨z,l.map λ a=>if q a=Ag then[f a] else[],by rw[Aj,Aj],?_,λ i x s=>?_⟩
 ·clear o;induction l with
  |nil=>rfl
  |cons a r A=>
   simp only[Bu,List.flatten_cons,FH,<-A];cases q a<;>rfl
 ·rw[Bk] at s;obtain⟨a,w,rfl⟩:=Bl.mp s;obtain⟨h,C,E,H⟩:=o a (Cp w);refine⟨_,h,q a,by rw[Bk,w];rfl,C,E,?_⟩;cases k:q a with
  |false=>simp only[k];rfl
  |true=>exact⟨_,H k,if_pos k⟩
theorem z7.of {c e:Type}{l:List c}{g:c->PV}{g2:e->PV}{j:c->List e}{q:c->e->Bool}{f:c->e->β}(z:(FN t1).all (λ x=>(O.lookup x).isNone)=Ag)
 (A:∀a∈l,∃h,Hf V t1 (g a) O=Ab h/\OK C V h d ((j a).map g2)/\(FN m).all (λ x=>(h.lookup x).isNone)=Ag/\∀b∈j a,∃k,Hf V m (g2 b) h=Ab k/\NN C V k n (q a b)/\(q a b=Ag->P k (f a b))):
 z7 C V P t1 d m n O (l.map g) (l.flatMap λ a=>((j a).filter (q a)).map (f a)):=by
 refine⟨z,l.map λ a=>((j a).filter (q a)).map (f a),by rw[Aj,Aj],List.flatMap_def ..,λ i x s=>?_⟩;rw[Bk] at s;obtain⟨a,w,rfl⟩:=Bl.mp s;obtain⟨o,E,H,N,Q⟩:=A a (Cp w);exact⟨_,o,Ag,by rw[Bk,w];rfl,E,.nil,_,H,.of N Q⟩
inductive ED (C:GE)(sc:Bf)(ρ:A5)(e:Expr)(d:PV):Prop
 |mk (sem:Env->Option (Ae->Sem Unit)->Sem Ae) (h1:∀ah,eval e ah=sem ah Ah) (h2:∀ah u,evalThenUse e ah u=do let _ <-sem ah (Ab u)) (h3:∀line ah x q,∃b,Dk [.Name x q] e line ah=pure b)
  (h4:∀(c:Pt C sc ρ)(s:Aq),FI c.W sc c.ah c.Z c.X s.heap ρ->Gd c.W s->∀(use:Option (Ae->Sem Unit))(Q:I9)(E:I9),
   (∀(D V:Ai)(h':AS)(tk:Nat)(m:Str->Option Ae),s.heap.get? D=Ah->s.heap.get? V=Ah->BA c.W s.heap h'->s.toks<=tk->h'.Ns V m->Rp c.W (V::c.X) h' (.ref D) d->Jz c.W.M c.A E use Q (.ref D) V (.ok .next) {s with heap:=h',toks:=tk})->
   Av c.W.M c.A (sem c.ah use) Q E s)
theorem ED.ev (h:ED C V O e d):Dc C V O e d:=λ c s F G Q E o=>by
 obtain⟨w,z,_,_,h⟩:=h;rw[z];exact h c s F G Ah Q E λ D N W Z m _ A k l H r=>Rl A k l H r o
end
section
theorem T8 {i:List PV}(u:Eg V a=Ag)(w:OK C V O f j)(v:i.length<=BX)
 (run:∀(L:KO C a PV),L.Acc=Zz L.W L.D->L.xs=j->∀(s:Aq)(R:Ev->Aq->Prop),CI L s 0 (Bp a O) [] s->(∀Z,CO L s (Bp a O) i Z->R (.ok .next) Z)->Ep L.W.M L.A (.compLoop (.ListComp b (⟨t,f,d,0⟩::g) a p) 0 (.ref L.I) (.ref L.D) L.ah) R s):
 ED C V O (.ListComp b (⟨t,f,d,0⟩::g) a p) (.list i):=
 ⟨λ k o=>Mk (.ListComp b (⟨t,f,d,0⟩::g) a p) a k (firstIterPos (⟨t,f,d,0⟩::g) p) (newList []) Au (eval f k) o,λ _=>rfl,λ _ _=>rfl,λ _ _ _ _=>⟨_,rfl⟩,λ c s F G o Q E y=>
  Ln c (GP b _ a p) rfl (Acc:=Zz) (λ W D=>wJ D) rfl (λ M A s Q E B=>B2 B) (λ W D X h e=>⟨#[],0,e,.nil⟩) u w (λ L I J _=>run L I J) F G λ D S T U m Y hV z H N l hn x=>by
   obtain⟨vs,n,e,r⟩:=x;exact y D S T U m Y hV N l hn (.list e (λ q=>(Al.mp q).elim z H) (Aa (Az r.length) v) r)⟩
theorem SE (h:EY W C k mg mb)(G:Gd W s)(w:s.heap.get? a=Ah):(a==NT)=Au:=by
 cases q:a==NT with
 |false=>rfl
 |true=>obtain⟨o,z⟩:=BJ G.ao h.l8;simp only[<-BO q,w] at z;contradiction
theorem fZ {j:List (Str×PV)}(v:Eg V a=Ag)(w:OK C V O d n)(y:j.length<=BX)
 (run:∀(L:KO C a (Str×PV)),L.Acc=Wt L.W L.D->L.xs=n->∀(s:Aq)(R:Ev->Aq->Prop),CI L s 0 (Bp a O) [] s->(∀Z,CO L s (Bp a O) j Z->R (.ok .next) Z)->Ep L.W.M L.A (.compLoop (.DictComp f g (⟨t,d,b,0⟩::i) a p) 0 (.ref L.I) (.ref L.D) L.ah) R s):
 ED C V O (.DictComp f g (⟨t,d,b,0⟩::i) a p) (.dict (Zd j)):=
 ⟨λ k o=>Mk (.DictComp f g (⟨t,d,b,0⟩::i) a p) a k (firstIterPos (⟨t,d,b,0⟩::i) p) newDict Au (eval d k) o,λ _=>rfl,λ _ _=>rfl,λ _ _ _ _=>⟨_,rfl⟩,λ c s F G o Q E B=>
  Ln c (Kj f g _ a p) rfl (Acc:=Wt) (λ W D=>tC D) rfl (λ M A s Q E I=>B2 I) (λ W D X h e=>⟨[],⟨_,#[],0,e,⟨rfl,rfl,rfl⟩,rfl,λ _ J=>by simp at J,Pairs.nil,List.nodup_nil⟩,rfl,.nil⟩) v w (λ L S T _=>run L S T) F G λ D U Y tk m u hV z H N l hn x=>by
   obtain⟨a0,e,q,r⟩:=x;exact B D U Y tk m u hV N l hn (.dict e (λ q=>(Al.mp q).elim z H) (SE c.Gk G u) (Aa (Az (by simpa using congrArg BP q)) (Aa (MO j) y)) q r)⟩
theorem ED.T {i:Type}{l:List i}{g:i->PV}(q:i->Bool)(f:i->PV)(o:OK C V O n (l.map g))(w:Eg V d=Ag)(z:(FN t).all (λ x=>((Bp d O).lookup x).isNone)=Ag)
 (A:∀a∈l,∃h,Hf d t (g a) (Bp d O)=Ab h/\NN C d h j (q a)/\(q a=Ag->Dc C d h m (f a))) (E:l.length<=BX):ED C V O (.ListComp m [⟨t,n,j,0⟩] d p) (.list ((l.filter q).map f)):=
 have k:=Aj f▸Aa (AW q l) E
 T8 w o k λ L H N s R c Q=>L.ew H (GP ..) rfl rfl (N▸.of z λ a W=>by obtain⟨h,a,b,e⟩:=A a W;exact⟨h,a,b,λ q=>.list (e q)⟩) c (Aa (Az (Cs _)) k) Q
theorem ED.M {c:Type}{l:List c}{g:c->PV}(f:c->PV)(k:OK C V O e (l.map g))(o:Eg V b=Ag)(s:(FN t).all (λ x=>((Bp b O).lookup x).isNone)=Ag)
 (w:∀a∈l,∃h,Hf b t (g a) (Bp b O)=Ab h/\Dc C b h d (f a)) (z:l.length<=BX):ED C V O (.ListComp d [⟨t,e,[],0⟩] b p) (.list (l.map f)):=by
 have:=ED.T (p:=p) (λ _=>Ag) f k o s (λ a A=>by obtain⟨h,E,H⟩:=w a A;exact⟨h,E,.nil,λ _=>H⟩) z;rwa[Jk.mpr λ _ _=>rfl] at this
theorem ED.D {f:Type}{l:List f}{g:f->PV}(o:f->Str)(w:f->PV)(z:OK C V O m (l.map g))(A:Eg V d=Ag)(E:(FN t).all (λ x=>((Bp d O).lookup x).isNone)=Ag)
 (H:∀a∈l,∃h,Hf d t (g a) (Bp d O)=Ab h/\Dc C d h i (.str (o a))/\Dc C d h j (w a)) (N:l.length<=BX):ED C V O (.DictComp i j [⟨t,m,[],0⟩] d p) (.dict (Zd (l.map λ a=>(o a,w a)))):=
 have k:=Aj (λ a=>(o a,w a))▸N
 fZ A z k λ L Q W s R c Z=>L.ew Q (Kj ..) rfl rfl (W▸by
  have:=pP.of (T:=λ h n=>NN C d h [] n) (P:=iJ Wt C d (Lm i j)) E λ a q=>by obtain⟨h,a,b,e⟩:=H a q;exact⟨h,a,.nil,λ _=>.dict b e⟩
  rwa[Jk.mpr λ _ _=>rfl] at this) c (Aa (Az (Cs _)) k) Z
theorem ED.T2 {j r:Type}{l:List j}{g:j->PV}{g2:r->PV}(o:j->List r)(q:j->r->Bool)(f:j->r->PV)(w:OK C V O m (l.map g))(A:Eg V i=Ag)(E:(FN t1).all (λ x=>((Bp i O).lookup x).isNone)=Ag)
 (H:∀a∈l,∃h,Hf i t1 (g a) (Bp i O)=Ab h/\OK C i h n ((o a).map g2)/\(FN t).all (λ x=>(h.lookup x).isNone)=Ag/\∀b∈o a,∃k,Hf i t (g2 b) h=Ab k/\NN C i k u (q a b)/\(q a b=Ag->Dc C i k v (f a b)))
 (z:(l.flatMap λ a=>((o a).filter (q a)).map (f a)).length<=BX):ED C V O (.ListComp v [⟨t1,m,[],0⟩,⟨t,n,u,0⟩] i p) (.list (l.flatMap λ a=>((o a).filter (q a)).map (f a))):=
 T8 A w z λ L N Q s R c W=>L.lc N (GP ..) (Q▸.of E λ a Z=>by obtain⟨h,a,b,d,e⟩:=H a Z;exact⟨h,a,b,d,λ y B=>by obtain⟨k,a,b,e⟩:=e y B;exact⟨k,a,b,λ q=>.list (e q)⟩⟩) c (Aa (Az (Cs _)) z) W
end
structure FY (W:BV)(A:Dj)(sc:Bf)(ah:Env)(hb:AS)(t:Sem FB)(ρ:A5)(fl:Fl):Prop where
 go:∀(Z X:List Ai)(s:Aq)(Q:FB->Aq->Prop)(E:I9),XS W sc ah hb Z X s ρ->Ky W sc ah hb Z X s fl Q->Av W.M A t Q E s
section
variable {S:Nat}{q:Pos} in
structure ST (W:BV)(sc:Bf)(ah:Env)(hb:AS)(Z X:List Ai)(ρ:A5)(fl:Fl)(Q:FB->Aq->Prop)(s:Aq):Prop where
 S:XS W sc ah hb Z X s ρ
 q:Ky W sc ah hb Z X s fl Q
theorem FY.mk' (h:∀Z X Q E s,ST W V z N Z X O a Q s->Av W.M A t Q E s):FY W A V z N t O a:=⟨λ Z X s Q E S q=>h Z X Q E s ⟨S,q⟩⟩
theorem FY.run (h:FY W A V z N t O b){a:FB->Aq->Prop}(T:ST W V z N Z X O b a s):Av W.M A t a E s:=h.go _ _ _ _ _ T.S T.q
variable {Q:FB->Aq->Prop}
theorem ST.aq (T:ST W V z N Z X O a Q s)(k:BA W s.heap h)(l:s.toks<=b):ST W V z N Z X O a Q {s with heap:=h,toks:=b}:=⟨T.S.ae k l,T.q.aq k.ap l⟩
theorem ST.next (T:ST W V z N Z X O (.next O) Q s):Q .next s:=T.q s.heap s.toks T.S .refl (An _)
theorem ST.kt {α:Type}{t:Sem α}{R:Pt C V O->α->AS->Prop}(T:ST W V z N Z X O b Q s)(w:EY W C k mg mb)(H:CX k A)(B:XB W V z N)(j:∀c:Pt C V O,c.ah=z->c.W=W->c.A=A->c.J (α:=α) t (R c)){a:α->Aq->Prop}
 (k:∀v o,ST W V z N Z X O b Q o->BA W s.heap o.heap->R ⟨W,A,z,Z,X,k,mg,mb,w,H⟩ v o.heap->a v o):Av W.M A t a E s:=
 j ⟨W,A,z,Z,X,_,mg,mb,w,H⟩ rfl rfl rfl s T.S.F (T.S.gd B) a E λ v h e d l r=>k v _ (T.aq d l) d r
end
section
variable {Q:FB->Aq->Prop}
theorem ST.ev (H:EY W C k mg mb)(c:CX k A)(B:XB W V z N)(T:ST W V z N Z X O b Q s)(o:Dc C V O e d)(k:∀v h,ST W V z N Z X O b Q h->BA W s.heap h.heap->Rp W X h.heap v d->a v h):Av W.M A (eval e z) a E s:=
 o ⟨W,A,z,Z,X,_,mg,mb,H,c⟩ s T.S.F (T.S.gd B) a E λ v o f w l r=>k v _ (T.aq w l) w r
theorem ST.ts (w:EY W C k mg mb)(H:CX k A)(B:XB W V z N)(T:ST W V z N Z X O c Q s)(h:KW C V O e b){a:Bool->Aq->Prop}(j:∀o,ST W V z N Z X O c Q o->a b o):Av W.M A (isTrue e z (eval e z)) a E s:=
 h ⟨W,A,z,Z,X,_,mg,mb,w,H⟩ s T.S.F (T.S.gd B) a E λ v h f d l r=>r▸j _ (T.aq d l)
theorem Pw {c:Pos}(g:EY W C k mg mb)(f:CX k A)(B:XB W V z N)(i:Dc C V O v d)(H:GB V t d O=Ab b)(j:W5 t=Ag)(hw:Dk [t] v c.line z=pure Au)(e:swappedStores [t] v z=pure Ah):FY W A V z N (exec (.Assign [t] v c) z) O (.next b):=.mk' λ Z X Q E s T=>
 Cz j hw e (T.ev g f B i λ v s T k r=>GR f.handled B T.S H r λ o h w St l=>T.q o h w (St.ap λ a m=>T.S.F.br m) l)
theorem Bw (h:EY W C k mg mb)(o:CX k A)(B:XB W V z N)(s:Dc C V O v d)(w:A3 V x=Ag)(hw:Dk [.Name x q] v pos.line z=pure Au):FY W A V z N (exec (.Assign [.Name x q] v pos) z) O (.next (Bs O x (.aa d))):=
 Pw h o B s (if_pos w) rfl hw rfl
theorem DS (H:EY W C k mg mb)(o:CX k A)(B:XB W V z N)(h:ED C V O v d)(c:A3 V x=Ag):FY W A V z N (exec (.Assign [.Name x q] v a) z) O (.next (Bs O x (.aa d))):=by
 have e:=h;obtain⟨f,u,g,i,j⟩:=e;obtain⟨b,hw⟩:=i a.line z x q;cases b with
 |false=>exact Bw H o B h.ev c hw
 |true=>
  refine .mk' λ Z X Q E s T=>?_;rw[arm_exec_Assign];refine Ac (AZ (Ac (EG hw (KB (P3 (Ac ?_))))));rw[g];exact Ac (DH (j ⟨W,A,z,Z,X,_,mg,mb,H,o⟩ s T.S.F (T.S.gd B) _ (λ _ n=>Q .next n) E λ D y G I m _ p w l t r=>Tt (t:=.Name x q) B T.S o.handled (if_pos c) T.q p w l t r) (λ _ _ h=>Ar (Ar h)) λ _ _ x=>x)
theorem Gu (h:EY W C k mg mb)(o:CX k A)(B:XB W V z N)(w:KW C V O t c)(H:FY W A V z N (execs (if c then b else a) z) O d):FY W A V z N (exec (.If t b a e) z) O d:=.mk' λ Z X Q E s T=>
 KR (T.ts h o B w λ s T=>by cases c<;>exact H.run T)
theorem G8 (f:EY W C k mg mb)(g:CX k A)(B:XB W V z N)(i:iO C V O e d):FY W A V z N (exec (.Return (Ab e) b) z) O (.ret d):=.mk' λ Z X Q E s T=>
 EM (T.kt f g B (λ c h _ _=>h▸i c) λ v s T k r=>T.q v s.heap s.toks T.S.le (An _) (by
  rcases r with r |⟨a,rfl,H,r⟩
  ·exact r.ai T.S.F.zx
  ·cases d with
   |list l=>obtain⟨m,n,h,o,w⟩:=r;exact .list h H o (w.ai T.S.F.zx)
   |dict p=>obtain⟨j,h,y,o,q,w⟩:=r;exact .dict h H y o q (w.ai T.S.F.zx)
   |_=>exact r.elim))
end
section
variable {Q:FB->Aq->Prop}
noncomputable def oQ (a b:A5):Prop:=∀x h,a.lookup x=Ab h->b.lookup x=Ab h
theorem FY.pre (h:FY W A V z N t O b)(k:oQ O a):FY W A V z N t a b:=.mk λ Z X s Q E S o=>h.go Z X s Q E (S.aw k) o
theorem FY.post (h:FY W A V z N t O (.next a))(o:oQ b a):FY W A V z N t O (.next b):=.mk λ Z X s Q E S w=>h.go Z X s Q E S λ C H c k l=>w C H (c.aw o) k l
theorem FY.du (h:FY W A V z N t O (.brk a))(o:oQ b a):FY W A V z N t O (.brk b):=.mk λ Z X s Q E S w=>h.go Z X s Q E S λ C H c k l=>w C H (c.aw o) k l
theorem EL:oQ (Ei a O) O:=λ x h=>SP a x h O
theorem FY.keep (h:FY W A V z N t O (.next b))(e:Ei c b=a):FY W A V z N t O (.next a):=e▸h.post EL
theorem FY.fq (h:FY W A V z N t O (.brk b))(e:Ei c b=a):FY W A V z N t O (.brk a):=e▸h.du EL
theorem FO:FY W A V z N (execs [] z) O (.next O):=.mk' λ Z X Q E s T=>BL T.next
theorem Fg {r:List Bq}{st:Bq}{a:A5}{b:Fl}(C:FY W A V z N (exec st z) O (.next a))(H:FY W A V z N (execs r z) a b):FY W A V z N (execs (st::r) z) O b:=.mk λ Z X s Q E S c=>
 Ax (C.go Z X s _ _ S λ k h o d w=>H.go Z X {s with heap:=k,toks:=h} _ _ o (c.aq d w))
theorem LC {r:List Bq}{st:Bq}{a:A5}(h:FY W A V z N (exec st z) O (.brk a)):FY W A V z N (execs (st::r) z) O (.brk a):=.mk λ Z X s Q E S k=>Ax (h.go Z X s _ _ S k)
theorem jJ {r:List Bq}{st:Bq}{d:PV}(h:FY W A V z N (exec st z) O (.ret d)):FY W A V z N (execs (st::r) z) O (.ret d):=.mk λ Z X s Q E S k=>Ax (h.go Z X s _ _ S k)
theorem DY {st:Bq}{a:Fl}(h:FY W A V z N (exec st z) O a):FY W A V z N (execs [st] z) O a:=by
 cases a with
 |next k=>exact Fg h FO
 |brk k=>exact LC h
 |ret d=>exact jJ h
theorem Nb:FY W A V z N (exec (.Break q) z) O (.brk O):=.mk' λ Z X Q E s T=>by exact Ac (AZ (Ar (T.q s.heap s.toks T.S .refl (An _))))
class inductive tF (W:BV) (A:Dj) (C:GE) (sc:Bf) (ah:Env) (hb:AS) (t:Expr) (b o:List Bq):Nat->A5->Fl->Prop
 |stop {n0 ρ0 fl0}:KW C sc ρ0 t Au->FY W A sc ah hb (execs o ah) ρ0 fl0->tF W A C sc ah hb t b o (n0+1) ρ0 fl0
 |next {n0 ρ0 ρ20 fl0}:KW C sc ρ0 t Ag->FY W A sc ah hb (execs b ah) ρ0 (.next ρ20)->tF W A C sc ah hb t b o n0 ρ20 fl0->tF W A C sc ah hb t b o (n0+1) ρ0 fl0
 |brk {n0 ρ0 ρb}:KW C sc ρ0 t Ag->FY W A sc ah hb (execs b ah) ρ0 (.brk ρb)->tF W A C sc ah hb t b o (n0+1) ρ0 (.next ρb)
theorem Z5 (l:EY W C k mg mb)(m:CX k A)(B:XB W V z N)(r:tF W A C V z N t b a n O c):FY W A V z N (exec (.While t b a d) z) O c:=.mk' λ Z X Q E s T=>by
 refine wpAny_While (codeAny_whileLoop (λ n q=>∃g,tF W A C V z N t b a n g c/\ST W V z N Z X g c Q q) (λ n q u=>ML λ y D p gE=>?_) n ⟨O,r,T⟩);obtain⟨g,e,T⟩:=u;cases e with
 |stop j v=>exact T.ts l m B j λ s T=>p _ _ (VO (v.run T))
 |next j i x=>exact T.ts l m B j λ s T=>p _ _ (P3 (i.go Z X s _ _ T.S λ f o w h H=>⟨_,CH _,_,x,w,T.q.aq h H⟩))
 |brk j i=>exact T.ts l m B j λ s T=>p _ _ (P3 (i.go Z X s _ _ T.S λ f o w h H=>T.q f o w h H))
end
section
noncomputable def iG (z:GE)(k:Bf)(o:A5)(e:Expr)(d:PV):Prop:=∀(c:Pt z k o)(s:Aq),FI c.W k c.ah c.Z c.X s.heap o->Gd c.W s->∀(Q:I9)(E:I9),
 (∀a h w,s.heap.get? a=Ah->BA c.W s.heap h->s.toks<=w->BY c.W (a::c.X) h a d->Q (.ref a) {s with heap:=h,toks:=w})->Av c.W.M c.A (eval e c.ah) Q E s
theorem iG.list {b:List PV}(z:UX C V O a b)(N:b.length<=BX):iG C V O (.List a p) (.list b):=λ c s F G Q E W=>by
 rw[Mq,Bj p c.ah a z.1];refine Ac (AZ (Ac (z.2 c s F G _ _ λ vs h w k o A=>?_)));have H:=(List.size_toArray ..).symm▸A.length▸N;exact B2 (W _ _ _ (Hp k (Ch h)) (k.trans (.push _ _)) o ⟨_,_,AD _ rfl,H,(A.be (Ch h)).ae (.push _ _)⟩) (Aa H FR)
theorem iG.dict:iG C V O (.Dict [] [] p) (.dict []):=λ c s F G Q E h=>
 wpAny_Dict_empty (h _ _ _ (Ch s.heap) (.push _ _) (An _) ⟨[],⟨_,#[],0,AD _ rfl,⟨rfl,rfl,rfl⟩,rfl,λ _ k=>by simp at k,Pairs.nil,List.nodup_nil⟩,SE c.Gk G (Ch s.heap),AY _,rfl,.nil⟩)
theorem iG.am (m:Dc C V O l (.list e))(n:Dc C V O r b)(q:GC a (.list e) b=Ab d):iG C V O (.BinOp l a r p) d:=λ c s F G Q E t=>
 LX (m c s F G _ _ λ v H z h o u=>n c {s with heap:=H,toks:=z} (F.ae h) (G.step h o) _ _ λ w N i k W rw=>
  Qx ⟨e,rfl⟩ (u.ae k) rw q _ _ λ v3 Z A f g j=>j.1▸t _ Z A (Hp (h.trans k) (Ch N)) ((h.trans k).trans f) (Aa o (Aa W g)) j.2)
end
section
variable {Q:FB->Aq->Prop}
theorem ST.own (T:ST W V z N Z X O b Q s)(k:O.lookup x=Ab (.own d)):∃a,Ft V z s.heap x (.ref a)/\a∈X/\a∉Z/\BY W X s.heap a d:=by
 obtain⟨v,h,a,rfl,o,w,r⟩:=T.S.F.at k;exact⟨a,h,o,w,r⟩
theorem ST.cu (T:ST W V z N Z X O (.next (Bs O x (.own b))) Q s)(A:O.lookup x=Ab (.own d))(h:Ft V z s.heap x (.ref a))(k:a∈X)(o:a∉Z)(r:BY W X s.heap a d)(w:BK a s.heap H)(C:BY W X H a b)(l:s.toks<=c):
 Q .next {s with heap:=H,toks:=c}:=T.q H c (T.S.cu A h w k o (Jp r) C l) (.eo w k o) l
theorem Mh:Value.type "list"≠Value.type "frame":=by decide
theorem JF {b:List PV}{a:Array Ae}(r:RpL W X h a.toList b):a.size=b.length:=r.length
theorem N2 (q:EY W C k mg mb)(t:CX k A)(B:XB W V z N){c:Pos}{b:Pos}{xs:List PV}(hk:(Ck a&&(b.endLine==c.line))=Ag)(g:O.lookup x=Ab (.own (.list xs)))(u:Dc C V O a d)(y:xs.length<BX):
 FY W A V z N (exec (.Expr (.Call (.Attribute (.Name x f) "append" b) [a] [] c) e) z) O (.next (Bs O x (.own (.list (xs++[d]))))):=.mk' λ Z X Q E s T=>by
 have i:=AB.mp hk;have o:[a].all Ck=Ag:=by rw[Du,i.1];rfl
 obtain⟨D,w,j,G,r⟩:=T.own g;obtain⟨I,n,l,J,m⟩:=id r;refine wpAny_Expr (wpAny_Call_append rfl (NC [a] c o (show 1<20 by decide)) i.2 (Bj c z [a] o) (FI.bv T.S.F g w ⟨D,I,rfl,⟨_,n,l,rfl,rfl,rfl⟩,T.ev q t B u λ v s T k L=>?_⟩)) (by simp only[interactive];rw[T.S.F.kind];rfl) rfl;refine Kn (k.keep l Mh nofun) J λ p H h o=>T.cu g (w.ae k) j G (r.ae k) o ⟨_,H,h,?_,?_⟩ (An _)
 ·rw[Array.size_push,JF m];exact y
 ·have:=((m.ae k).append (RpL.bq L)).az o j;simpa using this
theorem p0 (I:EY W C k mg mb)(J:CX k A)(B:XB W V z N)(hk:(Ck a&&(c.endLine==e.line))=Ag)(j:O.lookup x=Ab (.own (.list f)))(L:Dc C V O a (.list d))(t:f.length+d.length<=BX):
 FY W A V z N (exec (.Expr (.Call (.Attribute (.Name x i) "extend" c) [a] [] e) g) z) O (.next (Bs O x (.own (.list (f++d))))):=.mk' λ Z X Q E s T=>by
 have u:=AB.mp hk;have o:[a].all Ck=Ag:=by rw[Du,u.1];rfl
 obtain⟨D,w,y,M,r⟩:=T.own j;obtain⟨U,n,l,Y,p⟩:=id r;refine wpAny_Expr (wpAny_Call_method rfl (NC [a] e o (show 1<20 by decide)) u.2 PySem.F.plainAttrs_list PySem.F.slot_list_extend PySem.F.type_list_extend (FI.bv T.S.F j w ⟨⟨_,l,rfl⟩,λ b N=>by cases N;exact⟨_,l,rfl⟩,?_⟩)) (by simp only[interactive];rw[T.S.F.kind];rfl) rfl;rw[Bj e z [a] o];refine FX rfl (Be (AE (T.ev I J B L λ v s T k R=>A6 ?_)));obtain⟨b,ws,m,rfl,S,_,_,q⟩:=R.aj;refine YX (k.keep l Mh nofun) S (by rw[JF p,JF q];exact t) λ G H h o=>T.cu j (w.ae k) y M (r.ae k) o ⟨_,H,h,?_,?_⟩ (An _)
 ·rw[Array.size_append,JF p,JF q];exact t
 ·have:=((p.ae k).append q).az o y;simpa using this
theorem WF (Y:EY W C k mg mb)(hA:CX k A)(B:XB W V z N)(G:O.lookup x=Ab (.own d))(hv:Dc C V O v f)(hi:Dc C V O i e)(m:qB d e f=Ab g)(M:swapsWith v (Ab (.Subscript (.Name x q) i c)) b.line z=pure Au):
 FY W A V z N (exec (.Assign [.Subscript (.Name x q) i c] v b) z) O (.next (Bs O x (.own g))):=.mk' λ Z X Q E s T=>by
 obtain⟨a,p,I,hZ,r⟩:=T.own G;refine wpAny_Assign_Subscript (T.ev Y hA B hv λ v' s T w rv=>FI.bv T.S.F G (p.ae w) (T.ev Y hA B hi λ kv s T H rk=>?_)) M;have h:=(p.ae w).ae H;have o:=(r.ae w).ae H;have j:=rv.ae H;cases d with
 |list xs=>
  obtain⟨u,R,m⟩:=AL.mp m;obtain rfl:=Nx R;obtain⟨hk,rfl⟩:=Le m;obtain⟨t,rfl⟩:=rk.aj;obtain⟨vs,n,J,S,L⟩:=id o;have l:=JF L;have a1:BX=1048576:=rfl;have D:=BN s.heap a (CG (·.setIfInBounds u.toNat v'))
  refine ki_setAt J hk.1 (Int.lt_trans hk.2 (DB (ER.mpr (l▸S)) (show(BX:Int)<2^63 by decide+kernel))) (by rw[l];exact hk.2) (T.cu G h I hZ o D ⟨_,_,PySem.IsL.update J (·.setIfInBounds u.toNat v'),?_,?_⟩ (An _))
  ·simpa using S
  ·have:=(RpL.set j u.toNat L).az D I;simpa using this
 |dict es=>
  obtain⟨u,R,m⟩:=AL.mp m;obtain rfl:=Z4 R;obtain⟨hk,rfl⟩:=Le m;obtain⟨t,rfl,_⟩:=rk.aj;obtain⟨U,J,y,S,q,L⟩:=id o;refine wpAny_setItem_pairs (k:=u) (by simp[BV.K,KD,Value.isStrOf]) J (λ a0 hm D=>?_) (Aa (Az (by simpa using congrArg BP q)) (Aa (AX hk) FR));obtain⟨q1,q2⟩:=LA q L j;have a2:U.length=es.length:=by simpa using congrArg BP q
  exact T.cu G h I hZ o D ⟨_,hm,y,(by simpa using congrArg BP q1)▸Aa (HF ..) hk,q1,q2.az D I⟩ (Bo _)
 |_=>contradiction
end
set_option genInjectivity false
set_option genSizeOfSpec false
class inductive H7 (W:BV) (A:Dj) (sc:Bf) (ah:Env) (hb:AS) (t:Expr) (b o:List Bq):List PV->A5->Fl->Prop
 |nil {ρ0 fl0}:FY W A sc ah hb (execs o ah) ρ0 fl0->H7 W A sc ah hb t b o [] ρ0 fl0
 |next {x xs0 ρ0 ρb ρ20 fl0}:GB sc t x ρ0=Ab ρb->FY W A sc ah hb (execs b ah) ρb (.next ρ20)->H7 W A sc ah hb t b o xs0 ρ20 fl0->H7 W A sc ah hb t b o (x::xs0) ρ0 fl0
 |brk {x xs0 ρ0 ρb ρ20}:GB sc t x ρ0=Ab ρb->FY W A sc ah hb (execs b ah) ρb (.brk ρ20)->H7 W A sc ah hb t b o (x::xs0) ρ0 (.next ρ20)
 |ret {x xs0 ρ0 ρb d}:GB sc t x ρ0=Ab ρb->FY W A sc ah hb (execs b ah) ρb (.ret d)->H7 W A sc ah hb t b o (x::xs0) ρ0 (.ret d)
section
variable {Q:FB->Aq->Prop}
theorem H7.aj (o:H7 W A V z N t b g (x::i) O f):∃h k,GB V t x O=Ab h/\FY W A V z N (execs b z) h k/\(match k with | .next e=>H7 W A V z N t b g i e f | .brk e=>f=.next e | .ret d=>f=.ret d):=by
 cases o with
 |next a b c=>exact⟨_,_,a,b,c⟩
 |brk a b=>exact⟨_,_,a,b,rfl⟩
 |ret a b=>exact⟨_,_,a,b,rfl⟩
theorem H7.iz (h:H7 W A V z N t b a [] O c):FY W A V z N (execs a z) O c:=by
 cases h;assumption
variable {it:Expr}{fr:List Nat} in
structure LB (W:BV)(A:Dj)(sc:Bf)(ah:Env)(hb:AS)(Z X:List Ai)(I:Ai)(xs:List PV)(St:Nat->AS->Prop):Prop where
 it:MX W A (I::X) I xs St
 IX:I∉X
 Ib:hb.get? I=Ah
 zx:∀a∈Z,a∈X
 zf:∀a∈AV ah,a∈Z
 fr:∀a∈X,a∉Z->hb.get? a=Ah
variable {S:Nat}{q:Pos}{st:Bq} in
structure LI (W:BV)(sc:Bf)(ah:Env)(hb:AS)(Z X:List Ai)(I:Ai)(St:Nat->AS->Prop)(ρ:A5)(i:Nat)(fl:Fl)(Q:FB->Aq->Prop)(s:Aq):Prop where
 st:St i s.heap
 S:XS W sc ah hb (I::Z) (I::X) s ρ
 q:Ky W sc ah hb Z X s fl Q
theorem LB.If {St:Nat->AS->Prop}(B:LB W A V z N Z X I a St):I∉AV z:=λ q=>B.IX (B.zx _ (B.zf _ q))
theorem LB.ne {St:Nat->AS->Prop}(B:LB W A V z N Z X I a St)(st:St i h)(hc:(b∉X/\EJ o)\/(b∈Z/\¬Ea V z b/\o.cls≠.type "frame"/\o.cls≠.none))(s:h.get? b=Ab o):b≠I:=λ q=>by
 obtain⟨H,k,_,_,_,w⟩:=B.it.cj _ _ st;rcases hc with⟨_,C⟩ |⟨E,_⟩
 ·simp only[q,k] at s;cases s;exact w C
 ·exact B.IX (B.zx _ (q▸E))
theorem LB.ai {St:Nat->AS->Prop}(B:LB W A V z N Z X I a St)(st:St i h)(s:D7 V z (I::Z) (I::X) h H):D7 V z Z X h H:=λ b o hc k=>
 s b o (hc.imp (λ c=>⟨λ q=>(Al.mp q).elim (B.ne st hc k) c.1,c.2⟩) λ c=>⟨Af _ c.1,c.2⟩) k
theorem LB.frame {St:Nat->AS->Prop}(B:LB W A V z N Z X I a St)(st:St i h)(C:D7 V z (I::Z) (I::X) h H):St i H:=by
 obtain⟨Q,k,E,_,O,_⟩:=B.it.cj _ _ st;exact B.it.frame _ _ _ st (λ o s=>by obtain rfl:=A4 k s;exact C I _ (.inr ⟨Ad,λ q=>B.If (K0 q),O,E⟩) k) λ b o N s w=>C b o (.inl ⟨N,w⟩) s
theorem LB.drop {St:Nat->AS->Prop}(B:LB W A V z N Z X I a St)(S:XS W V z N (I::Z) (I::X) s O):XS W V z N Z X s O:=⟨S.F.bp (λ _ _ _ e=>e) B.If B.IX B.zx,S.le,S.tk,B.fr,S.fc⟩
theorem LB.ext {St:Nat->AS->Prop}(B:LB W A V z N Z X I d St)(L:LI W V z N Z X I St O i a Q s)(e:BB I s.heap h)(l:s.toks<=c):Ky W V z N Z X {s with heap:=h,toks:=c} a Q/\BA W N h:=by
 obtain⟨o,k,C,E,_⟩:=B.it.cj _ _ L.st;exact⟨L.q.aq (λ b o hc k=>e b o (B.ne L.st hc k) k) l,L.S.le.ext B.Ib (λ H f w g=>by obtain rfl:=A4 k w;exact⟨C,E⟩) e⟩
theorem LB.step {St:Nat->AS->Prop}(B:LB W A V z N Z X I b St)(L:LI W V z N Z X I St O i a Q s)(e:BB I s.heap h)(st:St j h)(l:s.toks<=tk):LI W V z N Z X I St O j a Q {s with heap:=h,toks:=tk}:=
 ⟨st,⟨L.S.F.ext e Ad B.If (by obtain⟨o,k,_⟩:=B.it.cj _ _ st;exact⟨o,k⟩),(B.ext L e l).2,Aa L.S.tk l,L.S.fr,L.S.fc.at λ o k=>e _ o (λ q=>B.If (q▸Ad)) k⟩,(B.ext L e l).1⟩
theorem LB.out {St:Nat->AS->Prop}(B:LB W A V z N Z X I c St)(L:LI W V z N Z X I St O i a Q s)(e:BB I s.heap h)(l:s.toks<=b):ST W V z N Z X O a Q {s with heap:=h,toks:=b}:=
 ⟨⟨L.S.F.bp e B.If B.IX B.zx,(B.ext L e l).2,Aa L.S.tk l,B.fr,L.S.fc.at λ o k=>e _ o (λ q=>B.If (q▸Ad)) k⟩,(B.ext L e l).1⟩
theorem LB.eg {St:Nat->AS->Prop}(B:LB W A V z N Z X I d St)(L:LI W V z N Z X I St O i c Q s)(S:XS W V z N (I::Z) (I::X) {s with heap:=h,toks:=b} a)(k:D7 V z (I::Z) (I::X) s.heap h)(l:s.toks<=b):LI W V z N Z X I St a i c Q {s with heap:=h,toks:=b}:=
 ⟨B.frame L.st k,S,L.q.aq (B.ai L.st k) l⟩
end
section
variable {Q:FB->Aq->Prop}
theorem LI.cast {St:Nat->AS->Prop}(e:b=a)(L:LI W V z N Z X I St O i b Q s):LI W V z N Z X I St O i a Q s:=e▸L
theorem LI.j7 {St:Nat->AS->Prop}(L:LI W V z N Z X I St a i (.next O) Q s)(S:XS W V z N Z X s O):Q .next s:=L.q _ _ S .refl (An _)
theorem LI.j6 {St:Nat->AS->Prop}(L:LI W V z N Z X I St c i (.ret d) Q s)(k:BA W N h)(l:s.toks<=b)(r:Rp W (I::Z) h v d):Q (.ret v) {s with heap:=h,toks:=b}:=L.q v h b k l (r.ai λ a o=>Af _ o)
structure LN (W:BV)(A:Dj)(sc:Bf)(ah:Env)(hb:AS)(Z X:List Ai)(I:Ai)(St:Nat->AS->Prop)(t:Expr)(b o:List Bq)(xs:List PV)(fl:Fl)(Q:FB->Aq->Prop)(n:Nat)(s:Aq):Prop where
 ex:∃ρ i,i<=xs.length/\n=xs.length-i/\LI W sc ah hb Z X I St ρ i fl Q s/\H7 W A sc ah hb t b o (xs.drop i) ρ fl
theorem Uu {R:Ev->Aq->Prop}{c:List PV}{t:Expr}{j:Fl}{I:Ai}{St:Nat->AS->Prop}(hh:A.handled=Ah)(Bx:XB W V z N)(B:LB W A V z N Z X I c St){b g:List Bq}(L:LI W V z N Z X I St O 0 j (λ f u=>R (.ok f) u) s)(e:H7 W A V z N t b g c O j):Ep W.M A (.forLoop t (.ref I) b g z) R s:=by
 refine Kk (LN W A V z N Z X I St t b g c j λ f u=>R (.ok f) u) (λ n u hI=>ML λ Q' E' U gE=>?_) c.length ⟨O,0,AY _,rfl,L,e⟩;obtain⟨a0,i,hi,hn,L,M⟩:=hI.ex;by_cases w:i<c.length
 ·rw[Fe w] at M;obtain⟨a1,f1,h1,h2,m⟩:=M.aj;refine Cy (An _) (B.it.item i u _ _ c[i] L.st (AA w) λ v x p rv C E H=>U _ _ ?_);have L:=B.step L E C H;refine B.it.dn (i+1) _ _ _ t v C (GR hh Bx L.S h1 rv λ Y S y q D=>?_);have L:=B.eg L y (q.ap λ a ha=>L.S.F.br ha) D;refine h2.go (I::Z) (I::X) _ _ _ L.S ?_;cases f1 with
  |next G=>exact λ l Q o k h=>⟨_,hn▸Nat.sub_succ_lt_self _ _ w,G,i+1,w,rfl,B.eg L o k h,m⟩
  |brk G=>exact λ l Q o k h=>((B.eg L o k h).cast m).j7 (B.drop o)
  |ret d=>exact λ v l Q T h r=>(L.cast m).j6 T h r
 ·have J:=EI hi (B6.mp w);rw[J,List.drop_length] at M;exact Cy (An _) (B.it.done u _ _ (J▸L.st) λ x p E H=>U _ _ (M.iz.run (B.out L E H)))
end
set_option genInjectivity false
set_option genSizeOfSpec false
theorem J4 (u:EY W C k mg mb)(g:CX k A)(B:XB W V z N)(p:OK C V O e f)(x:H7 W A V z N t b d f O fl):FY W A V z N (exec (.For t e b d pos) z) O fl:=.mk' λ Z X Q E s T=>by
 rw[arm_exec_For];refine Ac (AZ (Ac (T.kt u g B (λ c y _ _=>y▸p.2 c) λ v s T k D=>Ac (EG (LK p.1 z v) (Ac (AZ (Ac (Br ?_))))))));refine Ha D λ I o i j hk l=>?_;have w:I∉X:=λ q=>DJ i (T.S.F.an I q) rfl;have h:BA W s.heap o:=.af hk;obtain⟨St,m,n⟩:=MX.of (l w) Ad g.handled;have H:XS W V z N (I::Z) (I::X) {s with heap:=o} O:=
  ⟨T.S.F.fresh (B.ao.trans T.S.le) h i j,T.S.le.trans h,T.S.tk,λ a G r=>T.S.fr a ((Al.mp G).resolve_left λ q=>r (q▸Ad)) λ q=>r (Af _ q),T.S.fc.bg h⟩
 refine NQ ?_;rw[Oc];exact Uu g.handled B ⟨n,w,Hp T.S.le i,T.S.F.zx,T.S.F.bb,T.S.fr⟩ ⟨m,H,T.q.aq h.ap (An _)⟩ x
structure Tk (W:BV)(A:Dj)(sc:Bf)(ah:Env)(hb:AS)(sts:List Bq)(ρ:A5)(d:PV):Prop where
 go:∀(Z X:List Ai)(s:Aq)(Q:FB->Aq->Prop)(E:I9),XS W sc ah hb Z X s ρ->(∀v h' tk,BA W hb h'->s.toks<=tk->Rp W Z h' v d->Q (.ret v) {s with heap:=h',toks:=tk})->Av W.M A (execs sts ah) Q E s
theorem K3 {r:List Bq}{st:Bq}{ρ1:A5}{d:PV}(c:FY W A V z N (exec st z) O (.next ρ1))(e:Tk W A V z N r ρ1 d):Tk W A V z N (st::r) O d:=.mk λ Z X s Q E S f=>
 Ax (c.go Z X s _ _ S λ o h w i C=>e.go Z X {s with heap:=o,toks:=h} Q E w λ v H k b a g=>f v H k b (Aa C a) g)
theorem Jn {r:List Bq}{st:Bq}{d:PV}(h:FY W A V z N (exec st z) O (.ret d)):Tk W A V z N (st::r) O d:=.mk λ Z X s Q E S k=>Ax (h.go Z X s _ _ S k)
theorem R9 {b:Pos}(p:EY W C k mg mb)(t:CX k A)(B:XB W V z N)(u:iG C V O v d')(j:(A3 V x&&WL O x)=Ag)(y:Tk W A V z N r (Bs O x (.own d')) d)
 (hw:Dk [.Name x q] v b.line z=pure Au):Tk W A V z N (.Assign [.Name x q] v b::r) O d:=.mk λ Z X s Q E S D=>
 have j:=AB.mp j
 Ax (Cz rfl hw rfl (u ⟨W,A,z,Z,X,_,mg,mb,p,t⟩ s S.F (S.gd B) _ _ λ a n l G w H I=>
  Rr B S j.1 (Vu j.2) G w H I λ c h e f=>y.go Z (a::X) {s with heap:=c,toks:=h} Q _ e λ v g o m i J=>D v g o m (Aa f i) J))
theorem OC (m:Gm W a fd f c){g:List PV->Option PV}(V:∀args d,g args=Ab d->args.length=f.length/\∀A h H,CX k A->XB W fd.scope h H->Tk W A fd.scope h H c (f.zip (args.map Ds.aa)) d):Gn W (k+1) a g:=
 λ A s X args Z d i G n r e Q E p=>
  F8 m i G n (MT.gw r) ((Aj _).trans (V args d e).1) λ h j N t B l w S=>
   ((V args d e).2 _ h _ (i.down h) B).go _ _ _ _ _ S λ v z o O C q=>p v z o O (Aa w C) (q.ai λ b H=>AK.mpr (.inr H))
set_option genInjectivity false
set_option genSizeOfSpec false
section
variable {Q:FB->Aq->Prop}
theorem bC {Cl:Ai}{f:List Ae}{c g:Pos}(y:EY W C k mg mb)(D:CX k A)(B:XB W V z N){x:Str}(I:Gf W mg x Cl f)(S:XS W V z N Z X s O){a:Expr}{b:Str}{d:Pos}(l:Ck a=Ag)(U:CW V x=Ag)(Y:Dc C V O a (.str b))
 (hE:∀n J e t,BA W s.heap n->s.toks<=J->A9 b=Ag->b.length<=BX->KN W s.heap n e (.ref Cl) (.str b t)->E (.ref e) {s with heap:=n,toks:=J}):
 Av W.M A (exec (.Raise (Ab (.Call (.Name x g) [a] [] c)) Ah d) z) Q E s:=by
 obtain⟨nm,q,a0,bs,w,sn,sub,ab,p,dd,k0,k1,k2,k3,k5,Bn,r,j,a1,mN,a2,L,hC,hN,u,M,_⟩:=I.cls;have R:[a].all Ck=Ag:=by rw[Du,l];rfl
 have G:=S.gd B;refine wpAny_Raise_call_subT (nm:=nm) (q:=q) (N:=a0) (bs:=bs) (hdct:=w) (sn:=sn) (sub:=sub) (ab:=ab) (col:=p) (dd:=dd) (k0:=k0) (k1:=k1) (k2:=k2) (k3:=k3) (k5:=k5) L (M.hasType L.hasBase) D.handled
  (by rw[Bj c z [a] R];rfl) u (CF y S.F G U (.inl I.bx) ⟨rfl,?_⟩)
 simp only[Bj c z [a] R];refine Be (AE (Y ⟨W,A,z,Z,X,_,mg,mb,y,D⟩ s S.F G _ _ λ v T o h H rv=>A6 ⟨rfl,by show 1<=HG;decide,(G.ao.trans h).keep hC (by simp) (by simp),Dl (G.ao.trans h) hN,TS (G.ao.trans h) M,λ i e m=>?_⟩));obtain⟨t,rfl,o1,z1⟩:=rv.aj;exact hE i o e t (h.trans (.af m.keeps)) H o1 z1 ((KN.jk m).gr h)
structure Q4 (W:BV)(A:Dj)(sc:Bf)(ah:Env)(hb:AS)(Cl:Ai)(sts:List Bq)(ρ:A5)(out:xD):Prop where
 go:∀(Z X:List Ai)(s:Aq)(Q:FB->Aq->Prop)(E:I9),XS W sc ah hb Z X s ρ->(∀d,out=.ret d->∀v h' tk,BA W hb h'->s.toks<=tk->Rp W Z h' v d->Q (.ret v) {s with heap:=h',toks:=tk})->
  (∀x w,out=.mh x w->∀h' tk e t,DW ah h'->s.toks<=tk->A9 w=Ag->w.length<=BX->KN W hb h' e (.ref Cl) (.str w t)->E (.ref e) {s with heap:=h',toks:=tk})->Av W.M A (execs sts ah) Q E s
theorem JD {Cl:Ai}{r:List Bq}{st:Bq}{a:A5}{b:xD}(i:FY W A V z N (exec st z) O (.next a))(j:Q4 W A V z N Cl r a b):Q4 W A V z N Cl (st::r) O b:=.mk λ Z X s Q E S l m=>
 Ax (i.go Z X s _ _ S λ c H f B C=>j.go Z X {s with heap:=c,toks:=H} Q E f (λ d n v k h g o p=>l d n v k h g (Aa C o) p) λ x w q k h e t u o y z1 F=>m x w q k h e t u (Aa C o) y z1 F)
theorem U7 {Cl:Ai}{r:List Bq}{st:Bq}{d:PV}(h:FY W A V z N (exec st z) O (.ret d)):Q4 W A V z N Cl (st::r) O (.ret d):=.mk λ Z X s Q E S k o=>
 Ax (h.go Z X s _ _ S (k d rfl))
theorem K2 {Cl:Ai}{r:List Bq}{c:Pos}{t:Expr}{a:xD}(h:EY W C k mg mb)(o:CX k A)(B:XB W V z N){b:List Bq}(s:KW C V O t Au)(w:Q4 W A V z N Cl r O a):Q4 W A V z N Cl (.If t b [] c::r) O a:=
 JD (Gu h o B s FO) w
theorem N0 {Cl:Ai}{f:List Ae}{r:List Bq}{i g d:Pos}{t:Expr}(p:EY W C k mg mb)(q:CX k A)(B:XB W V z N){a:Expr}{x b:Str}{c:Pos}(v:KW C V O t Ag)(y:Gf W mg x Cl f)(D:CW V x=Ag)(G:Ck a=Ag)(I:Dc C V O a (.str b)):
 Q4 W A V z N Cl (.If t [.Raise (Ab (.Call (.Name x g) [a] [] i)) Ah c] [] d::r) O (.mh x b):=.mk λ Z X s Q E S T J=>
 Ax (KR (v ⟨W,A,z,Z,X,_,mg,mb,p,q⟩ s S.F (S.gd B) _ _ λ U u n H o e=>by
  subst e;have h:=S.ae H o;exact Ax (bC p q B y h G D I λ j w L M l m R z1 F=>J x b rfl j w L M (h.fc.bg l) (Aa o m) R z1 (F.gr h.le))))
theorem jC {Cl a:Ai}{args:List PV}{g:List Ae}{c:List Bq}{i:List Str}{l:List Env}{f:xD}(I:Gm W a fd i c)(T:args.length=i.length)(U:∀A h p,CX k A->XB W fd.scope h p->Q4 W A fd.scope h p Cl c (i.zip (args.map Ds.aa)) f)
 (J:CX (k+1) A) (q:A.frames=Ab l) (St:Ba W s.heap l) (G:Gd W s) (Y:∀b∈X,W.h0.get? b=Ah/\∃o,s.heap.get? b=Ab o) (r:RpL W X s.heap g args) {j:I9}
 (hQ:∀d,f=.ret d->∀v O V,BA W s.heap O->s.toks<=V->Rp W X O v d->j v {s with heap:=O,toks:=V})
 (hE:∀x w,f=.mh x w->∀O V e t,s.toks<=V->A9 w=Ag->w.length<=BX->KN W s.heap O e (.ref Cl) (.str w t)->Ba W O l->E (.ref e) {s with heap:=O,toks:=V}):
 Av W.M A (call (.ref a) g) j E s:=
 F8 I J G Y (MT.gw r) ((Aj _).trans T) λ h L u M B R N S=>
  (U _ h _ (J.down h) B).go _ _ _ _ _ S (λ d hd v C z y H rv=>hQ d hd v C z y (Aa N H) (rv.ai λ b p=>AK.mpr (.inr p))) λ x w hx C z e' t fc H o1 z1 F=>
by
 have Z:(A.deeper h).frames=Ab (h::l):=by show A.frames.map (h::·)=_;rw[q];rfl
 have D:Ba W C (h::l):=⟨by rw[M,I.kind];nofun,by rw[M];rfl,(S.F.alive h.locals (S.F.zx _ (S.F.bb _ Ad))).1,fc,St.bg F.1⟩;exact KN.bp (by simp) Z D F λ m n Q=>hE x w hx m z e' t (Aa N H) o1 z1 n Q.2.2.2.2
theorem oW {Cl a:Ai}{c:List Bq}{f:List Str}(n:Gm W a fd f c){g:List PV->Option PV}(Z:∀args d,g args=Ab d->args.length=f.length/\∀A h N,CX k A->XB W fd.scope h N->Q4 W A fd.scope h N Cl c (f.zip (args.map Ds.aa)) (.ret d)):Gn W (k+1) a g:=
 λ A s X args i d j G p r e Q E q=>
  F8 n j G p (MT.gw r) ((Aj _).trans (Z args d e).1) λ h l O y B m z S=>
   ((Z args d e).2 _ h _ (j.down h) B).go _ _ _ _ _ S (λ D t v C o V H u=>q v C o V (Aa z H) (by cases t;exact u.ai λ b N=>AK.mpr (.inr N))) λ x w I=>(by contradiction)
theorem ZR {Cl a:Ai}{args:List PV}{f:List Ae}{c:List Bq}{g:List Str}{l:List Env}(H:Gm W a fd g c){x i:Str}(N:args.length=g.length)(O:∀A h C,CX k A->XB W fd.scope h C->Q4 W A fd.scope h C Cl c (g.zip (args.map Ds.aa)) (.mh x i))
 (V:CX (k+1) A) (w:A.frames=Ab l) (St:Ba W s.heap l) (G:Gd W s) (Z:∀b∈X,W.h0.get? b=Ah/\∃o,s.heap.get? b=Ab o) (r:RpL W X s.heap f args):Rz W A (call (.ref a) f) s l Cl i:=
 λ Q E j=>jC H N O V w St G Z r (λ d u=>(by contradiction)) λ v y m n p e t l q z1 F z=>by cases m;exact j n p e t l q z1 F z
end
structure FC (h:AS)(c P:Ai)(ps:Array Ae):Prop where
 hd:CodeHd h c P
 at_:h.get? P=Ab (Me ps)
 ok:TriplesOk ps.toList
theorem FC.keeps (T:FC h c P a)(k:∀b o,h.get? b=Ab o->H.get? b=Ab o):FC H c P a:=⟨T.hd.keeps k,k _ _ T.at_,T.ok⟩
theorem FC.ne (T:FC h c P a):c≠P:=
 by obtain⟨_,_,_,_,_,_,_,_,_,e⟩:=T.hd;exact e.2.2.2.2.2.2.2.2.2
theorem mJ (T:CodeHd h c P):∃o,h.get? c=Ab o/\o.cls=.type "code":=
 by obtain⟨o,_,_,_,_,_,_,_,_,e⟩:=T;exact⟨o,e.1,e.2.1⟩
theorem W9 (T:CodeHd h c P)(k:∀o,h.get? c=Ab o->H.get? c=Ab o):CodeHd H c P:=
 by obtain⟨o,s,w,z,A,C,E,N,O,e⟩:=T;exact⟨o,s,w,z,A,C,E,N,O,k o e.1,e.2⟩
theorem FC.extBut (T:FC h c P b)(k:BB a h H)(o:c≠a)(s:P≠a):FC H c P b:=
 ⟨W9 T.hd λ _=>k _ _ o,k _ _ s T.at_,T.ok⟩
theorem FC.more (T:FC h c P d)(k:BB P h H)(hP:H.get? P=Ab (Me (d++ #[BS a,BS b,v]))):FC H c P (d++ #[BS a,BS b,v]):=by
 refine⟨W9 T.hd λ _=>k _ _ T.ne,hP,?_⟩;have:(d++ #[BS a,BS b,v]).toList=d.toList++[BS a,BS b,v]:=by simp
 rw[this];exact TriplesOk_snoc _ _ _ _ T.ok
theorem Wb {M:Dq}{d:CodeContext->Sem Ae}(m:z.code=.ref c)(T:FC s.heap c P g)
 (n:∀U(s:Aq)(Q:I9)(E:I9),(∀h V w u,(∀b o,s.heap.get? b=Ab o->w.get? b=Ab o)->s.heap.objs.size<=h->s.heap.objs.size<=V->w.IsCode h V #[]->w.TableAt h V #[]->w.CodeRec (.ref h) f->Q (.ref h) {s with heap:=w,toks:=u})->Av M A (d U) Q E s)
 (v:∀S,Cf a g.toList=Ab S->Q S s)
 (p:Cf a g.toList=Ah->∀h V w u,BB P s.heap w->s.heap.objs.size<=h->s.heap.objs.size<=V->h<w.objs.size->V<w.objs.size->FC w c P (g++ #[BS a.line,BS a.col,.ref h])->FC w h V #[]->w.CodeRec (.ref h) f->s.toks<=u->Q (.ref h) {s with heap:=w,toks:=u}):
 Av M A (codeAt z a d) Q E s:=by
 refine Jr λ gg kk=>?_;obtain⟨o,C,a3,tf,Y,tg,a6,a4,tt,op,ho,hd,a0,h2,h7,h9,a1,H,q,a2,a7⟩:=T.hd.code T.at_ T.ok;refine kk ?_;unfold codeAt;rw[m,if_neg (CQ)];refine Ac (wpAny_fieldsOf ho hd ?_);rw[a0];refine Ac (wpAny_fieldsOf H q ?_);cases N:Cf a g.toList with
 |some S=>exact Ar (v S N)
 |none=>
 rw[h2,h7,h9,a1];refine Cy (An _) (Ac (n _ _ _ _ λ h V w u hk x y k O r=>?_));have Z:=hk _ _ H;refine Ac (wpAny_updateFieldsOfTheText Z q ?_);have i:(Er (λ C=>if(Cf a C.toList).isSome=Ag then C else C++ #[BS a.line,BS a.col,.ref h]) op).data=
  .fields (g++ #[BS a.line,BS a.col,.ref h]):=by
  rw[Ek q,N];rfl
 have j:=B1 (λ o=>Er (λ C=>if(Cf a C.toList).isSome=Ag then C else
  C++ #[BS a.line,BS a.col,.ref h]) o) Z (D9 i)
 refine Ac (wpAny_fieldsOf j i ?_);simp only[(by simp:(g++ #[BS a.line,BS a.col,BI h]).toList=g.toList++[BS a.line,BS a.col,.ref h]),codeAmong_snoc _ a2 N];have B:=Dy (Ao (AT H) x);have W:=(BN w P (λ o=>Er (λ C=>if(Cf a C.toList).isSome=Ag then C else C++ #[BS a.line,BS a.col,BI h]) o)).extBut;refine Ar λ l=>p N h V _ _ (λ b D hb e=>W b D hb (hk b D e)) x y (by rw[Heap.size_after_update];exact k.lt.1) (by rw[Heap.size_after_update];exact k.lt.2) ?_ ?_ ?_ l
 ·refine T.more (λ b D hb e=>W b D hb (hk b D e)) ?_;rw[j,(AN (H.symm.trans T.at_))];rw[Er,N];rfl
 ·exact(⟨CodeHd.of k O,O.2,trivial⟩:FC w h V #[]).extBut W B (Dy (Ao (AT H) y))
 ·obtain⟨a5,G,t,I,J,L,R⟩:=r;cases J;exact⟨_,G,t,I,rfl,W _ _ B L,R⟩
theorem Qm:∀(l m:List Ae),TriplesOk l->Cf d l=Ab c->Cf d (l++m)=Ab c:=by
 intro l m
 fun_induction TriplesOk l with
 |case1=>intro _ h;contradiction
 |case2 a w b z v o s=>
  intro k h;dsimp only[Ee,Cf] at h ⊢;split at h
  ·rename_i q;rw[if_pos q];exact h
  ·rename_i q;rw[if_neg q];exact s k h
 |case3=>intro k;exact k.elim
noncomputable abbrev V9 (name h:Str)(params:D8)(k:List Bq)(scope:Bf)(o:List (Str×Ai))(s w z:Ae):Fz:=
 {name,qualname:=h,params,body:=.stmts k,scope,globals:=Cd,closure:=o,defaults:=.none,kwdefaults:=.none,pyModule:=s,code:=w,closureTuple:=z,builtins:=Jg}
noncomputable abbrev Xq (name o:Str)(h:D8)(s:List Bq)(k:Bf)(w:List (Str×Ai))(z A C:Ae):Obj:=
 {cls:=.type "function",data:=.func (V9 name o h s k w z A C)}
noncomputable abbrev VL (name h:Str)(params:D8)(k:Expr)(scope:Bf)(o:List (Str×Ai))(s w z:Ae):Fz:=
 {name,qualname:=h,params,body:=.expr k,scope,globals:=Cd,closure:=o,defaults:=.none,kwdefaults:=.none,pyModule:=s,code:=w,closureTuple:=z,builtins:=Jg}
variable {c:Ai}{n:Nat}{vs:List Ae}{t:Expr}{g:Array CB} in
inductive Da (h:AS)(cd:Ae)(q:Str):Prop
 |mk (c:Ai) (o:Obj) (vs:Array Ae) (t:Tok) (e:cd=.ref c) (g:h.get? c=Ab o) (k:o.cls=.type "code") (d:o.data=.fields vs) (n:vs[1]? =Ab (.str q t))
theorem Da.db (x:Da h f q):h.CodeRec f q:=by obtain⟨c,o,k,t,a,b,_,d,e⟩:=x;exact⟨c,o,k,t,a,b,d,e⟩
theorem Da.at_ (x:Da h f q)(k:∀b o,h.get? b=Ab o->o.cls=.type "code"->H.get? b=Ab o):Da H f q:=by obtain⟨c,o,s,t,a,b,hc,d,e⟩:=x;exact⟨c,o,s,t,a,k _ _ b hc,hc,d,e⟩
theorem Da.of (x:h.CodeRec (.ref c) q)(T:FC h c P a):Da h (.ref c) q:=by
 obtain⟨C,o,s,t,e,k,w,z⟩:=x;cases e;obtain⟨E,A,hc⟩:=mJ T.hd;obtain rfl:=A4 k A;exact⟨c,o,s,t,rfl,k,hc,w,z⟩
structure tJ (h h':AS)(P c:Ai)(ps ps':Array Ae)(pos:Pos)(qual:Str)(f:Ai)(o:Obj)(cv:Ae):Prop where
 ext:BB P h h'
 new:h.get? f=Ah
 at_:h'.get? f=Ab o
 ji:FC h' c P ps'
 hit:Cf pos ps'.toList=Ab cv
 db:Da h' cv qual
 more:∀pos' cv',Cf pos' ps.toList=Ab cv'->Cf pos' ps'.toList=Ab cv'
 only:∀pos' cv',Cf pos' ps'.toList=Ab cv'->Cf pos' ps.toList=Ab cv'\/(cv'=cv/\Cf pos ps.toList=Ah/\pos'.line=pos.line/\pos'.col=pos.col)
 same:(Cf pos ps.toList).isSome=Ag->ps'=ps
 pre:∃more,ps'=ps++more
theorem MP {e:Pos}:∀(l:List Ae),TriplesOk l->Cf d (l++[BS e.line,BS e.col,c])=Ab f->Cf d l=Ab f\/(f=c/\d.line=e.line/\d.col=e.col):=by
 intro l
 fun_induction TriplesOk l with
 |case1=>
  intro _ h;dsimp only[DU,Cf,BS] at h;split at h
  ·rename_i q;rw[AG,beq_iff_eq] at q;cases h;exact .inr ⟨rfl,(JB q.1).symm,(JB (BO q.2)).symm⟩
  ·contradiction
 |case2 a w b z v o s=>
  intro k h;dsimp only[Ee,Cf] at h ⊢;split at h
  ·rename_i q;rw[if_pos q];exact .inl h
  ·rename_i q;rw[if_neg q];exact s k h
 |case3=>intro k;exact k.elim
theorem VB {M:Dq}{n:Array Ae}
 (a3:closureFor scope z=pure m) (a4:z.globals=Cd) (hg:s.heap.Ns Cd mg) (D:z.code=.ref c) (T:FC s.heap c P n) (a5:Cd≠P) (L:s.heap.BuiltinsAt mg P)
 (a6:∀V,Cf j n.toList=Ab V->Da s.heap V i)
 (b4:∀f V x W Z C,tJ s.heap W P c n C j i f {cls:=.type "function",data:=.func {name,qualname:=i,params,body:=.expr u,scope,globals:=Cd,closure:=m,defaults:=.none,kwdefaults:=.none,pyModule:=(mg "__name__").getD .none,code:=V,closureTuple:=x,builtins:=Jg}} V->s.toks<=Z->s.heap.objs.size<=f->
  Q (.ref f) {s with heap:=W,toks:=Z}):
 Av M A (makeFunction name i params (.expr u) scope z [] [] [] j p) Q E s:=by
 rw[makeFunction_eq];simp;refine Jr λ gg kk=>?_;obtain⟨bm,ob,a7,R,_,S,a8,U,G,I⟩:=L;refine kk ?_;have y:∀x h H,(∀b o,s.heap.get? b=Ab o->h.get? b=Ab o)->s.heap.objs.size<=h.objs.size->s.toks<=H->
  Av M A (do
   let cd <-functionCode z j p name i params scope (.expr u)
   let Y <-builtinsFor Cd z.builtins
   let nm <-nsGet Cd "__name__"
   newObj (.type "function") (.func {name,qualname:=i,params,body:=.expr u,scope,globals:=Cd,closure:=m,defaults:=.none,kwdefaults:=.none,annotations:=Ah,pyModule:=nm.getD .none,code:=cd,closureTuple:=x,builtins:=Y,doc:=.none})) Q E {s with heap:=h,toks:=H}:=λ x h H w N v=>by
  have B:=T.keeps w;have y:∀V W Z C,BB P h W->h.objs.size<=W.objs.size->FC W c P C->Cf j C.toList=Ab V->Da W V i->(∀k O,Cf k n.toList=Ab O->Cf k C.toList=Ab O)->
   (∀k O,Cf k C.toList=Ab O->Cf k n.toList=Ab O\/(O=V/\Cf j n.toList=Ah/\k.line=j.line/\k.col=j.col))->((Cf j n.toList).isSome=Ag->C=n)->(∃a0,C=n++a0)->s.toks<=Z->
   Av M A (do
    let Y <-builtinsFor Cd z.builtins
    let nm <-nsGet Cd "__name__"
    newObj (.type "function") (.func {name,qualname:=i,params,body:=.expr u,scope,globals:=Cd,closure:=m,defaults:=.none,kwdefaults:=.none,annotations:=Ah,pyModule:=nm.getD .none,code:=V,closureTuple:=x,builtins:=Y,doc:=.none})) Q E {s with heap:=W,toks:=Z}:=λ V W Z C hx hz T' a9 rc a1 only same b0 l=>by
   have a2:=(hg.keeps w).extBut hx a5;refine Ac (wpAny_builtinsFor a2 a7 R (hx _ _ S (w _ _ a8)) U G I (Ac (wpAny_nsGet a2 ?_)));exact B2 (b4 W.objs.size V x _ Z C ⟨λ b o L e=>AH _ ((λ b o L e=>hx b o L (w b o e)) b o L e),(Lj (Aa N hz)),AD _ rfl,T'.keeps λ b o e=>AH _ e,a9,rc.at_ λ b o e _=>AH _ e,a1,only,same,b0⟩ l (Aa N hz)) (by size_fits)
  refine Ac (Wb D B (λ b5 s Q E hQ=>wpAny_newCodeX λ c' P' W Z a b d e f g=>hQ c' P' W Z a b d e f g) (λ V hc=>?_) λ J c' P' W Z hx b1 b6 b2 b7 T' b3 rc l=>?_)
  ·exact y V h H n (λ _ _ _ e=>e) (An _) B hc ((a6 V hc).at_ λ b o e _=>w b o e) (λ _ _ e=>e) (λ _ _ e=>.inl e) (λ _=>rfl) ⟨#[],by rfl⟩ v
  ·have hl:(n++ #[BS j.line,BS j.col,BI c']).toList=n.toList++[BS j.line,BS j.col,.ref c']:=by simp
   refine y (.ref c') W Z _ hx (AX (Ay b1 b2)) T' ?_ (.of rc b3) (λ k O e=>?_) (λ k O e=>?_) (λ q=>by(first |exact Dn J q |obtain rfl:=A4 J q |cases J.symm.trans q |(rw[J] at q;exact Bv q))) ⟨_,rfl⟩ (Aa v l)
   ·rw[hl];exact codeAmong_snoc _ T.ok J
   ·rw[hl];exact Qm _ _ T.ok e
   ·rw[hl] at e;exact(MP _ T.ok e).imp id λ q=>⟨q.1,J,q.2⟩
 dsimp only[makeTail];rw[a3,a4];refine Ac (Ar ?_);have go:∀x h,(∀b o,s.heap.get? b=Ab o->h.get? b=Ab o)->s.heap.objs.size<=h.objs.size->Av M A (do
  let cd <-functionCode z j p name i params scope (.expr u)
  let Y <-builtinsFor Cd z.builtins
  let nm <-nsGet Cd "__name__"
  let t <-pure .none
  newObj (.type "function") (.func {name,qualname:=i,params,body:=.expr u,scope,globals:=Cd,closure:=m,defaults:=.none,kwdefaults:=.none,annotations:=Ah,pyModule:=nm.getD .none,code:=cd,closureTuple:=x,builtins:=Y,doc:=t})) Q E {s with heap:=h}:=λ x h w N=>by
  exact y x h s.toks w N (An _)
 cases m with
 |nil=>
  refine Ac (Ar ?_);exact go .none s.heap (λ _ _ e=>e) (An _)
 |cons q r=>
  refine Ac (wpAny_newTextTuple ?_);exact go (.ref s.heap.objs.size) _ (λ b o' e=>AH _ e) (by rw[CU];exact Bo _)
noncomputable abbrev gG (h:Array DictEntry)(k:Nat):Obj:={cls:=.type "dict",data:=.dict h k}
structure wT (h:AS)(a:Ai)(m:Str->Option Ae):Prop where
 obj:∃es ep,h.get? a=Ab (gG es ep)/\StrKeys es/\UniqKeys es/\∀name,Ic es name=m name
theorem wT.ln {m:Str->Option Ae}(x:wT h a m):h.Ns1 a m:=by obtain⟨k,o,e,a,b,c⟩:=x.obj;exact⟨_,k,o,e,rfl,a,b,c⟩
theorem wT.ns {m:Str->Option Ae}(x:wT h a m):h.Ns a m:=x.ln.ns
noncomputable def ZN (m:Str->Option Ae)(name:Str)(v:Ae):Str->Option Ae:=λ x=>if x=name then Ab v else m x
noncomputable def sT (m:Str->Option Ae)(name:Str):Str->Option Ae:=λ x=>if x=name then Ah else m x
variable {args:List PV}{pos:Pos} in
noncomputable abbrev OZ (x y:Str)(h k:Pos):D8:={posonlyargs:=[],args:=[{arg:=x,annotation:=Ah,pos:=h},{arg:=y,annotation:=Ah,pos:=k}],vararg:=Ah,kwonlyargs:=[],kw_defaults:=[],kwarg:=Ah,defaults:=[]}
variable {body:List Bq}{bk:List (Str×Ai)}{pos:Pos}{y:Str} in
structure L8 where
 name:Str
 x:Str
 y:Str
 px:Pos
 py:Pos
 body:List Bq
 sc:Bf
 pos:Pos
 bk:List (Str×Ai)
noncomputable def MY (k:AS)(f:Ai)(h:Str)(s:Ae)(r:L8):Prop:=∃o w,k.get? f=Ab (Xq r.name h (OZ r.x r.y r.px r.py) r.body r.sc r.bk s o w)/\Da k o h
section
noncomputable def Qn:List Str:=["__module__","__qualname__","__firstlineno__","__slots__","__hash__","__static_attributes__"]
end
noncomputable abbrev gv:List Ae:=((Ab #[Value.type "object"]).getD #[]).toList
noncomputable abbrev gB:List Ae:=if gv.isEmpty=Ag then[Value.type "object"] else gv
section
end
theorem YN (e:h.get? a=Ab o):o.isFreed=Au:=(Heap.get?_some_iff.mp e).2
noncomputable def jV (h:Array (Option Ae))(i:Nat)(v:Option Ae):Array (Option Ae):=(h++Array.replicate (i+1-h.size) Ah).setIfInBounds i v
theorem Sm {M:Dq}{b:Unit->Aq->Prop}(h:s.heap.get? a=Ab o)(w:i<1000)
 (z:∀k,k.get? a=Ab {o with slots:=jV o.slots i v}->BK a s.heap k->b () {s with heap:=k}):Av M A (setSlotAt a i v) b E s:=by
 unfold setSlotAt;rw[if_neg (Nat.not_le.mpr (Ao w (by rw[sizeLine_eq];decide)))];refine Ac (Ar (MZ h (z _ ?_ (BN ..))));refine B1 (λ o=>{o with slots:=(o.slots++Array.replicate (i+1-o.slots.size) Ah).setIfInBounds i v}) h ?_;have C:=YN h;obtain⟨c,d,H,N⟩:=o;cases H<;>first |rfl |exact C
theorem kR:mroOf (.type "object")=pure [.type "object"]:=by kernel_rfl
theorem Yp {M:Dq}{m:Str->Option Ae}(N:h.get? a=Ab o)(O:o.data=.cls b)(w:b.mro=[.ref a,.type "object"])(W:h.Ns b.ns m)
 (C:(match m name with |some v=>pure (Ab v) |none=>Ff (.type "object") name)=pure r):FS M h (Ff (.ref a) name) r:=by
 intro A Q E s k q;rw[typeLookup_eq];refine Ac (Ac (Ac (wpAny_load (k _ _ N) ?_)));rw[O];refine Ar (Ar ?_);rw[w,lookupAlong_cons];refine Ac ?_;refine Ac (Ac (wpAny_load (k _ _ N) ?_));rw[O];refine Ar ?_;refine wpAny_nsGet (W.keeps k) ?_;cases V:m name with
 |some v=>rw[V] at C;injection C with e;subst e;exact Ar q
 |none=>
  rw[V] at C;have z:=C;rw[typeLookup_eq,kR] at z;have H:lookupAlong [.type "object"] name=pure r:=z;rw[H];exact Ar q
theorem QP {M:Dq}(z:h.get? a=Ab o)(C:o.data=.cls c)(w:c.mro=[.ref a,.type "object"])(H:([BI a,.type "object"]:List Ae).contains b=r):FS M h (isSubtype (.ref a) b) r:=by
 intro A Q E s k q;unfold isSubtype;refine Ac (Ac (Ac (wpAny_load (k _ _ z) ?_)));rw[C];refine Ar (Ar ?_);rw[w];dsimp only;rw[if_neg (by simp),H];exact Ar q
section
noncomputable abbrev VC (h:Str)(k:Nat)(a:Ai):Obj:={cls:=.type "member_descriptor",data:=.fields #[.str h k,.ref a,.builtin "proto.slot",.builtin "proto.slot#set",BS 0]}
end
section
end
noncomputable abbrev C! (a k:Ai)(name h:Str):ClassData:={name:=name,bases:=gB,mro:=[.ref a,.type "object"],ns:=k,qualname:=h,hasDel:=Au}
variable {c md:Ai}{n:Nat}{g:Array CB} in
inductive Zv (h:AS)(a:Ai)(name qual sn:Str)(m:Str->Option Ae):Prop
 |mk (o:Obj) (ns md:Ai) (mtk:Tok) (g:h.get? a=Ab o) (c:o.cls=.type "type") (d:o.dict=Ah) (k:o.data=.cls {C! a ns name qual with hasDict:=Au,slotNames:=[sn]}) (s:(o.slots[4]?).join=Ab (.builtin "object.__new__"))
  (n:wT h ns (ZN (ZN (sT m "__qualname__") sn (.ref md)) "__doc__" .none)) (e:h.get? md=Ab (VC sn mtk a))
section
end
section
end
variable {a:Ai} in
noncomputable def K9 (h:Ai)(l:List Bq):List L8:=l.flatMap λ s=>if s.ctorIdx==0 then(match(Ip s).ar.args with
 |[a,b]=>[⟨(Ip s).nm,a.arg,b.arg,a.pos,b.pos,(Ip s).b 0,(Ip s).sc,(Ip s).p,if(Ip s).sc.names.lookup ("mycmp":Str)==Ab .free then[("mycmp",h)] else[]⟩]
 |_=>[]) else[]
variable {n:Nat}{r:List Bq}{m:Str->Option Ae} in
inductive iI (h:AS)(K:Ai)(qual slotn:Str)(pm:Ae)(names:List Str)(rs:List L8):Prop
 |mk (m:Str->Option Ae) (k:Zv h K "K" qual slotn m) (r:∀r∈rs,∃f,m r.name=Ab (.ref f)/\MY h f ((qual++".")++r.name) pm r) (n:∀x:Str,Qn.contains x=Au->x∉names->m x=Ah)
noncomputable def Jl (h k:AS):Prop:=∀b o,h.get? b=Ab o->o.cls≠.type "frame"->o.cls≠.none->(∀s,o.data≠.cell s)->k.get? b=Ab o
theorem BA.al (k:BA W h H):Jl h H:=λ b o e s w _=>k.keep e s w
theorem Lr.al (S:Lr W (Ea V z) h H)(F:FI W V z Z X h O)(A:DW z h):Jl h H:=λ b o e C d E=>S.keep b o (λ q=>by
 rcases q with rfl |⟨x,N,s⟩
 ·obtain⟨Q,f,g,k,hc,_⟩:=A;obtain rfl:=A4 e k;exact C hc
 ·obtain⟨c,i,a,⟨Q,k,w⟩,_⟩:=F.cell x (.inl N);obtain rfl:=A4 s a;obtain rfl:=A4 e k;exact E _ w) e
theorem MY.al (x:MY h f a b r)(o:Jl h H):MY H f a b r:=by
 obtain⟨w,z,A,c,C,E,t,N,O,k,s,Q⟩:=x;exact⟨w,z,o _ _ A (by simp) (by simp) (λ _ q=>by cases q),c,C,E,t,N,o _ _ O (by rw[k];simp) (by rw[k];simp) (λ _ q=>by cases s.symm.trans q),k,s,Q⟩
theorem Zv.al {m:Str->Option Ae}(x:Zv h a name b c m)(k:Jl h H):Zv H a name b c m:=by
 obtain⟨o,A,C,s,E,w,N,z,O,Q,V⟩:=x;refine⟨o,A,C,s,k _ _ E (by rw[w];simp) (by rw[w];simp) (λ _ q=>by cases z.symm.trans q),w,N,z,O,?_,k _ _ V (by simp) (by simp) (λ _ q=>by cases q)⟩;obtain⟨W,Z,e,r⟩:=Q.obj;exact⟨W,Z,k _ _ e (by simp) (by simp) (λ _ q=>by cases q),r⟩
theorem iI.al {K:Ai}{g d:Str}{i:Ae}{e:List Str}{j:List L8}(x:iI h K g d i e j)(k:Jl h H):iI H K g d i e j:=by
 obtain⟨m,a,b,c⟩:=x;exact⟨m,a.al k,λ r o=>by obtain⟨f,s,w⟩:=b r o;exact⟨f,s,w.al k⟩,c⟩
noncomputable abbrev Db (h:Fz)(L f:Ai):Env:=newEnv h.scope L h.globals h.closure (h.qualname++".<locals>.") (Ab f) h.code Ah h.builtins
structure XG (W:BV)(h:AS)(X:List Ai)(f:Ai)(fd:Fz)(ps:List Str)(φ:A5):Prop where
 obj:∃o,h.get? f=Ab o/\o.data=.func fd
 db:h.CodeRec fd.code fd.qualname
 bind:∀vals:List Ae,vals.length=ps.length->bindArgs fd ⟨vals,[]⟩=pure (ps.zip vals)
 co:fd.scope.isCoroutine=Au
 bi:fd.scope.isGenerator=Au
 kind:fd.scope.kind=.function
 bx:fd.globals=Cd
 blt:fd.builtins=Jg
 cp:∀x∈fd.scope.names,x.2≠.cell
 jj:∀x∈ps,D1 x=Ag/\fd.scope.names.lookup x=Ab .local
 nd:ps.Nodup
 gu:∀x sl,φ.lookup x=Ab sl->fd.scope.names.lookup x=Ab .free/\D1 x=Ag/\(∀d,sl≠.own d)
 free:∀x,fd.scope.names.lookup x=Ab .free->∃c ov,fd.closure.lookup x=Ab c/\h.IsCell c ov/\∀sl,φ.lookup x=Ab sl->∃v,ov=Ab v/\BU W (fd.closure.map (·.2)++X) (fd.closure.map (·.2)++X) h v sl
 inj:∀x y c,fd.closure.lookup x=Ab c->fd.closure.lookup y=Ab c->x=y
 alive:∀a∈fd.closure.map (·.2),W.h0.get? a=Ah/\∃o,h.get? a=Ab o
theorem kA {M:Dq}{h₀:AS}(f:Str×Ae->PUnit->Sem (ForInStep PUnit))(t:∀n v u,f (n,v) u=(do M3 z n v;pure (.yield ⟨⟩)))(hk:z.scope.kind=.function):
 ∀(k:List (Str×Ae))(m:Str->Option Ae)(s:Aq)(Q:PUnit->Aq->Prop),s.heap.Ns z.locals m->DW z s.heap->(∀b o,b≠z.locals->h₀.get? b=Ab o->s.heap.get? b=Ab o)->(∀x∈k,z.kindOf x.1=Ab .local)->
  (∀C H,C.Ns z.locals (Om z.kindOf k m)->DW z C->(∀b o,b≠z.locals->h₀.get? b=Ab o->C.get? b=Ab o)->s.toks<=H->Q ⟨⟩ {s with heap:=C,toks:=H})->Av M A (forIn k ⟨⟩ f) Q E s:=by
 intro k;induction k with
 |nil=>
  intro m s Q N O w _ h;exact Ar (h s.heap s.toks N O w (An _))
 |cons j r V=>
  intro m s Q N O w l h;rw[EF,t];have p:=l (j.1,j.2) Ad;refine Ac (Ac (C4 p N (λ C W Z g=>Ar ?_) (by rw[hk];rfl)));refine V _ {s with heap:=C,toks:=s.toks+1} Q W (O.bo g) (λ b o q e=>(Z.2 b q).trans (w b o q e)) (λ y B=>l y (Af _ B)) λ i H a b c d=>h i H ?_ b c (Aa (Bo _) d);rw[Om];rw[if_pos p];exact a
theorem WP (D:XG W s.heap X f fd g i)(G:Gd W s)(hX:∀b∈X,W.h0.get? b=Ah/\∃o,s.heap.get? b=Ab o)
 (r:MT W (fd.closure.map (·.2)++X) s.heap a args) (M:args.length=g.length) {j:Env->Aq->Prop}
 (hQ:∀k C,XB W fd.scope (Db fd s.heap.objs.size f) s.heap->s.toks<=C->XS W fd.scope (Db fd s.heap.objs.size f) s.heap (AV (Db fd s.heap.objs.size f)++X) (AV (Db fd s.heap.objs.size f)++X) {s with heap:=k,toks:=C} (g.zip args++i)->j (Db fd s.heap.objs.size f) {s with heap:=k,toks:=C}):
 Av W.M A (F3 fd.scope fd.globals fd.closure (g.zip a) (fd.qualname++".<locals>.") (Ab f) fd.code Ah fd.builtins) j E s:=by
 simp only[F3,Option.isSome_none,BR,if_false];refine Ac (OY ?_);rw[forIn_yield_id fd.closure (λ x S c=>by
    obtain⟨name,J⟩:=x;have:(J==Co)=Au:=by simpa using D.cp _ S
    simp only[this,BR,if_false])]
 refine Ac (Ar (Ac ?_));have hk:∀b o,s.heap.get? b=Ab o->(s.heap.push {cls:=.type "frame",data:=.dict #[]}).get? b=Ab o:=λ b o e=>AH _ e;have T:∀x∈g.zip a,fd.scope.names.lookup x.1=Ab .local:=λ x S=>(D.jj x.1 (R4 (vs:=a) (AF.mpr ⟨x,S,rfl⟩))).2;refine kA (z:=Db fd s.heap.objs.size f) (h₀:=s.heap) _ (λ _ _ _=>rfl) D.kind (g.zip a) (λ _=>Ah) {s with heap:=s.heap.push {cls:=.type "frame",data:=.dict #[]}} _ (Heap.Ns.new s.heap (.type "frame")) ⟨_,_,_,AD _ rfl,rfl,rfl⟩ (λ b o Q e=>hk b o e) T λ k C hn fc kp V=>Ar ?_;have w:s.heap.get? s.heap.objs.size=Ah:=Ch s.heap;have m:∀b o,s.heap.get? b=Ab o->k.get? b=Ab o:=λ b o e=>kp b o (λ q=>by rw[q] at e;have e':s.heap.get? s.heap.objs.size=Ab o:=e;exact Dn w e') e;have p:BA W s.heap k:=.af m;have t:W.h0.get? s.heap.objs.size=Ah:=DC G.ao w;have U:∃o,k.get? s.heap.objs.size=Ab o:=by obtain⟨o,_,_,ho,_⟩:=hn;exact⟨o,ho⟩
 have Z:∀b,b∈AV (Db fd s.heap.objs.size f)↔b=s.heap.objs.size\/b∈fd.closure.map (·.2):=λ b=>Al
 have Y:∀{b o},s.heap.get? b=Ab o->b≠s.heap.objs.size:=λ e q=>by rw[q,w] at e;cases e
 have B:∀b o,s.heap.get? b=Ab o->b∉fd.closure.map (·.2)++X->(o.cls=.type "list"\/o.cls=.type "tuple"\/o.cls=.type "dict")->k.get? b=Ab o/\b∉AV (Db fd s.heap.objs.size f)++X:=λ b o e n _=>⟨m b o e,λ q=>by
  rcases AK.mp q with q |q
  ·rcases(Z b).mp q with q |q
   ·exact Y e q
   ·exact n (A8 _ q)
  ·exact n (AU _ q)⟩
 have rr:MT W (AV (Db fd s.heap.objs.size f)++X) k a args:=r.bi B;have l:∀{y O},(g.zip args).lookup y=Ab O->fd.scope.names.lookup y=Ab .local:=λ H=>(D.jj _ (IP H)).2;have N:∀{y O},(g.zip args++i).lookup y=Ab O->(g.zip args).lookup y=Ab O\/i.lookup y=Ab O:=λ{y O} H=>by
  rw[Mg] at H;cases q:(g.zip args).lookup y with
  |some z=>rw[q] at H;exact .inl H
  |none=>rw[q] at H;exact .inr H
 have L:∀{y d},(g.zip args++i).lookup y≠Ab (.own d):=λ{y d} H=>by
  rcases N H with q |q
  ·exact absurd q (MT.fk rr)
  ·exact(D.gu _ _ q).2.2 d rfl
 have F:FI W fd.scope (Db fd s.heap.objs.size f) (AV (Db fd s.heap.objs.size f)++X) (AV (Db fd s.heap.objs.size f)++X) k (g.zip args++i):={
  bb:=λ b Q=>AK.mpr (.inl Q)
  zx:=λ b Q=>Q
  kind:=D.kind
  bx:=D.bx
  blt:=D.blt
  ea:=λ y h=>h
  da:=λ y h=>h
  df:=λ y h=>.inl h
  dp:=λ y h=>h
  ns:=⟨_,hn,λ y O M H=>by
   rcases N H with q |q
   ·exact(Tc _ _ rr D.nd q).1 M
   ·rw[(D.gu _ _ q).1] at M;cases M⟩
  cell:=λ y H=>by
   have I:fd.scope.names.lookup y=Ab .free:=H.resolve_left λ q=>D.cp _ (mem_of_lookup q) rfl;obtain⟨c,ov,e1,⟨oc,a0,a1⟩,e3⟩:=D.free y I;refine⟨c,ov,e1,⟨oc,m _ _ a0,a1⟩,λ O H=>?_⟩;rcases N H with q |q
   ·rw[l q] at I;cases I
   ·obtain⟨v,e4,R⟩:=e3 O q;refine⟨v,e4,?_⟩;cases O with
    |av u=>exact R
    |cg u d=>exact⟨R.1,Rp.bi B R.2⟩
    |aa d=>exact Rp.bi B R
    |own d=>exact absurd rfl ((D.gu _ _ q).2.2 d)
  inj:=D.inj
  dt:=λ y O H=>by
   rcases N H with q |q
   ·exact⟨.inl (l q),(D.jj _ (IP q)).1⟩
   ·exact⟨.inr (.inr (D.gu _ _ q).1),(D.gu _ _ q).2.1⟩
  alive:=λ b Q=>by
   rcases AK.mp Q with q |q
   ·rcases(Z b).mp q with q |q
    ·subst q;exact⟨t,U⟩
    ·exact⟨(D.alive b q).1,BJ p (D.alive b q).2⟩
   ·exact⟨(hX b q).1,BJ p (hX b q).2⟩
  ci:=λ y z d e h1 h2=>absurd h1 L}
 refine hQ k C ⟨G.ao,G.dl,λ b Q=>?_⟩ V ⟨F,p,Aa G.toks V,λ b Q hz=>absurd Q hz,fc⟩;rcases Q with rfl |⟨y,H,_⟩
 ·exact w
 ·exact absurd rfl (D.cp _ (mem_of_lookup H))
theorem UB {R:Ev->Aq->Prop}(D:XG W s.heap X f fd d e)(N:fd.body=.stmts c)(C:W.h0.NoLimit)(O:CX (k+1) A)(G:Gd W s)(Q:∀b∈X,W.h0.get? b=Ah/\∃o,s.heap.get? b=Ab o)
 (r:MT W (fd.closure.map (·.2)++X) s.heap a args) (H:args.length=d.length)
 (V:∀w h,XB W fd.scope (Db fd s.heap.objs.size f) s.heap->s.toks<=h->XS W fd.scope (Db fd s.heap.objs.size f) s.heap (AV (Db fd s.heap.objs.size f)++X) (AV (Db fd s.heap.objs.size f)++X) {s with heap:=w,toks:=h} (d.zip args++e)->
  Av W.M (A.deeper (Db fd s.heap.objs.size f)) (execs c (Db fd s.heap.objs.size f)) (λ Z g=>R (.ok (.ret (match Z with | .ret v=>v |_=>.none))) g) (λ _ _=>False) {s with heap:=w,toks:=h}):
 Ep W.M A (.call (.ref f) ⟨a,[]⟩) R s:=by
 obtain⟨o,i,j⟩:=D.obj;refine OI (Cu (Ay (AR ..) O.depth) (by decide+kernel)) i j D.co D.bi N D.db ?_;simp only[D.bind a (r.length.trans H)];refine Ar (WP D G Q r H λ w h B E S=>⟨?_,codeAny_func ?_⟩)
 ·obtain⟨l,m,n⟩:=C;exact⟨l,Dl (G.ao.trans S.le) m,n⟩
 ·exact DH (V w h B E S) (λ _ _ z=>z) λ _ _ z=>z.elim
theorem nJ {R:Ev->Aq->Prop}(D:XG W s.heap X f fd d e)(N:fd.body=.expr a)(C:W.h0.NoLimit)(O:CX (k+1) A)(G:Gd W s)(Q:∀b∈X,W.h0.get? b=Ah/\∃o,s.heap.get? b=Ab o)
 (r:MT W (fd.closure.map (·.2)++X) s.heap c args) (H:args.length=d.length)
 (V:∀w h,XB W fd.scope (Db fd s.heap.objs.size f) s.heap->s.toks<=h->XS W fd.scope (Db fd s.heap.objs.size f) s.heap (AV (Db fd s.heap.objs.size f)++X) (AV (Db fd s.heap.objs.size f)++X) {s with heap:=w,toks:=h} (d.zip args++e)->
  Av W.M (A.deeper (Db fd s.heap.objs.size f)) (eval a (Db fd s.heap.objs.size f)) (λ v Z=>R (.ok (.ret v)) Z) (λ _ _=>False) {s with heap:=w,toks:=h}):
 Ep W.M A (.call (.ref f) ⟨c,[]⟩) R s:=by
 obtain⟨o,g,i⟩:=D.obj;refine kla_callFunE (Cu (Ay (AR ..) O.depth) (by decide+kernel)) g i D.co D.bi N D.db ?_;simp only[D.bind c (r.length.trans H)];refine Ar (WP D G Q r H λ w h B E S=>⟨?_,kla_codeExpr ?_⟩)
 ·obtain⟨j,l,m⟩:=C;exact⟨j,Dl (G.ao.trans S.le) l,m⟩
 ·exact DH (V w h B E S) (λ _ _ z=>z) λ _ _ z=>z.elim
open PySem.Calls Builtin.ObjectAttr Builtin.Getset_descriptor
variable {a c f:Ai}{n:Nat}{g:Array CB}{m:Str->Option Ae} in
inductive wP (h:AS)(K:Ai)(sn:Str):Prop
 |mk (o:Obj) (cd:ClassData) (g:h.get? K=Ab o) (c:o.cls=.type "type") (d:o.data=.cls cd) (m:cd.mro=[.ref K,.type "object"]) (s:cd.slotNames=[sn]) (e:cd.hasDel=Au) (a:cd.abstract=Au) (f:cd.hasDict=Au) (n:(o.slots[4]?).join=Ab (.builtin "object.__new__"))
variable {v:Ae} in
structure Kq (M:Dq)(h:AS)(K md:Ai)(sn:Str)(m:Str->Option Ae):Prop where
 cls:wP h K sn
 mem:∃mtk,h.get? md=Ab (VC sn mtk K)
 gx:∀(name:Str) r,(match(if name=("__doc__":Str) then Ab E0 else if name=sn then Ab (.ref md) else if name=("__qualname__":Str) then Ah else m name) with |some v=>pure (Ab v) |none=>Ff (.type "object") name)=(pure r:Sem (Option Ae))->FS M h (Ff (.ref K) name) r
theorem Zv.ask {M:Dq}{b:Str}{m:Str->Option Ae}{K:Ai}{name a:Str}(x:Zv h K name a b m):∃k,Kq M h K k b m:=by
 obtain⟨o,O,k,s,w,A,Q,z,C,E,H⟩:=x;exact⟨k,⟨o,_,w,A,z,rfl,rfl,rfl,rfl,rfl,C⟩,⟨s,H⟩,λ nm r N=>Yp w z rfl E.ns N⟩
section
theorem Kq.mro {a K:Ai}{M:Dq}{b:Str}{m:Str->Option Ae}(x:Kq M h K a b m):FS M h (mroOf (.ref K)) [.ref K,.type "object"]:=by
 obtain⟨o,z,k,A,s,w,_⟩:=x.cls;rw[<-w];refine((HH k).andThen ?_).andThen .now;rw[s];exact .now
theorem Kq.sub {a K:Ai}{M:Dq}{c:Str}{m:Str->Option Ae}(x:Kq M h K a c m){b:Ae}{r:Bool}(k:([BI K,.type "object"]:List Ae).contains b=r):FS M h (isSubtype (.ref K) b) r:=by
 obtain⟨o,A,s,C,w,z,_⟩:=x.cls;exact QP s w z k
theorem Kq.slots {b K:Ai}{M:Dq}{a:Str}{m:Str->Option Ae}(x:Kq M h K b a m):FS M h (Slots.slotNamesOf (.ref K)) [a]:=by
 obtain⟨o,z,k,A,s,C,w,_⟩:=x.cls;rw[<-w];refine((HH k).andThen ?_).andThen .now;rw[s];exact .now
theorem kZ:Ff (.type "member_descriptor") "__get__"=pure (Ab (.builtin "member_descriptor.__get__")):=by rw[typeLookup_type,builtinLookup_eq_fast];kernel_rfl
theorem SJ:Ff (.type "member_descriptor") "__set__"=pure (Ab (.builtin "member_descriptor.__set__")):=by rw[typeLookup_type,builtinLookup_eq_fast];kernel_rfl
theorem Kq.de {a K:Ai}{M:Dq}{b:Str}{m:Str->Option Ae}(x:Kq M h K a b m):FS M h (Md (.ref a)) (.type "member_descriptor"):=by
 obtain⟨k,e⟩:=x.mem;exact(HH e).andThen .now
theorem Kq.jg {b K:Ai}{M:Dq}{a:Str}{m:Str->Option Ae}(x:Kq M h K b a m)(k:a≠"__doc__"):FS M h (Ff (.ref K) a) (Ab (.ref b)):=x.gx a _ (by rw[if_neg k,if_pos rfl])
noncomputable def EC (h:AS)(x K:Ai)(v:Ae):Prop:=∃k,h.get? x=Ab {cls:=.ref K,dict:=Ab k,data:=.plain,slots:= #[Ab v]}
theorem EC.al {v:Ae}{K:Ai}{x:Ai}(i:EC h x K v)(k:Jl h H):EC H x K v:=by obtain⟨o,e⟩:=i;exact⟨o,k _ _ e (by simp) (by simp) (λ _ q=>by contradiction)⟩
theorem EC.ty {M:Dq}{v:Ae}{K:Ai}{x:Ai}(i:EC h x K v):FS M h (Md (.ref x)) (.ref K):=by obtain⟨k,e⟩:=i;exact(HH e).andThen .now
end
section
theorem Yy {c K:Ai}{R:Ev->Aq->Prop}{v:Ae}{g:Array CB}{e:Str}{m:Str->Option Ae}{os:GS}{a:Fw}{d:M9}{t:Nat}{x:Ai}{b:Ae}(X:Kq (model a w) h K c e m)(I:EC h x K v)(s:R (.ok (.ret v)) ⟨h,g,d,t,os⟩):Ep (model a w) A (.call (.builtin "member_descriptor.__get__") ⟨[.ref c,.ref x,b],[]⟩) R ⟨h,g,d,t,os⟩:=by
 obtain⟨o,k⟩:=X.mem;obtain⟨z,C⟩:=id I;have E:=I.ty (M:=model a w);have H:=X.sub (b:=.ref K) (r:=Ag) (by simp);have N:=X.slots;have O:=Il (M:=model a w) k 0 (v:=.str e o) rfl;have Q:=Il (M:=model a w) k 1 (v:=.ref K) rfl;have V:=Il (M:=model a w) k 2 (v:=.builtin "proto.slot") rfl;have W:=Il (M:=model a w) k 4 (v:=BS 0) rfl;refine JA KF.slot_mem.plain KF.entry_mem (KF.slot_mem.check _ _ _ _ _ _ _ _ ⟨_,k,rfl⟩ (KF.args_mem _ _ _) ?_);unfold Builtin.«member_descriptor.__get__» descrGet;rw[dga_obj];refine Ac (Ar ?_);unfold descrGetter descrCheckInstance descrNameAndClass isInstance
 repeat lk
 refine⟨Code.quiet_builtin _ (by decide+kernel),Gq KF.entry_slot ?_⟩;unfold Builtin.«proto.slot» Slots.target
 repeat lk
 exact s
theorem RE {e K:Ai}{v:Ae}{g:Array CB}{c:Str}{m:Str->Option Ae}{os:GS}{a:Fw}{d:M9}{t:Nat}{x:Ai}{b:Bool}(X:Kq (model a w) h K e c m)(I:EC h x K v)(k:c≠"__doc__")(o:m "__getattribute__"=Ah)(s:m "__getattr__"=Ah)(z:("__getattribute__":Str)≠c)(C:("__getattr__":Str)≠c)(N:IH v=Ag)(O:Q v ⟨h,g,d,t+1,os⟩):
 Av (model a w) A (getAttr (.ref x) c b) Q E ⟨h,g,d,t,os⟩:=by
 have H:=I.ty (M:=model a w);have V:FS (model a w) h (Ff (.ref K) "__getattribute__") (Ab (.builtin "object.__getattribute__")):=X.gx _ _ (by rw[if_neg (by decide+kernel),if_neg z,if_neg (by decide+kernel),o];kernel_rfl);have W:FS (model a w) h (Ff (.ref K) "__getattr__") Ah:=X.gx _ _ (by rw[if_neg (by decide+kernel),if_neg C,if_neg (by decide+kernel),s];kernel_rfl);have Z:FS (model a w) h (takesStores (.ref e)) Ag:=(X.de.andThen (Fp SJ)).andThen .now;have f:FS (model a w) h (find (.ref x) (.ref K) c) (.bind (.builtin "member_descriptor.__get__") (.ref e)):=(X.jg k).andThen ((X.de.andThen (Fp kZ)).andThen ((show FS (model a w) h (dataDescriptor? (Ab (.ref e)) (Ab (.builtin "member_descriptor.__get__"))) (Ab (.builtin "member_descriptor.__get__",.ref e)) from Z.andThen .now).andThen (Looks.tag .now)));refine Ac (wpAny_mkText (Br (Ac (H.at (Ac (V.at ?_))))));refine Ac (wpAny_onRaise (wpAny_runValue (Gq F.plainObj_entry_getattr_hooked ?_)));refine Ac (Ar (Ac (H.at (Ac (f.at (Ac (W.at ?_)))))));refine Ac (Br (Ia (Yy X I (Ar ?_))));show Av _ _ (handedOut v) _ _ _;rw[handedOut_of N];exact Ar O
end
section
noncomputable abbrev RG (K h:Ai)(k:Array (Option Ae)):Obj:={cls:=.ref K,dict:=Ab h,data:=.plain,slots:=k}
theorem Yx {b K:Ai}{R:Ev->Aq->Prop}{v:Ae}{g:Array CB}{e:Str}{m:Str->Option Ae}{os:GS}{a:Fw}{d:M9}{t:Nat}{x c:Ai}(X:Kq (model a w) h K b e m)(C:h.get? x=Ab (RG K c #[]))(E:∀o,o.get? x=Ab (RG K c #[Ab v])->BK x h o->R (.ok (.ret .none)) ⟨o,g,d,t,os⟩):
 Ep (model a w) A (.call (.builtin "member_descriptor.__set__") ⟨[.ref b,.ref x,v],[]⟩) R ⟨h,g,d,t,os⟩:=by
 obtain⟨s,k⟩:=X.mem;have N:FS (model a w) h (Md (.ref x)) (.ref K):=(HH C).andThen .now;have O:=X.sub (b:=.ref K) (r:=Ag) (by simp);have Q:=X.slots;have V:=Il (M:=model a w) k 0 (v:=.str e s) rfl;have W:=Il (M:=model a w) k 1 (v:=.ref K) rfl;have Z:=Il (M:=model a w) k 3 (v:=.builtin "proto.slot#set") rfl;have f:=Il (M:=model a w) k 4 (v:=BS 0) rfl;refine JA KF.slot_mset.plain KF.entry_mset (KF.slot_mset.check _ _ _ _ _ _ _ _ ⟨_,k,rfl⟩ (KF.args_mset _ _ _) ?_);unfold Builtin.«member_descriptor.__set__» descrSet descrStoreThrough descrCheckInstance descrNameAndClass isInstance;have i:FS (model a w) h (descrItself (.ref b)) [.ref b]:=((HH k).andThen .now).andThen (Fp (by kernel_rfl))
 repeat lk
 refine⟨Code.quiet_builtin _ (by decide+kernel),Gq KF.entry_slotset ?_⟩;unfold Builtin.«proto.slot#set» Slots.target
 repeat lk
 refine Sm C (DN _) λ o z H=>?_;exact Ar (E o z H)
theorem YB {c K:Ai}{v:Ae}{g:Array CB}{b:Str}{m:Str->Option Ae}{os:GS}{a:Fw}{d:M9}{t:Nat}{x e:Ai}{f:Unit->Aq->Prop}(X:Kq (model a w) h K c b m)(O:h.get? x=Ab (RG K e #[]))(z:b≠"__doc__")(C:m "__setattr__"=Ah)(H:("__setattr__":Str)≠b)
 (V:∀o Q,o.get? x=Ab (RG K e #[Ab v])->BK x h o->t<=Q->f () ⟨o,g,d,Q,os⟩):Av (model a w) A (setAttr (.ref x) b v) f E ⟨h,g,d,t,os⟩:=by
 have k:=PySem.F.store_object;have s:FS (model a w) h (Md (.ref x)) (.ref K):=(HH O).andThen .now;have W:FS (model a w) h (Ff (.ref K) "__setattr__") (Ab (.builtin "object.__setattr__")):=X.gx _ _ (by rw[if_neg (by decide+kernel),if_neg H,if_neg (by decide+kernel),C];exact k.slot.lookup);have Z:=X.jg z;have i:FS (model a w) h (storeTaker? (Ab (.ref c))) (Ab (.ref c)):=((X.de.andThen (Fp SJ)).andThen .now:FS (model a w) h (takesStores (.ref c)) Ag).andThen .now;have j:=X.mro;unfold setAttr callSpecial? specialOf;refine Ac (wpAny_mkText ?_);refine Ac (Ac (Ac (s.at (W.at (Br ?_)))));refine Ac (Ar ?_);show Av _ _ (call (.builtin "object.__setattr__") [.ref x,.str b t,v] >>=_) _ _ _;refine Ac (Ia (JA k.slot.plain k.entry (@check_slot (model a w) _ _ _ "object.__setattr__" "object" "__setattr__" (.ref x) [.str b _,v] [] _ k.kind k.split (s.andThen (X.sub (by rfl))) (k.args (.ref x) (.str b _) v) ?_)));rw[osa_eq,refuse_eq];refine Ac (Ac (s.at (Ac (j.at ?_))));refine Ar (Ac (s.at (Ac (Z.at (Ac (i.at ?_))))));refine Ac (NR (Ac (Br (Ac (Ac (X.de.at ((Fp SJ).at (Br ?_))))))));refine Ac (Ar (Ac (Ia (Yx X O λ o N l=>?_))))
 repeat lk
 exact V o _ N l (Bo _)
end
theorem Kq.ip {a:Ai}{M:Dq}{b:Str}{m:Str->Option Ae}{K:Ai}(X:Kq M h K a b m):Makes M h K:=by
 obtain⟨o,H,z,N,O,V,e,W,Z,f,c⟩:=X.cls;obtain⟨g,i,j,l⟩:=o;subst N;subst O;have C:=X.mro;have w:FS M h (Bind.madeBy (.ref K)) (Ab "object.__new__"):=by
  intro A Q E s k q;unfold Bind.madeBy;refine Ac (C A _ E s k ?_);rw[EF];refine Ac (Ac (Ac (Ac (Ac (wpAny_loadPart (k _ _ z) (Ar ?_))))));rw[c];exact Ar (Ar (Ar (Ar q)))
 refine⟨⟨_,_,H,_,z,Z,W,by rw[V];rfl⟩,w,?_,X.sub (by simp),X.sub (by rfl),?_,?_⟩
 ·intro A Q E s k q;refine Ac (C A _ E s k ?_);rw[EF];exact Ac (Ac (Ac (w A _ E s k (Ar (Ar (Ar q))))))
 ·have d:FS M h (Md (.ref K)) (.type "type"):=(HH z).andThen .now;exact d.andThen (Fp (by kernel_rfl))
 ·exact((HH z).andThen .now).andThen (Fp (by kernel_rfl))
theorem Yn {c:Ai}{R:Ev->Aq->Prop}{a:List Ae}{m:Str->Option Ae}{K:Ai}{b:Ai}(X:Kq W.M s.heap K c "obj" m)(k:m "__init__"=Ab (.ref b))(w:∃o,s.heap.get? b=Ab o/\o.cls=.type "function")
 (z:Ep W.M (A.under (.builtin "type.__call__" ⟨.ref K::a,[]⟩)) (.call (.ref b) ⟨.ref (s.heap.objs.size+1)::a,[]⟩) (InitBack (s.heap.objs.size+1) R) {s with heap:=(s.heap.push M6).push (instObj K s.heap.objs.size)}):
 Ep W.M A (.call (.ref K) ⟨a,[]⟩) R s:=by
 obtain⟨o,C,hc⟩:=w;refine make_core X.ip (X.gx "__init__" _ (by rw[if_neg (by decide+kernel),if_neg (by decide+kernel),if_neg (by decide+kernel),k])) (λ h=>?_) (.inl rfl) z;have E:FS W.M s.1 (Md (.ref b)) (.type "function"):=by rw[<-hc];exact(HH C).andThen .now
 exact E.andThen (Fp (by kernel_rfl))
theorem U2 (K:Ai)(h:List Ae):(Code.builtin "type.__call__" ⟨.ref K::h,[]⟩).weight=1:=rfl
theorem XO (K:Ai)(h:List Ae):(Code.builtin "type.__call__" ⟨.ref K::h,[]⟩).cUnits=1:=rfl
theorem CX.new (o:CX (k+1) A)(K:Ai)(h:List Ae):CX k (A.under (.builtin "type.__call__" ⟨.ref K::h,[]⟩)) where
 handled:=o.handled
 depth:=by show A.depth+(Code.builtin "type.__call__" ⟨.ref K::h,[]⟩).weight+_<_;rw[U2];exact TU o.depth (by decide)
 units:=by show A.units+(Code.builtin "type.__call__" ⟨.ref K::h,[]⟩).cUnits+_<_;rw[XO];exact TU o.units (by decide)
structure US (r:L8):Prop where
 co:r.sc.isCoroutine=Au
 bi:r.sc.isGenerator=Au
 kind:r.sc.kind=.function
 cp:∀x∈r.sc.names,x.2≠.cell
 jj:∀x∈[r.x,r.y],D1 x=Ag/\r.sc.names.lookup x=Ab .local
 nd:[r.x,r.y].Nodup
 mz:∀(qual:Str)(bk:List (Str×Ai))(pm cd ct a b:Ae),bindArgs (V9 r.name qual (OZ r.x r.y r.px r.py) r.body r.sc bk pm cd ct) ⟨[a,b],[]⟩=pure [(r.x,a),(r.y,b)]
theorem US.k7 (T:US r)(x:MY h f e g r)
 (z:∀x k,φ.lookup x=Ab k->r.sc.names.lookup x=Ab .free/\D1 x=Ag/\(∀d,k≠.own d))
 (s:∀x,r.sc.names.lookup x=Ab .free->∃c C,r.bk.lookup x=Ab c/\h.IsCell c C/\∀k,φ.lookup x=Ab k->∃v,C=Ab v/\BU W (r.bk.map (·.2)++X) (r.bk.map (·.2)++X) h v k)
 (A:∀x y c,r.bk.lookup x=Ab c->r.bk.lookup y=Ab c->x=y) (alive:∀a∈r.bk.map (·.2),W.h0.get? a=Ah/\∃o,h.get? a=Ab o):
 ∃w,w.body=.stmts r.body/\w.scope=r.sc/\w.closure=r.bk/\XG W h X f w [r.x,r.y] φ:=by
 obtain⟨H,N,O,hc⟩:=x;refine⟨_,rfl,rfl,rfl,⟨_,O,rfl⟩,hc.db,λ E Q=>?_,T.co,T.bi,T.kind,rfl,rfl,T.cp,T.jj,T.nd,z,s,A,alive⟩;obtain⟨a,b,rfl⟩:=Nu Q;exact T.mz e r.bk g H N a b
section
noncomputable def tH (h:List Str):Prop:=("__getattribute__":Str)∉h/\("__getattr__":Str)∉h/\("__setattr__":Str)∉h
theorem kW {v l:Ae}{n p u I:Pos}{K:Ai}{i:Str}{f:List Str}{j:List L8}(KK:iI s.heap K i "obj" l f j)(U:tH f){r:L8}(hr:r∈j)(hn:r.name="__init__")(T:US r)(h:r.bk=[])(w:∀x,r.sc.names.lookup x≠Ab .free)
 (hb:r.body=[.Assign [.Attribute (.Name r.x n) "obj" p] (.Name r.y u) I]) (Y:r.x≠r.y) (hA:CX (k+2) A) (G:Gd W s) (H:W.h0.NoLimit)
 (hQ:∀h' tk x,BA W s.heap h'->s.toks<=tk->s.heap.get? x=Ah->EC h' x K v->Q (.ref x) {s with heap:=h',toks:=tk}):
 Av W.M A (call (.ref K) [v]) Q E s:=by
 obtain⟨m,kc,a0,N⟩:=KK;obtain⟨md,X⟩:=kc.ask;obtain⟨fI,O,im⟩:=a0 r hr;rw[hn] at O;have a1:∃o,s.heap.get? fI=Ab o/\o.cls=.type "function":=by obtain⟨cd,ct,ho,_⟩:=im;exact⟨_,ho,rfl⟩
 refine Ia (Yn X O a1 ?_);have kp:∀b o,s.heap.get? b=Ab o->((s.heap.push M6).push (instObj K s.heap.objs.size)).get? b=Ab o:=λ b o e=>AH _ (AH _ e);have z:BA W s.heap ((s.heap.push M6).push (instObj K s.heap.objs.size)):=.af kp;have kk:Jl s.heap ((s.heap.push M6).push (instObj K s.heap.objs.size)):=λ b o e _ _ _=>kp b o e;have hx:((s.heap.push M6).push (instObj K s.heap.objs.size)).get? (s.heap.objs.size+1)=Ab (RG K s.heap.objs.size #[]):=by
  refine Eq.trans (congrArg _ (show s.heap.objs.size+1=(s.heap.push M6).objs.size from(CU _ _).symm)) ?_;exact AD _ rfl
 have V:s.heap.get? (s.heap.objs.size+1)=Ah:=by
  cases e:s.heap.get? (s.heap.objs.size+1) with
  |none=>rfl
  |some o=>exact absurd (AT e) (B6.mpr (Bo _))
 obtain⟨fd,b1,b2,b3,D⟩:=T.k7 (X:=[]) (φ:=[]) (im.al kk) (λ x sl q=>by contradiction) (λ x q=>absurd q (w x)) (λ x y c q=>by(first |exact Dn h q |obtain rfl:=A4 h q |cases h.symm.trans q |(rw[h] at q;contradiction))) (λ a q=>by(first |exact Dn h q |obtain rfl:=A4 h q |cases h.symm.trans q |(replace q:=(h)▸q;contradiction)));have G':Gd W {s with heap:=(s.heap.push M6).push (instObj K s.heap.objs.size)}:=⟨G.ao.trans z,z.2 G.dl,G.toks⟩;have a4:fd.closure=[]:=by rw[b3,h]
 refine UB D b1 H (hA.new K [v]) G' (λ b q=>by contradiction) (.av (.av .nil)) rfl λ Z a2 B J S=>?_;rw[hb];refine Ax (plainObj_wpAny_Assign_Attribute (FI.av S.F (v:=v) ?_ (FI.av S.F (v:=.ref (s.heap.objs.size+1)) ?_ ?_)))
 ·rw[AI Y.symm,AC]
 ·exact AC
 have L:Z.get? (s.heap.objs.size+1)=Ab (RG K s.heap.objs.size #[]):=S.le.keep hx (by simp) (by simp);obtain⟨a5,X'⟩:=((kc.al kk).al S.le.al).ask (M:=W.M);obtain⟨hh,g,d,t,os⟩:=s;refine YB X' L (by decide+kernel) (N _ (by decide+kernel) U.2.2) (by decide+kernel) λ M C a3 sb R=>?_;refine BL ⟨rfl,?_⟩;refine hQ M C _ ?_ (Aa J R) V ⟨_,a3⟩;exact(z.trans S.le).az V (λ o vs e q=>by obtain rfl:=A4 L e;contradiction) sb
end
section
theorem J7 {y:Str}{a:Type}{x:Str}{v:a}:C9 y [(x,v)]=if y=x then Ab v else Ah:=by
 by_cases h:y=x
 ·subst h;rw[if_pos rfl,AC]
 ·rw[if_neg h,AI h];rfl
noncomputable def MA (w:BV)(z:Nat)(k:AS)(f:Ai)(c:Ae->Ae->Option Int):Prop:=
 (∃C,∀h,BA w k h->∃o,h.get? f=Ab o/\o.data=.func C)/\
 ∀A s u v n,CX z A->BA w k s.heap->Gd w s->c u v=Ab n->Dp w A (call (.ref f) [u,v]) s (λ r _=>∃t,r=.int n t)
theorem MA.ae {c:Ae->Ae->Option Int}(x:MA W k g f c)(o:BA W g d):MA W k d f c:=
 ⟨by obtain⟨w,e⟩:=x.1;exact⟨w,λ h z=>e h (o.trans z)⟩,λ A s u v n a b=>x.2 A s u v n a (o.trans b)⟩
theorem O7 {y:Str}{a:Type}{x:Str}{v u:a}(h:C9 y [(x,v)]=Ab u):y=x/\u=v:=by
 rw[J7] at h;by_cases q:y=x
 ·rw[if_pos q] at h;exact⟨q,(AN h).symm⟩
 ·rw[if_neg q] at h;cases h
theorem cB {f K:Ai}{kk:Nat}{v l:Ae}{Y J L M R p6 p7:Pos}{m:Str->Option Ae}{U:CmpOp}{g:Str}{e:List Str}{p:List L8}(KK:iI s.heap K g "obj" l e p)(a1:tH e){r:L8}(hr:r∈p)(T:US r){j:Ai}(C:r.bk=[(("mycmp":Str),j)])(V:r.sc.names.lookup ("mycmp":Str)=Ab .free)(N:∀x,r.sc.names.lookup x=Ab .free->x="mycmp")
 {t I:Pos} (hb:r.body=[.Return (Ab (.Compare (.Call (.Name "mycmp" Y) [.Attribute (.Name r.x J) "obj" L,.Attribute (.Name r.y M) "obj" R] [] p6) [U] [.Constant (.int 0) kk p7] t)) I]) (b7:r.x≠r.y)
 (b8:r.x≠"mycmp") (b9:r.y≠"mycmp") (hA:CX (k+2) A) (G:Gd W s) (a2:W.h0.NoLimit) {i:Ai} (a3:s.heap.IsCell j (Ab (.ref i))) (c0:W.h0.get? j=Ah) {c:Ae->Ae->Option Int} (hf:MA W k s.heap i c)
 {x y:Ai} {u:Ae} {n:Int} {b:Bool} (ix:EC s.heap x K u) (iy:EC s.heap y K v) (hu:IH u=Ag) (hv:IH v=Ag) (hn:c u v=Ab n) (c1:I6 U (.int n) (.int 0)=Ab b) (d3:m r.name=Ab (.ref f)) (c2:MY s.heap f ((g++".")++r.name) l r):
 Dp W A (call (.ref f) [.ref x,.ref y]) s (λ v _=>v=.bool b):=λ Q E hQ=>by
 have c3:∃o,s.heap.get? j=Ab o:=by obtain⟨o,ho,_⟩:=a3;exact⟨o,ho⟩
 obtain⟨fd,b1,b2,b3,D⟩:=T.k7 (W:=W) (X:=[]) (φ:=[(("mycmp":Str),.av (.ref i))]) c2 (λ z sl q=>by
  obtain⟨rfl,rfl⟩:=O7 q;exact⟨V,by decide+kernel,λ d q=>nomatch q⟩) (λ z q=>by
  obtain rfl:=N z q;exact⟨j,Ab (.ref i),by rw[C];exact AC,a3,λ sl q=>(O7 q).2▸⟨_,rfl,rfl⟩⟩) (λ a b d q1 q2=>by
  rw[C] at q1 q2;exact(O7 q1).1.trans (O7 q2).1.symm) (λ a q=>by
  rw[C] at q;obtain rfl:=Ce.mp q;exact⟨c0,c3⟩)
 refine Ia (UB D b1 a2 hA G (λ b q=>by cases q) (.av (.av .nil)) rfl λ h w B a4 S=>?_);rw[hb];have ly:([r.x,r.y].zip [Ds.av (.ref x),Ds.av (.ref y)]++[(("mycmp":Str),Ds.av (.ref i))]).lookup r.y=Ab (.av (.ref y)):=by
  show C9 r.y [(r.x,_),(r.y,_),_]=_;rw[AI b7.symm,AC]
 have lm:([r.x,r.y].zip [Ds.av (.ref x),Ds.av (.ref y)]++[(("mycmp":Str),Ds.av (.ref i))]).lookup ("mycmp":Str)=Ab (.av (.ref i)):=by
  show C9 _ [(r.x,_),(r.y,_),_]=_;rw[AI b8.symm,AI b9.symm,AC]
 have a5:CX (k+1) (A.deeper (Db fd s.heap.objs.size f)):=hA.down _;have c4:(A.deeper (Db fd s.heap.objs.size f)).units<9000:=a5.u (b:=0) (An _);have K1:iI h K g "obj" l e p:=KK.al S.le.al;obtain⟨m1,kc,_,O⟩:=K1;obtain⟨md,Xk⟩:=kc.ask (M:=W.M);have c5:=ix.al S.le.al;have c6:=iy.al S.le.al;have a6:m1 "__getattribute__"=Ah:=O _ (by decide+kernel) a1.1;have a7:m1 "__getattr__"=Ah:=O _ (by decide+kernel) a1.2.1;obtain⟨⟨c7,c8⟩,Z⟩:=hf.ae S.le;refine Ax (EM (wpAny_Compare1 (B3 (FI.av S.F lm ?_)) (by rfl)));refine Dm (es:=[.Attribute (.Name r.x J) "obj" L,.Attribute (.Name r.y M) "obj" R]) rfl ?_;obtain⟨om,c9,d0⟩:=c8 h (.refl _);refine Ci (o:=om) (fd:=c7) (Be (AE (Attribute_name (FI.av S.F AC (RE Xk c5 (by decide+kernel) a6 a7 (by decide+kernel) (by decide+kernel) hu ?_)))));refine AE (Attribute_name (FI.av (s:={s with heap:=h,toks:=w+1}) S.F ly (RE Xk c6 (by decide+kernel) a6 a7 (by decide+kernel) (by decide+kernel) hv (A6 ⟨⟨c9,d0⟩,?_⟩))));have G1:Gd W {s with heap:=h,toks:=w+1+1}:=⟨B.ao.trans S.le,S.le.2 B.dl,Aa S.tk (BC (Bo _))⟩;refine Z _ {s with heap:=h,toks:=w+1+1} u v n (a5.ai (Bo _)) (.refl _) G1 hn _ _ λ rv a8 H a9 b0 d1=>?_;obtain⟨t',rfl⟩:=d1;refine wpAny_Constant_int ?_;have:=Dp.of (W:=W) (s:={s with heap:=a8,toks:=H+1}) (P:=λ v h'=>v=.bool b) λ Q E hQ=>Hy (X:=[]) c4 (.int n t') (.inl (.int 0 H)) c1 λ tk=>hQ _ _ tk (.refl _) rfl;refine this _ _ λ v3 b4 a0 b5 b6 d2=>?_;subst d2;exact hQ _ b4 a0 (S.le.trans (a9.trans b5)) (Aa a4 (Aa (BC (Bo _)) (Aa b0 (Aa (Bo _) b6)))) rfl
end
variable {body:List Bq}{fr:List Nat} in
structure oS (r:L8)(cc:Ai)(op:CmpOp):Prop where
 ms:US r
 mn:r.bk=[(("mycmp":Str),cc)]
 fr:r.sc.names.lookup ("mycmp":Str)=Ab .free
 fr':∀x,r.sc.names.lookup x=Ab .free->x="mycmp"
 ne:r.x≠r.y/\r.x≠"mycmp"/\r.y≠"mycmp"
 body:∃p1 p2 p3 p4 p5 p6 p7 p8 p9,∃kk:Nat,r.body=[.Return (Ab (.Compare (.Call (.Name "mycmp" p1) [.Attribute (.Name r.x p2) "obj" p3,.Attribute (.Name r.y p4) "obj" p5] [] p6) [op] [.Constant (.int 0) kk p7] p8)) p9]
structure XE (cb:List Bq)(names:List Str):Prop where
 abs:tH names
 lq:∀cc,∃r∈K9 cc cb,r.name="__init__"/\US r/\r.bk=[]/\(∀x,r.sc.names.lookup x≠Ab .free)/\r.x≠r.y/\∃p1 p2 p3 p4,r.body=[.Assign [.Attribute (.Name r.x p1) "obj" p2] (.Name r.y p3) p4]
 lt:∀cc,∃r∈K9 cc cb,r.name="__lt__"/\oS r cc .Lt
 gt:∀cc,∃r∈K9 cc cb,r.name="__gt__"/\oS r cc .Gt
variable {i kk:Nat}{st:Bq} in
inductive XF (h:AS)(K cc fm:Ai):Prop
 |mk (cb:_) (qual:_) (pm:_) (names:_) (st:XE cb names) (kk:iI h K qual "obj" pm names (K9 cc cb)) (i:h.IsCell cc (Ab (.ref fm)))
variable {f:Ai}{i kk:Nat}{st:Bq} in
inductive EQ (W:BV)(k:Nat)(h:AS)(K:Ai)(c:Ae->Ae->Option Int):Prop
 |mk (cb:_) (qual:_) (pm:_) (names:_) (cc fm:Ai) (st:XE cb names) (kk:iI h K qual "obj" pm names (K9 cc cb)) (i:h.IsCell cc (Ab (.ref fm))) (c0:W.h0.get? cc=Ah) (f:MA W k h fm c)
section
theorem EQ.ae {K:Ai}{c:Ae->Ae->Option Int}(L:EQ W k h K c)(w:BA W h H):EQ W k H K c:=
 by obtain⟨z,s,A,o,C,E,a,b,d,e,f⟩:=L;exact⟨z,s,A,o,C,E,a,b.al w.al,GU w d,e,f.ae w⟩
theorem XF.cz {K:Ai}{c:Ae->Ae->Option Int}{a b:Ai}(x:XF h K a b)(w:W.h0.get? a=Ah)(f:MA W k h b c):EQ W k h K c:=by
 obtain⟨z,s,A,o,st,C,i⟩:=x;exact⟨z,s,A,o,a,b,st,C,i,w,f⟩
theorem EQ.iq {K:Ai}{c:Ae->Ae->Option Int}(L:EQ W k s.heap K c)(N:CX (k+2) A)(G:Gd W s)(h:W.h0.NoLimit)(v:Ae):Dp W A (call (.ref K) [v]) s (λ r o=>∃x,r=.ref x/\s.heap.get? x=Ah/\EC o x K v):=λ Q E O=>by
 obtain⟨j,C,m,w,V,n,st,Z,_⟩:=L;obtain⟨r,a,b,T,hc,d,z,p,q,t,u,e⟩:=st.lq V;exact kW Z st.abs a b T hc d e z N G h λ o f x H l g i=>O _ o f H l ⟨x,rfl,g,i⟩
theorem EQ.ty {K:Ai}{c:Ae->Ae->Option Int}(L:EQ W k h K c):∃m o,Kq W.M h K o "obj" m:=by
 obtain⟨C,w,E,s,H,N,st,z,_⟩:=L;obtain⟨m,A,_⟩:=z;obtain⟨o,X⟩:=A.ask;exact⟨m,o,X⟩
theorem n6 {M:Dq}{a:Option Ae->Aq->Prop}(w:FS M s.heap (Md (.ref x)) c)(z:FS M s.heap (Ff c name) (Ab (.ref f)))(C:FS M s.heap (Md (.ref f)) (.type "function"))
 (H:Av M A (call (.ref f) [.ref x,b]) (λ v=>a (Ab v)) E s):Av M A (callSpecialIfBound? (.ref x) name [b]) a E s:=by
 have o:FS M s.heap (bindSpecial (.ref f) (.ref x)) (.ref f,[.ref x]):=by
  unfold bindSpecial;exact C.andThen (Fp (by kernel_rfl))
 unfold callSpecialIfBound? bindSpecialIfBound?;refine Br (Ac (Ac (Ac (w.here (z.here ?_)))));refine Ac (wpAny_askSetting (KB ?_));have h:Av M A (call (.ref f) ([.ref x]++[b]) >>=λ v=>pure (Ab v)) a E s:=Ac (DH H (λ v N k=>Ar k) λ _ _ k=>k);split
 ·exact Ac (o.here (Ar (by exact h)))
 ·exact wpAny_tryCatch (Ac (o.here (Ar (by exact h))))
theorem EQ.bw {v:Ae}{d:CmpOp}{K:Ai}{c:Ae->Ae->Option Int}(L:EQ W k s.heap K c){name:Str}(z:∀V h,XE V h->∀Z,∃r∈K9 Z V,r.name=name/\oS r Z d)(o:name≠"__doc__"/\name≠"obj"/\name≠"__qualname__")(M:CX (k+2) A)(G:Gd W s)(C:W.h0.NoLimit){x y:Ai}{u:Ae}{n:Int}{b:Bool}
 (B:EC s.heap x K u) (R:EC s.heap y K v) (S:IH u=Ag) (U:IH v=Ag) (Y:c u v=Ab n) (j:I6 d (.int n) (.int 0)=Ab b) {a:Option Ae->Aq->Prop}
 (hQ:∀g i,BA W s.heap g->s.toks<=i->a (Ab (.bool b)) {s with heap:=g,toks:=i}):Av W.M A (callSpecialIfBound? (.ref x) name [.ref y]) a E s:=by
 obtain⟨V,D,pm,h,Z,fm,st,I,w,p,hf⟩:=L;obtain⟨r,J,q,T⟩:=z V h st Z;obtain⟨p1,p2,p3,p4,p5,p6,p7,p8,p9,kn,hb⟩:=T.body;obtain⟨m,kc,t,_⟩:=id I;obtain⟨md,X⟩:=kc.ask;obtain⟨f,N,O⟩:=t r J;have Q:=N;rw[q] at Q;have L3:FS W.M s.heap (Md (.ref f)) (.type "function"):=by obtain⟨cd,ct,ho,_⟩:=O;exact(HH ho).andThen .now
 refine n6 B.ty (X.gx name _ (by rw[if_neg o.1,if_neg o.2.1,if_neg o.2.2,Q])) L3 (cB I st.abs J T.ms T.mn T.fr T.fr' hb T.ne.1 T.ne.2.1 T.ne.2.2 M G C w p hf B R S U Y j N O _ _ λ r' g i H l e=>?_);subst e;exact hQ g i H l
theorem EQ.lt {v:Ae}{K:Ai}{c:Ae->Ae->Option Int}(L:EQ W k s.heap K c)(w:CX (k+2) A)(G:Gd W s)(h:W.h0.NoLimit){x y:Ai}{u:Ae}{n:Int}
 (z:EC s.heap x K u) (C:EC s.heap y K v) (N:IH u=Ag) (O:IH v=Ag) (V:c u v=Ab n):Dp W A (keyLt' oneType' (.ref x) (.ref y)) s (λ b _=>b=decide (n<0)):=λ Q E Z=>by
 rw[keyLt'_oneType,oneLt'_eq];dsimp only[if_true];refine Ac (wpAny_cRoomFor (w.u (b:=0) (AM rfl)) ?_);refine Ac (L.bw (λ f o st a=>st.lt a) ⟨by decide+kernel,by decide+kernel,by decide+kernel⟩ w G h z C N O V (by rfl) λ d e H l=>?_);exact CA (Z _ d e H l rfl)
theorem EQ.gt {v:Ae}{K:Ai}{c:Ae->Ae->Option Int}(L:EQ W k s.heap K c)(w:CX (k+2) A)(G:Gd W s)(h:W.h0.NoLimit){x y:Ai}{u:Ae}{n:Int}
 (z:EC s.heap x K u) (C:EC s.heap y K v) (N:IH u=Ag) (O:IH v=Ag) (V:c u v=Ab n):Dp W A (EN .Gt (.ref x) (.ref y)) s (λ r _=>r=.bool (decide (n>0))):=λ Q E Z=>by
 show Av W.M A (richCompare .Gt (.ref x) (.ref y)) Q E s;unfold richCompare;rw[oneThing_ref];refine Br (Ac (wpAny_cRoomFor (w.u (b:=0) (by decide)) ?_));refine Ac (z.ty.here (Ac (C.ty.here ?_)));rw[if_neg (by simp)];refine Ac (Ar ?_);simp -iota only[BR,if_false];refine Ac ?_;unfold tryCompare;refine Ac (L.bw (λ e o st a=>st.gt a) ⟨by decide+kernel,by decide+kernel,by decide+kernel⟩ w G h z C N O V (by rfl) λ b d H l=>?_);exact Ar (Ar (Z _ b d H l rfl))
end
noncomputable def RZ (i j:Nat)(h st:List Nat):List Nat×List Nat:=
 let k:=h.getD j 0
 let o:=st.getD j 0
 (h.map λ r=>if r.testBit i then r|||k else r,Ju (λ r q=>q|||((if q.testBit i then k else 0)|||(if r.testBit i then o else 0))) h st)
noncomputable def R3 (i j:Nat)(h st:List Nat):List Nat×List Nat:=
 let k:=h.getD j 0
 (h.map λ r=>if r.testBit i then r|||k else r,Ju (λ r q=>q|||(if r.testBit i then k else 0)) h st)
variable {a:Ai}{r:List Bq} in
noncomputable def Sv (h st:List Nat):List Nat->Bool
 |[]=>Ag
 |a::r=>r.all (λ b=>(st.getD a 0).testBit b||((h.getD a 0).testBit b&&decide (a<b)))&&Sv h st r
variable {i j:Nat}{p:Evs}{st:Bq} in
noncomputable def t3 (n:Nat):KasT (Array Nat)->List Nat->List Nat->Bool
 | .ret p,h,st=>(p.toList.length==n)&&(Ap n).all (λ x=>p.toList.contains x)&&Sv h st p.toList
 | .ask i j k,h,st=>decide (i<n)&&decide (j<n)&&
   (if(st.getD i 0).testBit j then t3 n (k Ag) h st else if(h.getD j 0).testBit i then t3 n (k Au) h st
    else t3 n (k Ag) (R3 i j h st).1 (R3 i j h st).2&&t3 n (k Au) (RZ j i h st).1 (RZ j i h st).2)
noncomputable def zI (n:Nat):Bool:=t3 n (kas_sort n) ((Ap n).map λ i=>2^i) ((Ap n).map λ _=>0)
theorem nO:∀n,n<7->2<=n->zI n=Ag:=by decide+kernel
structure KI (n:Nat)(lt:Nat->Nat->Bool):Prop where
 jh:∀i j,i<n->j<n->lt i j=Ag->lt j i=Au
 trans:∀i j l,i<n->j<n->l<n->lt j i=Au->lt l j=Au->lt l i=Au
structure QF (n:Nat)(lt:Nat->Nat->Bool)(le st:List Nat):Prop where
 w:∀x y,x<n->(le.getD x 0).testBit y=Ag->y<n/\lt y x=Au
 s:∀x y,x<n->(st.getD x 0).testBit y=Ag->y<n/\lt x y=Ag
 ll:le.length=n
 ls:st.length=n
section
theorem KI.sw {c:Nat->Nat->Bool}(k:KI n c)(o:i<n)(s:j<n)(w:l<n)(a:c i j=Ag)(b:c l j=Au):c i l=Ag:=by
 cases h:c i l with
 |true=>rfl
 |false=>have:=k.trans j l i s w o b h;cases a.symm.trans this
theorem KI.ws {c:Nat->Nat->Bool}(k:KI n c)(o:i<n)(s:j<n)(w:l<n)(a:c j i=Au)(b:c j l=Ag):c i l=Ag:=by
 cases h:c i l with
 |true=>rfl
 |false=>have:=k.trans l i j w o s h a;cases b.symm.trans this
theorem lC {a:List Nat}{f:Nat->Nat}(x:Nat)(h:x<a.length):(a.map f).getD x 0=f (a.getD x 0):=by
 simp[Am,h]
theorem Wu {a st:List Nat}{f:Nat->Nat->Nat}(x:Nat)(h:x<a.length)(k:x<st.length):(Ju f a st).getD x 0=f (a.getD x 0) (st.getD x 0):=by
 simp[Am,h,k,List.getElem?_zipWith]
theorem QF.kq {i j n:Nat}{a:Nat->Nat->Bool}{le st:List Nat}(o:KI n a)(F:QF n a le st)(w:i<n)(k:j<n)(z:a j i=Au):∀x y,x<n->((le.map λ(r:Nat)=>if r.testBit i then r|||le.getD j 0 else r).getD x 0).testBit y=Ag->y<n/\a y x=Au:=by
 intro x y h e;rw[lC x (by rw[F.ll];exact h)] at e;split at e
 ·rename_i q;simp only[Ey,CV] at e;rcases e with e |e
  ·exact F.w x y h e
  ·obtain⟨s,b⟩:=F.w j y k e;exact⟨s,o.trans x j y h k s (o.trans x i j h w k (F.w x i h q).2 z) b⟩
 ·exact F.w x y h e
theorem QF.kj {i j n:Nat}{d:Nat->Nat->Bool}{c st:List Nat}(s:KI n d)(F:QF n d c st)(z:i<n)(o:j<n)(A:d j i=Au):QF n d (RZ i j c st).1 (RZ i j c st).2:=by
 refine⟨F.kq s z o A,λ x y k e=>?_,by unfold RZ;rw[Aj,F.ll],by unfold RZ;rw[List.length_zipWith,F.ll,F.ls,Nat.min_self]⟩;have h:((Ju (λ(r q:Nat)=>q|||((if q.testBit i then c.getD j 0 else 0)|||(if r.testBit i then st.getD j 0 else 0))) c st).getD x 0).testBit y=Ag:=e;simp only[Wu x (by rw[F.ll];exact k) (by rw[F.ls];exact k),Ey,Ey,CV,CV] at h;rcases h with h |h |h
 ·exact F.s x y k h
 ·split at h
  ·rename_i q;obtain⟨_,a⟩:=F.s x i k q;obtain⟨w,b⟩:=F.w j y o h;exact⟨w,s.sw k o w (s.sw k z o a A) b⟩
  ·simp at h
 ·split at h
  ·rename_i q;obtain⟨w,b⟩:=F.s j y o h;exact⟨w,s.ws k o w (s.trans x i j k z o (F.w x i k q).2 A) b⟩
  ·simp at h
theorem QF.kl {i j n:Nat}{c:Nat->Nat->Bool}{a st:List Nat}(s:KI n c)(F:QF n c a st)(w:i<n)(o:j<n)(z:c i j=Ag):QF n c (R3 i j a st).1 (R3 i j a st).2:=by
 refine⟨F.kq s w o (s.jh i j w o z),λ x y k e=>?_,by unfold R3;rw[Aj,F.ll],by unfold R3;rw[List.length_zipWith,F.ll,F.ls,Nat.min_self]⟩;have h:((Ju (λ(r q:Nat)=>q|||(if r.testBit i then a.getD j 0 else 0)) a st).getD x 0).testBit y=Ag:=e;simp only[Wu x (by rw[F.ll];exact k) (by rw[F.ls];exact k),Ey,CV] at h;rcases h with h |h
 ·exact F.s x y k h
 ·split at h
  ·rename_i q;obtain⟨A,b⟩:=F.w j y o h;exact⟨A,s.sw k o A (s.ws k w o (F.w x i k q).2 z) b⟩
  ·simp at h
theorem TP:∀(a b:List Nat),a.Nodup->(∀x∈a,x∈b)->a.length=b.length->a.Perm b:=by
 intro a;induction a with
 |nil=>
  intro b _ _ h;have:=FG.mp h.symm;rw[this]
 |cons x a k=>
  intro b o h z;have s:=h x Ad;rw[Bz] at o;refine List.Perm.trans (List.Perm.cons x (k (b.erase x) o.2 (λ y w=>?_) ?_)) (List.perm_cons_erase s).symm
  ·exact(List.mem_erase_of_ne (λ q=>o.1 (q▸w):y≠x)).mpr (h y (Af _ w))
  ·rw[List.length_erase_of_mem s];rw[<-z];rfl
noncomputable def XD (h:Nat->Nat->Bool)(p:List Nat):Prop:=p.Pairwise λ a b=>h b a=Au/\(h a b=Ag\/a<b)
noncomputable def H6 (n:Nat)(h:Nat->Nat->Bool)(p:List Nat):Prop:=p.Perm (Ap n)/\XD h p
theorem QF.ij {n:Nat}{c:Nat->Nat->Bool}{d st:List Nat}(s:KI n c)(F:QF n c d st)(l:List Nat)(o:∀x∈l,x<n)(w:Sv d st l=Ag):XD c l:=by
 induction l with
 |nil=>exact GZ
 |cons a r z=>
  obtain⟨A,C⟩:=AB.mp w;refine List.Pairwise.cons (λ b E=>?_) (z (λ x H=>o x (Af _ H)) C);have:=AQ.mp A b E;have h:=o a Ad;simp only[CV,AG,decide_eq_true_eq] at this;rcases this with q |⟨q,N⟩
  ·obtain⟨k,e⟩:=F.s a b h q;exact⟨s.jh a b h k e,.inl e⟩
  ·exact⟨(F.w a b h q).2,.inr N⟩
theorem Zh {n:Nat}{b:Nat->Nat->Bool}(O:KI n b){a:Nat->Nat->(Bool->Aq->Prop)->Aq->Prop}{I:Aq->Prop}(hc:∀i j C h,i<n->j<n->I h->(∀w,I w->C (b i j) w)->a i j C h){c:Array Nat->Aq->Prop}(d:∀p h,I h->H6 n b p.toList->c p h)(t:KasT (Array Nat))(A st:List Nat)(h:Aq)(F:QF n b A st)(s:t3 n t A st=Ag)(V:I h):t.kasWp a c h:=by
 induction t generalizing A st h with
 |ret p=>
  obtain⟨z,f⟩:=AB.mp s;obtain⟨g,l⟩:=AB.mp z;have W:=TP _ _ ID (λ x Q=>E5.mp (AQ.mp l x Q)) (by rw[BO g,CJ]);exact d p h V ⟨W.symm,F.ij O _ (λ x Q=>As.mp (W.symm.mem_iff.mp Q)) f⟩
 |ask i j k N=>
  obtain⟨z,s⟩:=AB.mp s;obtain⟨E,H⟩:=AB.mp z;have E:=of_decide_eq_true E;have H:=of_decide_eq_true H;refine hc i j _ h E H V λ w o=>?_;by_cases q:(st.getD i 0).testBit j=Ag
  ·exact(F.s i j E q).2▸N _ A st w F ((if_pos q).symm.trans s) o
  ·replace s:=(if_neg q).symm.trans s
   by_cases q:(A.getD j 0).testBit i=Ag
   ·exact(F.w j i H q).2▸N _ A st w F ((if_pos q).symm.trans s) o
   ·have Z:=AB.mp ((if_neg q).symm.trans s);cases e:b i j with
    |true=>exact N _ _ _ w (F.kl O E H e) Z.1 o
    |false=>exact N _ _ _ w (F.kj O H E e) Z.2 o
theorem Vh {n:Nat}{b:Nat->Nat->Bool}(w:n<7)(z:2<=n)(k:KI n b){a:Nat->Nat->(Bool->Aq->Prop)->Aq->Prop}{I:Aq->Prop}(hc:∀i j C s,i<n->j<n->I s->(∀o,I o->C (b i j) o)->a i j C s){c:Array Nat->Aq->Prop}(A:∀p s,I s->H6 n b p.toList->c p s)(E:I s):
 (kas_sort n).kasWp a c s:=by
 refine Zh k hc A _ _ _ s ⟨λ x y h e=>?_,λ x y h e=>?_,by simp,by simp⟩ (nO n w z) E
 ·skip
  simp[h,G4] at e;subst e;refine⟨h,?_⟩;cases q:b x x with
  |false=>rfl
  |true=>have:=k.jh x x h h q;cases q.symm.trans this
 ·skip
  simp[h] at e
end
theorem Xn (h:n<64):n<=HG:=Aa (AX h) (by rw[sizeLine_eq];decide)
theorem mU (h:n<7):n<=HG:=Xn (Ao h (by decide))
variable {c:List PV}{b:List Ae} in
noncomputable def Jv (h:AS)(K:Ai):List Ae->List Ae->Prop
 |[],[]=>True
 |u::b,x::c=>(∃a,x=.ref a/\EC h a K u)/\Jv h K b c
 |_,_=>False
theorem Jv.bt {c:List Ae}{K:Ai}{P:List Ae->List Ae->Prop}(k:P [] [])(o:∀u c x b,(∃a,x=.ref a/\EC h a K u)->Jv h K c b->P c b->P (u::c) (x::b)){b:List Ae}(q:Jv h K c b):P c b:=
 c.rec (λ b=>b.casesOn (λ _=>k) λ _ _ q=>q.elim) (λ u c s b=>b.casesOn (λ q=>q.elim) λ x b q=>o _ _ _ _ q.1 q.2 (s b q.2)) b q
theorem Jv.al {c:List Ae}{K:Ai}(k:Jl h H){b:List Ae}(q:Jv h K c b):Jv H K c b:=
 q.bt trivial λ _ _ _ _ a _ i=>by obtain⟨x,e,m⟩:=a;exact⟨⟨x,e,m.al k⟩,i⟩
theorem Jv.len {b:List Ae}{K:Ai}{a:List Ae}(q:Jv h K b a):b.length=a.length:=q.bt (P:=λ b a=>b.length=a.length) rfl λ _ _ _ _ _ _ i=>congrArg (·+1) i
theorem Jv.ek {a:Ai}{c:List Ae}{K:Ai}{u:Ae}(i:EC h a K u){b:List Ae}(q:Jv h K c b):Jv h K (c++[u]) (b++[.ref a]):=
 q.bt (P:=λ c b=>Jv h K (c++[u]) (b++[BI a])) (⟨⟨a,rfl,i⟩,trivial⟩) λ _ _ _ _ a _ i=>⟨a,i⟩
theorem Jv.get {i:Nat}{b:List Ae}{K:Ai}{c:List Ae}(q:Jv h K b c):i<b.length->∃a,c.getD i .none=.ref a/\EC h a K (b.getD i .none):=
 q.bt (P:=λ b c=>∀i,i<b.length->∃a,c.getD i .none=.ref a/\EC h a K (b.getD i .none)) (λ _ h=>(by contradiction)) (λ _ _ _ _ a _ k i=>i.casesOn (λ _=>a) λ i h=>k i (DO h)) i
theorem Jv.lb {M:Dq}{c:List Ae}{K:Ai}{b:List Ae}(q:Jv h K c b):∀x∈b,FS M h (Md x) (.ref K):=
 q.bt (P:=λ _ b=>∀x∈b,FS M h (Md x) (.ref K)) (λ _ h=>(by contradiction)) λ _ _ _ _ a _ k x o=>(Al.mp o).elim (λ e=>by obtain⟨y,q,m⟩:=a;exact(e.trans q)▸m.ty) (k x)
variable {tk:Nat} in
structure SI (W:BV)(s₀:Aq)(K a kS e1:Nat)(us ks:List Ae)(e:Nat)(s:Aq):Prop where
 le:BA W s₀.heap s.heap
 tk:s₀.toks<=s.toks
 same:s={s₀ with heap:=s.heap,toks:=s.toks}
 hk:s.heap.get? kS=Ab (Ef "list" (CE ks) e)
 ha:s.heap.get? a=Ab (Ef "list" #[] e1)
 kr:Jv s.heap K us ks
section
theorem SI.step {tk a c d e:Nat}{f g:List Ae}{b:Aq}{K:Ai}(x:SI W b K a c d f g e s)(h:BA W s.heap H)(l:s.toks<=tk):SI W b K a c d f g e {s with heap:=H,toks:=tk}:=
 ⟨x.le.trans h,Aa x.tk l,by rw[x.same],h.keep x.hk (by simp[Ef]) (by simp[Ef]),h.keep x.ha (by simp[Ef]) (by simp[Ef]),x.kr.al h.al⟩
theorem aM {g:List Ae}{d:Aq}{K:Ai}{c:Ae->Ae->Option Int}{a f m e:Nat}{P:Iw->Aq->Prop}(M:g.length<64)(L:EQ W k d.heap K c)(R:CX (k+2) A)(G:Gd W d)(O:W.h0.NoLimit)(V:f≠a)(Z:d.heap.get? f=Ah)(T:SI W d K a f m [] [] e s)
 (U:∀h e C,SI W d K a f m g h e C->Av W.M A (ksk_end a Au g.toArray m (.ref f) (CE h)) P E C):Av W.M A (ksk_rest a (.ref K) Au g.toArray m (.ref f)) P E s:=by
 refine Ac (NR ?_)
 first
  |rw[List.forIn_toArray]
  |(rw[<-Array.forIn_toList];simp only[List.toList_toArray])
  |rw[<-Array.forIn_toList]
 refine Ac (ksk_fold (λ i C=>∃h e,SI W d K a f m (g.take i) h e C) g 0 s ⟨[],e,by exact T⟩ (λ j x C D Y=>?_) λ C hd=>?_)
 ·obtain⟨h,e,S⟩:=Y;rw[Cs] at S ⊢;have I:j<g.length:=by
   obtain⟨q,_⟩:=Cn.mp D;exact q
  have n:h.length=j:=by rw[<-S.kr.len,Dd];exact Dz (AX I)
  refine Ac (wpAny_attempt ((L.ae S.le).iq R (⟨G.ao.trans S.le,S.le.2 G.dl,Aa G.toks S.tk⟩) O x _ _ λ r N tk H l hr=>?_));obtain⟨w,rfl,fr,i⟩:=hr;have z:=S.step H l;have p:=BN N f (CG (·.push (.ref w)))
  obtain⟨t,v⟩:∃t,(N.update f (CG (·.push (.ref w)))).get? f=Ab (Ef "list" (CE (h++[.ref w])) t):=⟨_,by rw[<-(by simp:(CE h).push (.ref w)=CE (h++[.ref w]))];exact get?_update_seq z.hk (·.push (.ref w))⟩
  have J:=Xn (Cu (Ay (Az n) I) M);refine Ac (listUpdate_at z.hk rfl ?_ J (Aa (Az (Array.size_push ..)) (Bt J)));refine Ar ⟨rfl,h++[.ref w],t,?_⟩;have kk:Jl N (N.update f (CG (·.push (.ref w))))\/True:=.inr trivial
  have B:∀{Q h},Jv N K Q h->Jv (N.update f (CG (·.push (.ref w)))) K Q h:=by
   intro Q h q;induction Q generalizing h with
   |nil=>cases h<;>exact q
   |cons u Q ih=>
    cases h with
    |nil=>exact q
    |cons y h=>
     obtain⟨⟨b,e,dx,i⟩,r⟩:=q;refine⟨⟨b,e,dx,?_⟩,ih r⟩;rw[p.2 b (λ q=>by cases q;replace i:=z.hk.symm.trans i;cases i)];exact i
  refine⟨?_,z.tk,by rw[z.same],v,(p.2 a V.symm).trans z.ha,?_⟩
  ·exact z.le.az Z (λ o a0 m e2=>by replace m:=z.hk.symm.trans m;cases m;contradiction) p
  ·have:g.take (j+1)=g.take j++[x]:=by rw[List.take_add_one,D];rfl
   rw[this];exact B (Jv.ek i z.kr)
 ·obtain⟨h,e,S⟩:=hd;rw[Cs,List.take_length] at S;exact Ac (listItems_at S.hk rfl (U h e C S))
end
section
theorem TG {i f:List Ae}{b:Aq}{K:Ai}{a d g e:Nat}{st:SortSt}{c:List Ae}{P:Iw->Aq->Prop}(C:d≠a)(H:b.heap.get? d=Ah)(N:b.heap.get? a=Ah)(k:(arrOf st).map (·.2)=CE c)(m:c.length<64)(O:f.length<64)(n:failedOf st=Ah)(S:SI W b K a d g i f e s)
 (p:∀Q j w,BA W b.heap Q->b.toks<=j->Q.get? a=Ab (Ef "list" (CE c) w)->P (.done (.ret .none)) {b with heap:=Q,toks:=j}):Av W.M A (ksk_tail a Au g (.ref d) st) P E s:=by
 have l:=BN s.heap d (CG λ _=>(#[]:Array Ae));have h:=(l.2 a C.symm).trans S.ha;have q:=BN (s.heap.update d (CG λ _=>(#[]:Array Ae))) a (CG λ _=>CE c);obtain⟨w,V⟩:∃w,((s.heap.update d (CG λ _=>(#[]:Array Ae))).update a (CG λ _=>CE c)).get? a=Ab (Ef "list" (CE c) w):=⟨_,get?_update_seq h λ _=>CE c⟩;dsimp only[ksk_tail]
 try dsimp only
 rw[k];refine Ac (listUpdate_at S.hk rfl ?_ (Xn O) (AY _));refine Ac (wpAny_letGo ?_);refine Ac (seqEpoch_at h rfl ?_);refine Ac (listUpdate_at h rfl ?_ (AY _) (Aa (Az (by exact(List.size_toArray))) (BC (Xn m))));rw[n];simp;refine Ar ?_;have r:=S.le.az H (λ o Z z t=>by replace z:=S.hk.symm.trans z;cases z;contradiction) l;have u:=r.az N (λ o Z z t=>by obtain rfl:=A4 h z;contradiction) q;have:=p _ s.toks w u S.tk V;rw[S.same];exact this
structure XH (c:Ae->Ae->Option Int)(vs:List Ae)(lt:Nat->Nat->Bool):Prop where
 has:∀i j,i<vs.length->j<vs.length->∃m,c (vs.getD i .none) (vs.getD j .none)=Ab m/\lt i j=decide (m<0)
 ok:KI vs.length lt
 hand:∀v∈vs,IH v=Ag
theorem X9 (h:List Ae):(Ap h.length).map (λ i=>h.getD i .none)=h:=by
 refine List.ext_getElem (by simp) λ i o k=>?_;simp[Am,k]
theorem VV {a:Nat->Nat->Bool}(h:n<2):H6 n a (Ap n):=by
 refine⟨.refl _,?_⟩;exact Fc (P:=λ n=>(Ap n).Pairwise _) (Fc Kr GZ) (List.pairwise_singleton ..) n h
theorem jL {f q:List Ae}{d:Aq}{K:Ai}{c:Ae->Ae->Option Int}{a n u e:Nat}{r:Nat->Nat->Bool}{P:Iw->Aq->Prop}(Y:f.length<7)(L:EQ W k d.heap K c)(hA:CX (k+2) A)(G:Gd W d)(Q:W.h0.NoLimit)(V:n≠a)(Z:d.heap.get? n=Ah)(v:d.heap.get? a=Ah)(J:XH c f r)(S:SI W d K a n u f q e s)
 (a0:∀z C y p,H6 f.length r p->BA W d.heap z->d.toks<=C->z.get? a=Ab (Ef "list" (CE (p.map λ i=>f.getD i .none)) y)->P (.done (.ret .none)) {d with heap:=z,toks:=C}):
 Av W.M A (ksk_end a Au f.toArray u (.ref n) (CE q)) P E s:=by
 have I:=S.kr.len;have B:q.length<64:=Ay (Az I.symm) (Ao Y (by decide));have step:∀t:Sem Iw,Av W.M A t P E s->Av W.M A (if Au=Ag then(do let _ <-rule "list.sort.reverse";t) else t) P E s:=by
  intro t ht;exact ht
 dsimp only[ksk_end];refine step _ ?_;by_cases N:f.toArray.size<2
 ·rw[if_pos N,if_pos N];refine Ac (Ar ?_);refine Ac (Ar ?_);have h:f.length<2:=N;refine TG V Z v ?_ (Ao h (by decide)) B rfl S λ z C y H l M=>a0 z C y (Ap f.length) (VV h) H l ?_
  ·skip
   apply Array.toList_inj.mp;rw[Array.toList_map,ksk_zip];exact(List.map_snd_zip (Az I))
  ·rw[X9];exact M
 ·rw[if_neg N,if_neg N];have h:2<=f.length:=by
   have:¬f.length<2:=N;exact By N
  refine Ac (kas_kind (by omega) S.kr.lb (by rfl) (beq_self_eq_true _) ?_);refine Ac (DH (kat_run (Q:=λ w D=>∃p:Array Nat,p.size=f.length/\arrOf w=p.map (kas_item ((CE q).zip (CE f)))/\failedOf w=Ah/\(SI W d K a n u f q e D/\H6 f.length r p.toList))
   I.symm h (by omega) (λ p' w D a1 a2 a3 a4=>⟨p',a1,a2,a3,a4⟩) ?_) ?_ λ _ _ x=>x)
  ·refine Vh Y h J.ok (λ i j C' D O R o hC=>?_) (λ p D o g=>⟨o,g⟩) S;unfold kas_ask;obtain⟨xa,ex,ix⟩:=o.kr.get O;obtain⟨ya,ey,iy⟩:=o.kr.get R;obtain⟨m,hm,T⟩:=J.has i j O R;have hh:∀i,i<f.length->IH (f.getD i .none)=Ag:=λ i O=>J.hand _ (by rw[Am,AA O];exact Dg O);rw[ex,ey];refine(L.ae o.le).lt hA (⟨G.ao.trans o.le,o.le.2 G.dl,Aa G.toks o.tk⟩) Q ix iy (hh i O) (hh j R) hm _ _ λ b z C H l hb=>?_;rw[hb,<-T];exact hC _ (o.step H l)
  ·rintro⟨⟨⟩,w⟩ D ⟨p,hp,U,hf,o,g⟩;exact TG V Z v (kat_snds I.symm U) (by rw[Aj,DM,hp];omega) B hf o λ z C y H l M=>a0 z C y p.toList g H l M
theorem aL {n a:Nat}{d:List Ae}{b:Aq}{K:Ai}{c:Ae->Ae->Option Int}{f:Nat->Nat->Bool}{P:Iw->Aq->Prop}(O:d.length<7)(L:EQ W k b.heap K c)(r:CX (k+2) A)(G:Gd W b)(h:W.h0.NoLimit)(w:b.heap.get? a=Ah)(v:XH c d f)
 (Q:BA W b.heap s.heap) (V:b.toks<=s.toks) (Z:s={b with heap:=s.heap,toks:=s.toks}) (z:s.heap.get? a=Ab (Ef "list" d.toArray n))
 (x:∀g t y p,H6 d.length f p->BA W b.heap g->b.toks<=t->g.get? a=Ab (Ef "list" (CE (p.map λ i=>d.getD i .none)) y)->P (.done (.ret .none)) {b with heap:=g,toks:=t}):
 Av W.M A (ksk_tree a (.ref K) Au) P E s:=by
 have B:a<s.heap.objs.size:=AT z;have D:=BN s.heap a (CG λ _=>(#[]:Array Ae));obtain⟨j,C⟩:∃j,(s.heap.update a (CG λ _=>(#[]:Array Ae))).get? a=Ab (Ef "list" #[] j):=⟨_,get?_update_seq z λ _=> #[]⟩;have l:((s.heap.update a (CG λ _=>(#[]:Array Ae))).push (Ef "tuple" d.toArray 0)).objs.size=s.heap.objs.size+1:=by rw[size_push',Heap.size_update]
 have u:BA W b.heap (s.heap.update a (CG λ _=>(#[]:Array Ae))):=Q.az w (λ o I J M=>by obtain rfl:=A4 z J;cases M) D;have R:=(u.trans (.push _ (Ef "tuple" d.toArray 0))).trans (.push _ (Ef "list" #[] 0));unfold ksk_tree;refine Ac (listItems_at z rfl ?_);refine Ac (listUpdate_at z rfl ?_ (mU O) (AY _));refine Ac (seqEpoch_at C rfl ?_);refine Ac (wpAny_newTuple ?_ (mU O));refine Ac (wpAny_newList ?_ (AY _));refine Br ?_;have H:((s.heap.update a (CG λ _=>(#[]:Array Ae))).push (Ef "tuple" d.toArray 0)).objs.size≠a:=by rw[l];exact Dy (Gl B)
 have N:b.heap.get? ((s.heap.update a (CG λ _=>(#[]:Array Ae))).push (Ef "tuple" d.toArray 0)).objs.size=Ah:=by
  cases q:b.heap.get? ((s.heap.update a (CG λ _=>(#[]:Array Ae))).push (Ef "tuple" d.toArray 0)).objs.size with
  |none=>rfl
  |some o=>
   obtain⟨U,m⟩:=BJ (u.trans (.push _ (Ef "tuple" d.toArray 0))) ⟨o,q⟩;exact absurd (AT m) (EW _)
 have S:SI W b K a ((s.heap.update a (CG λ _=>(#[]:Array Ae))).push (Ef "tuple" d.toArray 0)).objs.size j [] [] 0 {s with heap:=((s.heap.update a (CG λ _=>(#[]:Array Ae))).push (Ef "tuple" d.toArray 0)).push (Ef "list" #[] 0)}:=
  ⟨R,V,by rw[Z],AD _ rfl,AH _ (AH _ C),trivial⟩
 exact aM (Ao O (of_decide_eq_true (id (Cx Ag)))) L r G h H N S λ Y e s' T=>jL O L r G h H N w v T x
theorem Z7 {a:List Ae}{K:Ai}{c:Ae->Ae->Option Int}{l:Ai}{d:Nat->Nat->Bool}(Z:a.length<7)(L:EQ W k s.heap K c)(e:CX (k+3) A)(G:Gd W s)(z:W.h0.NoLimit)(n:XH c a d)(r:s.heap.IsList l a.toArray)
 (t:∀C V D f p,H6 a.length d p->BA W s.heap C->s.toks<=V->s.heap.get? D=Ah->C.get? D=Ab (Ef "list" (CE (p.map λ i=>a.getD i .none)) f)->Q (.ref D) {s with heap:=C,toks:=V}):
 Av W.M A (call (.builtin "sorted") [.ref l] [(Fn "key",.ref K)]) Q E s:=by
 refine call_function_entry_kw kind_sorted plain_sorted entry_sorted (ksk_s1 _ _) ?_;unfold Builtin.«sorted»;refine Ac (Ar ?_);refine Ac (collect_list r ?_ (mU Z));refine Ac (wpAny_newList ?_ (mU Z));have h:((s.heap.push (Ef "list" #[] 0)).update s.heap.objs.size (CG (·++a.toArray))).objs.size=s.heap.objs.size+1:=by
  rw[Heap.size_update,size_push']
 have N:(((s.heap.push (Ef "list" #[] 0)).update s.heap.objs.size (CG (·++a.toArray))).push (Ef "list" a.toArray 0)).get? (s.heap.objs.size+1)=Ab (Ef "list" a.toArray 0):=by
  rw[<-h];exact AD _ rfl
 have O:∀b o,s.heap.get? b=Ab o->(((s.heap.push (Ef "list" #[] 0)).update s.heap.objs.size (CG (·++a.toArray))).push (Ef "list" a.toArray 0)).get? b=Ab o:=λ b o q=>by
  have w:=AT q;rw[Heap.get?_push_ne _ _ _ (by rw[h];exact Ct (Gl w)),Heap.get?_update_ne _ _ _ _ (Ct w),Heap.get?_push_ne _ _ _ (Ct w)];exact q
 have m:s.heap.get? (s.heap.objs.size+1)=Ah:=by
  cases q:s.heap.get? (s.heap.objs.size+1) with
  |none=>rfl
  |some o=>exact absurd (AT q) (B6.mpr (Bo _))
 rw[h];have j:CX (k+2) A.in1.in1:=⟨e.handled,(e.ai (Bo _)).depth,TU (b:=2) e.units (AM rfl)⟩;refine Ac (Br (wpAny_call_entry_kw slot_list_sort ⟨_,N,rfl⟩ entry_list_sort ?body (ksk_l1 _ _)))
 case body=>
  have v:=ksk_t1 K (s.heap.objs.size+1);refine aL Z L j G z m n (.af O) (An _) rfl N λ C V f p g H l u=>⟨_,rfl,Ar ⟨_,rfl,t C V _ f p g H l m u⟩⟩
end
structure UV (W:BV)(mg mb:Str->Option Ae)(C:GE)(k':Nat)(a:Ai):Prop where
 ke:∀(A:Dj)(s:Aq)(k n:Nat)(f:Ai)(c:Ae->Ae->Option Int),CX (k+1) A->Gd W s->MA W n s.heap f c->Dp W A (call (.ref a) [.ref f]) s (λ v h'=>∃K cc,v=.ref K/\s.heap.get? K=Ah/\XF h' K cc f/\s.heap.get? cc=Ah/\MA W n h' f c)
theorem UV.call (x:UV W mg mb C g a)(o:CX (k+1) A)(G:Gd W s){c:Ae->Ae->Option Int}(w:MA W n s.heap f c):
 Dp W A (call (.ref a) [.ref f]) s (λ v h=>∃K,v=.ref K/\s.heap.get? K=Ah/\EQ W n h K c):=(x.ke A s k n f c o G w).ae λ v h _ x=>by obtain⟨K,z,a,b,d,e,f⟩:=x;exact⟨K,a,b,d.cz (BA.bh G.ao e) f⟩
noncomputable def Pj (k:AS)(o:Array Ae)(s:List (Pos×Str)):Prop:=∀r∈s,∀h,Cf r.1 o.toList=Ab h->Da k h r.2
structure iH (W:BV)(c P:Ai)(ls:List (Pos×Str)):Prop where
 mem:P∈W.TB
 get:∀h,W.di h->∃ps,FC h c P ps/\Pj h ps ls
 fg:∀h h' ps more,W.di h->h.get? P=Ab (Me ps)->(∀b o,b≠P->h.get? b=Ab o->h'.get? b=Ab o)->FC h' c P (ps++more)->Pj h' (ps++more) ls->W.di h'
 k9:∀a∈ls,∀b∈ls,a.1.line=b.1.line->a.1.col=b.1.col->a=b
noncomputable abbrev cY (k:Str)(h:D8)(o:Expr)(w:Bf)(s:List (Str×Ai))(z A C:Ae):Obj:={cls:=.type "function",data:=.func (VL "<lambda>" k h o w s z A C)}
theorem Da.ext (x:Da h a q)(T:FC h c P d)(k:BB P h H):Da H a q:=x.at_ λ b o e hc=>k b o (λ q=>by subst q;replace e:=T.at_.symm.trans e;cases e;contradiction) e
theorem cW (Gk:EY W C k mg mb)(LT:iH W c P m)(t:Cd≠P)(u:W.h0.BuiltinsAt mg P)(v:z.globals=Cd)(N:z.code=.ref c)(w:(i,a)∈m)
 (hq:z.qual++"<lambda>"=a) (O:defaultsOf d z=([],[])) (x:closureFor V z=pure j) (G:Gd W s)
 (a0:∀h p f S y,BA W s.heap h->s.toks<=p->s.heap.get? f=Ah->h.get? f=Ab (cY a d g V j ((mg "__name__").getD .none) S y)->Da h S a->Q (.ref f) {s with heap:=h,toks:=p}):
 Av W.M A (eval (.Lambda d g V i) z) Q E s:=by
 obtain⟨U,T,Y⟩:=LT.get s.heap G.dl;have B:s.heap.BuiltinsAt mg P:=by
  obtain⟨bm,o,a1,a2,a3,a4,a5,D,a7,a8⟩:=u;exact⟨bm,o,a1,a2,a3,a4,G.ao.keep a5 (by rw[D];decide) (by rw[D];decide),D,a7,a8⟩
 refine kla_eval O ?_;rw[hq];refine VB x v (Dl G.ao Gk.g) N T t B (λ I hc=>Y (i,a) w I hc) λ f I y h p J M l hf=>?_;have Z:Pj h J m:=λ r hr n hc=>by
  rcases M.only r.1 n hc with q |⟨rfl,_,e1,e2⟩
  ·exact(Y r hr n q).ext T M.ext
  ·have:=LT.k9 r hr (i,a) w e1 e2;rw[this];exact M.db
 have HL:BA W s.heap h:=by
  obtain⟨H,L⟩:=M.pre;refine⟨λ b o e=>?_,λ R=>LT.fg s.heap h U H R T.at_ (λ b o q e=>M.ext b o q e) (L▸M.ji) (L▸Z)⟩;by_cases qP:b=P
  ·subst qP
   replace e:=T.at_.symm.trans e
   cases e
   subst L;exact .inr (.inr ⟨LT.mem,U,H,rfl,M.ji.at_⟩)
  ·exact .inl (M.ext b o qP e)
 exact a0 h p f I y HL l M.new M.at_ M.db
structure Zu (params:D8)(body:Expr)(sc:Bf)(ps:List Str):Prop where
 co:sc.isCoroutine=Au
 bi:sc.isGenerator=Au
 kind:sc.kind=.function
 cp:∀x∈sc.names,x.2≠.cell
 jj:∀x∈ps,D1 x=Ag/\sc.names.lookup x=Ab .local
 nd:ps.Nodup
 mz:∀(qual:Str)(bk:List (Str×Ai))(pm cd ct:Ae)(vals:List Ae),vals.length=ps.length->bindArgs (VL "<lambda>" qual params body sc bk pm cd ct) ⟨vals,[]⟩=pure (ps.zip vals)
variable {c:Ai}{t:Expr}{g:Array CB} in
inductive MW (h:AS)(f:Ai)(body:Expr)(sc:Bf)(ps:List Str)(bk:List (Str×Ai)):Prop
 |mk (qual:Str) (params0:D8) (pm cd ct:Ae) (g:h.get? f=Ab (cY qual params0 body sc bk pm cd ct)) (c:Da h cd qual) (t:Zu params0 body sc ps)
structure QE (W:BV)(h:AS)(X:List Ai)(f:Ai)(body:Expr)(sc:Bf)(ps:List Str)(bk:List (Str×Ai))(φ:A5):Prop where
 obj:MW h f body sc ps bk
 gu:∀x sl,φ.lookup x=Ab sl->sc.names.lookup x=Ab .free/\D1 x=Ag/\(∀d,sl≠.own d)
 free:∀x,sc.names.lookup x=Ab .free->∃c ov,bk.lookup x=Ab c/\h.IsCell c ov/\∀sl,φ.lookup x=Ab sl->∃v,ov=Ab v/\BU W (bk.map (·.2)++X) (bk.map (·.2)++X) h v sl
 inj:∀x y c,bk.lookup x=Ab c->bk.lookup y=Ab c->x=y
 alive:∀a∈bk.map (·.2),W.h0.get? a=Ah/\∃o,h.get? a=Ab o
theorem QE.ae (L:QE W h X f g V l j m)(s:BA W h H):QE W H X f g V l j m where
 obj:=by obtain⟨w,k,N,O,Q,e,r,t⟩:=L.obj;exact⟨w,k,N,O,Q,s.keep e (by simp) (by simp),r.at_ λ b o e hc=>s.keep e (by rw[hc];simp) (by rw[hc];simp),t⟩
 gu:=L.gu
 free:=λ x Z=>by obtain⟨c,n,e,i,r⟩:=L.free x Z;exact⟨c,n,e,GU s i,λ A C=>by obtain⟨v,p,z⟩:=r A C;exact⟨v,p,by
  cases A with
  |av u=>exact z
  |cg u d=>exact⟨z.1,Rp.ae s z.2⟩
  |aa d=>exact Rp.ae s z
  |own d=>exact absurd rfl ((L.gu _ _ C).2.2 d)⟩⟩
 inj:=L.inj
 alive:=λ a E=>⟨(L.alive a E).1,BJ s (L.alive a E).2⟩
theorem Ud {a:List (Str×Ai)}{i:List Str}(u:EY W C k mg mb)(L:QE W s.heap X f c V i a j)(w:W.h0.NoLimit)(p:CX (k+1) A)(G:Gd W s)(x:∀b∈X,W.h0.get? b=Ah/\∃o,s.heap.get? b=Ab o){args:List Ds}
 (r:MT W (a.map (·.2)++X) s.heap g args) (y:args.length=i.length) (D:Dc C V (i.zip args++j) c d):
 Dp W A (call (.ref f) g) s (λ v I=>Rp W (a.map (·.2)++X) I v d):=λ Q E J=>by
 obtain⟨z,l,M,R,U,Y,hr,T⟩:=L.obj;refine Ia (nJ (⟨⟨_,Y,rfl⟩,hr.db,T.mz z a M R U,T.co,T.bi,T.kind,rfl,rfl,T.cp,T.jj,T.nd,L.gu,L.free,L.inj,L.alive⟩) rfl w p G x r y λ t m B H S=>?_);refine D ⟨W,_,_,_,_,_,mg,mb,u,p.down _⟩ _ S.F (S.gd B) _ _ λ v N h O Z rv=>?_;refine J v N h (S.le.trans O) (Aa H Z) ?_;refine Rp.bi (λ b o e n _=>⟨e,λ q=>n ?_⟩) rv;rcases AK.mp q with q |q
 ·exact A8 _ (Af _ q)
 ·exact AU _ q
variable {a:Ai} in
noncomputable def ZP:Ae->Option Str
 | .str a _=>Ab a
 |_=>Ah
theorem Q7 (h:ZP v=Ab a):∃t,v=.str a t:=by
 cases v with
 |str b t=>cases h;exact⟨t,rfl⟩
 |_=>contradiction
noncomputable def Mm (h:List Str)(g:Str->Str->Int)(u v:Ae):Option Int:=(ZP u).bind λ a=>(ZP v).bind λ b=>if a∈h/\b∈h then Ab (g a b) else Ah
theorem Wd {g:Str->Str->Int}(h:Mm c g u v=Ab i):∃a k b o,u=.str a k/\v=.str b o/\a∈c/\b∈c/\g a b=i:=by
 refine Jr λ E s=>?_;obtain⟨a,w,h⟩:=AL.mp h;obtain⟨b,z,h⟩:=AL.mp h;obtain⟨k,A⟩:=Q7 w;obtain⟨o,C⟩:=Q7 z;obtain⟨q,e⟩:=Le h;refine s ?_;exact⟨a,k,b,o,A,C,q.1,q.2,e⟩
theorem SO {f:Ai}{e:List (Str×Ai)}{d:List Str}{j:A5}(Z:EY W C k mg mb){c:Expr}(L:QE W h [] f c V d e j)(l:d.length=2)(o:W.h0.NoLimit){N:List Str}{g:Str->Str->Int}
 (hN:∀a∈N,A9 a=Ag/\a.length<=BX) (m:∀a∈N,∀b∈N,Dc C V (d.zip [.aa (.str a),.aa (.str b)]++j) c (.int (g a b))):MA W (k+1) h f (Mm N g):=by
 refine⟨?_,λ A s u v i n H G p=>?_⟩
 ·obtain⟨O,w,D,I,J,t,Q,T⟩:=L.obj;exact⟨_,λ x H=>⟨_,H.keep t (by simp) (by simp),rfl⟩⟩
 ·obtain⟨a,y,b,B,rfl,rfl,z,E,rfl⟩:=Wd p;exact(Ud Z (L.ae H) o n G (λ b q=>(by contradiction)) (.aa (.str a y (hN a z).1 (hN a z).2) (.aa (.str b B (hN b E).1 (hN b E).2) .nil)) l.symm (m a z b E)).ae λ r x _ Q=>Q.aj
noncomputable def Ir (h:AS):Option Ai->AS
 |none=>h
 |some B=>HN h B
theorem JK (k:∀B,ob=Ab B->b≠B):(Ir h ob).get? b=h.get? b:=by
 cases ob with
 |none=>rfl
 |some B=>exact GA (k B rfl)
theorem PL (k:BA W a h)(s:∀B,ob=Ab B->a.get? B=Ah)(w:∀B,ob=Ab B->∀o z,h.get? B=Ab o->o.data≠.fields z):BA W a (Ir h ob):=by
 cases ob with
 |none=>exact k
 |some B=>
  refine⟨λ b o e=>?_,λ t=>Nt (k.2 t) (w B rfl)⟩;have q:b≠B:=λ q=>by rw[q,s B rfl] at e;contradiction
  rw[GA q];exact k.1 b o e
variable {i:Nat}{v:Ae} in
structure QD (W:BV)(k:Nat)(ob:Option Ai)(X:List Ai)(f:Ae)(xs:List PV)(hb:AS)(J:Nat->Ae->AS->Prop):Prop where
 cx:∀i v h h',(∀b o,h.get? b=Ab o->EJ o->h'.get? b=Ab o)->J i v h->J i v h'
 mw:∀i v h,J i v h->∀B,ob=Ab B->∀o vs,h.get? B=Ab o->o.data≠.fields vs
 fn:∃fa fd,f=.ref fa/\∀h,BA W hb h->∃o,h.get? fa=Ab o/\o.data=.func fd
 step:∀A s i v e x l,CX k A->A.frames=Ab l->Ba W s.heap l->Gd W s->BA W hb s.heap->xs[i]? =Ab x->J i v s.heap->Rp W X s.heap e x->∀(Q:I9)(E:I9),
  (∀v' h' tk,BA W (Ir s.heap ob) h'->s.toks<=tk->J (i+1) v' h'->Q v' {s with heap:=h',toks:=tk})->Av W.M A (call f [v,e]) Q E s
variable {j:Nat}{st:Bq} in
structure iE (W:BV)(hb:AS)(ah:Env)(f:Ae)(J:Nat->Ae->AS->Prop)(St:Nat->AS->Prop)(i:Nat)(v:Ae)(h:AS):Prop where
 st:St i h
 ns:∃m,h.Ns ah.locals m/\m "function"=Ab f/\m "value"=Ab v
 fc:DW ah h
 le:BA W hb h
 j:J i v h
section
theorem Qc (A:DW z h)(w:h.get? L=Ab o)(k:EJ o):L≠z.locals:=λ q=>by
 obtain⟨C,E,H,s,hc,_⟩:=A;simp only[q,s] at w;cases w;unfold EJ at k;replace k:=(hc)▸k;contradiction
variable {i n tk:Nat}{v:Ae}{l:List Env} in
inductive D! (W:BV)(hb:AS)(ah:Env)(f:Ae)(J:Nat->Ae->AS->Prop)(St:Nat->AS->Prop)(m:Nat)(s:Aq):Nat->Aq->Prop
 |mk {n:Nat} {H:AS} {tk:Nat} {v:Ae} {i:Nat} (hi:i<=m) (hn:n=m-i) (x:iE W hb ah f J St i v H) (l:s.toks<=tk):D! W hb ah f J St m s n {s with heap:=H,toks:=tk}
theorem aT {R:Ev->Aq->Prop}{a:List PV}{g p t u y D G:Pos}{d:List Env}{ob:Option Ai}{f:Ae}{J:Nat->Ae->AS->Prop}{St:Nat->AS->Prop}{I:Ai}(S:QD W k ob X f a N J)(V:MX W A X I a St)(hA:CX k A)(a2:z.scope.kind=.function)(k1:z.kindOf "function"=Ab .local)(k2:z.kindOf "value"=Ab .local)(k3:z.kindOf "element"=Ab .local)
 (hI:I≠z.locals) (f4:I∈X) (d9:N.get? I=Ah) (c4:N.get? z.locals=Ah) (hL:z.locals∈X) (b2:BA W W.h0 N) (c5:W.di N) (e0:1<=s.toks) (a6:∀B,ob=Ab B->B∈X/\N.get? B=Ah/\B≠I/\B≠z.locals) (e1:A.frames=Ab (z::d)) (c6:z.frame=Ab z.locals) (e3:W.h0.get? z.locals=Ah) (c7:Ba W N d)
  {v0:Ae} (hv:iE W N z f J St 0 v0 s.heap)
 (hR:∀h' tk v,iE W N z f J (λ _ _=>True) a.length v h'->s.toks<=tk->R (.ok .next) {s with heap:=h',toks:=tk}):
 Ep W.M A (.forLoop (.Name "element" g) (.ref I) [.Assign [.Name "value" p] (.Call (.Name "function" t) [.Name "value" u,.Name "element" y] [] D) G] [] z) R s:=by
 have hp:(z.scope.kind== .class||(z.scope.kind== .module&&z.locals !=z.globals))=Au:=by rw[a2];rfl
 refine Kk (D! W N z f J St a.length s) (λ n s' e4=>ML λ Q' E' gQ gE=>?_) a.length (.mk (AY _) rfl hv (An _));induction e4 with |@mk h' tk v i hi hn x l=>
 obtain⟨oI,c8,e5,e6,f5,e7⟩:=V.cj _ _ x.st;have ext:∀{j:Nat}{h:AS},BB I h' h->BA W N h/\DW z h/\J i v h/\(∃m,h.Ns z.locals m/\m "function"=Ab f/\m "value"=Ab v):=λ{j h} C=>by
  refine⟨x.le.ext d9 (λ o vs O hd=>by obtain rfl:=A4 c8 O;exact⟨e5,e6⟩) C,x.fc.at λ o O=>C _ o (Ne.symm hI) O,S.cx i v h' h (λ b o e hd=>C b o (λ q=>?_) e) x.j,?_⟩
  ·cases q;obtain rfl:=A4 c8 e;exact e7 hd
  ·obtain⟨m,⟨o,es,ep,O,r⟩,hm⟩:=x.ns;exact⟨m,⟨o,es,ep,C _ _ (Ne.symm hI) O,r⟩,hm⟩
 by_cases a7:i<a.length
 ·have hx:=AA a7;refine Cy (An _) (V.item i {s with heap:=h',toks:=tk} _ _ a[i] x.st hx λ e h E rv U C a1=>gQ _ _ ?_);clear gQ gE Q' E';refine ML λ Q' E' gQ gE=>?_;have b3:=a1;obtain⟨b4,Y,c9,m,hm,m1,m2⟩:=ext (j:=0) C;refine V.dn (i+1) {s with heap:=h,toks:=E} _ _ _ e U (gQ _ _ ?_);clear gQ gE Q' E';refine ML λ Q' E' gQ gE=>?_;refine IG (C4 k3 hm (λ Q Z H b5=>gQ _ _ ?_) hp);clear gQ gE Q' E';refine ML λ Q' E' gQ gE=>?_;have d8:=V.cj _ _ U;have a3:=V.frame _ _ _ U (λ o O=>(H.2 I hI).trans O) λ b o a4 O _=>(H.2 b λ q=>a4 (q▸hL)).trans O;have a5:=Y.bo b5;have w:=b4.az c4 (λ o vs e' q=>by obtain⟨o',es,ep,b6,e8,b7⟩:=Y;have e2:=e';obtain rfl:=A4 b6 e2;cases b7.symm.trans q) H;have a8:=S.cx i v h Q (λ b o e' hd=>(H.2 b (Qc Y e' hd)).trans e') c9;have b8:=Rp.bi (λ b o e' n hd=>⟨(H.2 b (λ q=>n (q▸hL))).trans e',n⟩) rv;refine Jr λ gg kk=>?_;obtain⟨fa,fd,rfl,e9⟩:=S.fn;obtain⟨of,f0,f1⟩:=e9 Q w;refine kk ?_;refine Ax (Cz rfl rfl rfl (B3 (NS (Fu a2 k1 Z m1 ?_))));refine Dm rfl ?_;refine Ci (o:=of) (fd:=fd) (Be (AE (NS (Fu a2 k2 Z m2 ?_))));refine AE (NS (Fu a2 k3 Z ((if_pos rfl)) (A6 ⟨⟨f0,f1⟩,?_⟩)));have d0:Gd W {s with heap:=Q,toks:=E+1}:=⟨b2.trans w,w.2 c5,BC (Aa e0 (Aa l b3))⟩;refine S.step A {s with heap:=Q,toks:=E+1} i v e a[i] _ hA e1 ⟨by rw[a2];decide,c6,e3,a5,c7.bg w⟩ d0 w hx a8 b8 _ _ λ v' M b9 T a9 d5=>?_;have f2:=a9;have b0:∀B,ob=Ab B->z.locals≠B:=λ B q=>(a6 B q).2.2.2.symm;obtain⟨oJ,d6,d1,d2,d3,d4⟩:=V.cj _ _ a3;have c0:St (i+1) M:=V.frame _ _ _ a3 (λ o O=>by obtain rfl:=A4 d6 O;exact T.keep (by rw[JK (λ B q=>(a6 B q).2.2.1.symm)];exact d6) d3 d1) λ b o a4 O hd=>by
   have nB:∀B,ob=Ab B->b≠B:=λ B q q'=>a4 (by rw[q'];exact(a6 B q).1);exact D3 T ((JK nB).trans O) hd
  have a0:DW z M:=by
   obtain⟨o,es,ep,O,c,r⟩:=a5;exact DW.bg (h:=Ir Q ob) ⟨o,es,ep,by refine Eq.trans (JK b0) ?_;exact O,c,r⟩ T
  have c1:M.Ns z.locals (λ x=>if x="element" then Ab e else m x):=by
   obtain⟨o,es,ep,O,r⟩:=Z;exact Dl T ⟨o,es,ep,by refine Eq.trans (JK b0) ?_;exact O,r⟩
  refine IG (C4 (s:={s with heap:=M,toks:=b9}) k2 c1 (λ b1 c2 L c3=>?_) hp);refine BL ?_;have d7:iE W N z (.ref fa) J St (i+1) v' b1:=by
   refine⟨?_,⟨_,c2,by exact m1,by exact(if_pos rfl)⟩,a0.bo c3,?_,?_⟩
   ·exact V.frame _ _ _ c0 (λ o O=>(L.2 I hI).trans O) λ b o a4 O _=>(L.2 b λ q=>a4 (q▸hL)).trans O
   ·exact((PL w (λ B q=>(a6 B q).2.1) (S.mw i v Q a8)).trans T).az c4 (λ o vs e' q=>by obtain⟨o',es,ep,b6,e8,b7⟩:=a0;have e2:=e';obtain rfl:=A4 b6 e2;cases b7.symm.trans q) L
   ·exact S.cx _ _ M b1 (λ b o e' hd=>(L.2 b (Qc a0 e' hd)).trans e') d5
  exact gQ _ _ ⟨n-1,xX hn a7,.mk a7 (qS hn) d7 (BC (Aa l (Aa a1 (CM a9))))⟩
 ·have f3:=qX hi a7;subst f3;refine Cy (An _) (V.done {s with heap:=h',toks:=tk} _ _ x.st λ h E C a1=>?_);have hq:=ext (j:=0) C;exact gQ _ _ (BL (hR h E v ⟨trivial,hq.2.2.2,hq.2.1,hq.1,hq.2.2.1⟩ (Aa l a1)))
end
section
theorem QD.more {J:Nat->Ae->AS->Prop}(S:QD W k ob X f g N J)(h:∀b∈X,b∈Y):QD W k ob Y f g N J:=
 ⟨S.cx,S.mw,S.fn,λ A s i v e x l a o w b c d j r=>S.step A s i v e x l a o w b c d j (r.ai h)⟩
theorem dS {M:Dq}(h:x≠y)(o:s.heap.get? x=Ab b)(w:s.heap.get? y=Ab a)(k:a.cls≠.type "tuple")(z:Q (.bool Au) s):Av M A (EN .Is (.ref x) (.ref y)) Q E s:=by
 exact Ac (SeqAt.wpAny_isSame_ref_other' h o w k (Ar z))
theorem YD (k:Av W.M A.in1 (pyIter (.ref a)) (λ v h=>∃b,v=.ref b/\c v h) (λ _ _=>False) s):Av W.M A (call (.builtin "iter") [.ref a]) c E s:=by
 refine call_function_entry (by decide+kernel) (by decide+kernel) kdk_entry_iter (kdk_args_iter _) ?_;unfold Builtin.«iter»;refine Ac (EG (by first |rfl |kernel_rfl!) ?_);refine Ac (DH k (λ v h o=>?_) λ _ _ x=>x.elim);obtain⟨b,rfl,q⟩:=o;exact Ar ⟨_,rfl,q⟩
end
noncomputable def L' (P:Nat->Pos)(h:List Bq):Bq:=.If (.Compare (.Name "initial" (P 5)) [.Is] [.Name "_initial_missing" (P 6)] (P 7)) h [.Assign [.Name "value" (P 8)] (.Name "initial" (P 9)) (P 10)] (P 11)
noncomputable def z9 (P:Nat->Pos):Bq:=.For (.Name "element" (P 16)) (.Name "it" (P 12)) [.Assign [.Name "value" (P 17)] (.Call (.Name "function" (P 18)) [.Name "value" (P 19),.Name "element" (P 20)] [] (P 21)) (P 22)] [] (P 13)
noncomputable def K? (P:Nat->Pos):Bq:=.Return (Ab (.Name "value" (P 14))) (P 15)
noncomputable def XC (P:Nat->Pos)(h:List Bq):List Bq:=[.Assign [.Name "it" (P 0)] (.Call (.Name "iter" (P 1)) [.Name "sequence" (P 2)] [] (P 3)) (P 4),L' P h,z9 P,K? P]
inductive XA (W:BV)(mg mb:Str->Option Ae)(a:Ai):Prop
 |mk (fd:Fz) (P0:Nat->Pos) (bTry:List Bq) (fo:Gm W a fd ["function","sequence","initial"] (XC P0 bTry))
  (n1:fd.scope.names.lookup ("it":Str)=Ab .local) (n2:fd.scope.names.lookup ("value":Str)=Ab .local) (n3:fd.scope.names.lookup ("element":Str)=Ab .local) (n4:fd.scope.names.lookup ("function":Str)=Ab .local) (g1:CW fd.scope "iter"=Ag) (g2:CW fd.scope "_initial_missing"=Ag)
  (i1:mg "iter"=Ah) (i2:mb "iter"=Ab (.builtin "iter")) (mi:Ai) (o:Obj) (m1:mg "_initial_missing"=Ab (.ref mi)) (m2:W.h0.get? mi=Ab o) (m3:o.cls≠.type "tuple") (m4:o.cls≠.type "frame") (m5:o.cls≠.none)
section
theorem IQ (h:V.names.lookup x=Ab .local)(k:D1 x=Ag):A3 V x=Ag:=by unfold A3;rw[h];simp[k]
theorem Yl (t:W.di h)(k:∀B,ob=Ab B->∀o s,h.get? B=Ab o->o.data≠.fields s):W.di (Ir h ob):=by
 cases ob with
 |none=>exact t
 |some B=>exact Nt t (k B rfl)
theorem PK (e:h.get? b=Ah):(Ir h ob).get? b=Ah:=by
 cases ob with
 |none=>exact e
 |some B=>exact MJ e
theorem cC:BA W (Ir h ob) h:=by
 cases ob with
 |none=>exact .refl _
 |some B=>exact SL
theorem T1 (k:∀B,ob=Ab B->∀o,h.get? B=Ab o->o.cls≠.type "frame")(z:Ba W h l):Ba W (Ir h ob) l:=z.imp λ s A=>by
 obtain⟨o,C,E,w,hc,H⟩:=A;exact⟨o,C,E,(JK λ B q N=>k B q o (N▸w) hc).trans w,hc,H⟩
theorem qT (F:FI W V z Z X h O)(o:V.names.lookup x=Ab .local)(s:V.names.lookup y=Ab .local)(w:O.lookup x=Ab (.av u))(A:O.lookup y=Ab (.av v)):∃m,h.Ns z.locals m/\m x=Ab u/\m y=Ab v:=by
 obtain⟨m,C,k⟩:=F.ns;obtain⟨a,E,H⟩:=k x _ o w;obtain⟨b,N,Q⟩:=k y _ s A;exact⟨m,C,(H)▸E,(Q)▸N⟩
theorem SD (h:a∉AV z):¬Ea V z a:=λ q=>h (q.elim (λ q=>q▸Ad) λ⟨_,_,q⟩=>Di q)
theorem Ou {J:Nat->Ae->AS->Prop}(Gk:EY W C l mg mb)(R:XA W mg mb a)(hA:CX (k+1) A)(G:Gd W s)(hX:∀b∈X,W.h0.get? b=Ah/\∃o,s.heap.get? b=Ab o)(hs:Rp W X s.heap j (.list g))(O:∀B,ob=Ab B->B∈X/\∀o,s.heap.get? B=Ab o->(∀vs,o.data≠.fields vs)/\o.cls≠.type "frame")(b8:A.frames=Ab c)(a0:Ba W s.heap c)
 (ht:W.h0.get? t=Ah/\∃o,s.heap.get? t=Ab o) (S:QD W k ob X f g (Ir s.heap ob) J) (hJ:J 0 (.ref t) s.heap)
 (hQ:∀r tk v,BA W (Ir s.heap ob) r->s.toks<=tk->J g.length v r->Q v {s with heap:=r,toks:=tk}):Av W.M A (call (.ref a) [f,j,.ref t]) Q E s:=by
 obtain⟨fd,P,c8,fo,n1,n2,n3,n4,g1,g2,i1,i2,mi,om,b9,a1,c0,c1,c2⟩:=R;refine F8 fo hA G hX (.av (.aa hs (.av .nil))) rfl λ z u V he B c9 a2 w=>?_;have p:∀x,z.kindOf x=fd.scope.names.lookup x:=λ x=>by rw[he];rfl
 have a3:=hA.down z;have a4:W.di (Ir s.heap ob):=Yl G.dl λ B q o vs e=>((O B q).2 o e).1 vs;have D:Ba W (Ir s.heap ob) c:=T1 (λ B q o e=>((O B q).2 o e).2) a0;have d0:=w.F;refine Ax (Cz (t:=.Name "it" (P 0)) rfl rfl rfl (B3 (CF Gk w.F (w.gd B) g1 (.inr ⟨i1,i2⟩) ?_)));refine Dm (es:=[.Name "sequence" (P 2)]) rfl ?_;refine FX rfl (Be (AE (w.F.name (x:="sequence") (sl:=.aa (.list g)) ((λ h=>h) (by kernel_rfl)) λ d1 a5=>A6 ?_)));obtain⟨la,_,_,e1,_⟩:=a5.aj;subst e1;refine YD (Ha (s:={s with heap:=u,toks:=V}) (.list a5) λ I y hI d2 hk c3=>⟨I,rfl,?_⟩);have L:I∉AV z++X:=λ q=>by obtain⟨o,ho⟩:=w.F.an I q;exact Dn hI ho
 refine Jr λ gg kk=>?_;obtain⟨St,c4,M⟩:=MX.of (A:=A.deeper z) (c3 L) Ad a3.handled;refine kk ?_;have a6:BA W u y:=.af hk;have a7:XS W fd.scope z s.heap (AV z++X) (AV z++X) {s with heap:=y,toks:=V} _:=w.ae (tk:=V) a6 (An _);refine XS.fg B a7 (x:="it") (sl:=.av (.ref I)) (IQ n1 (by decide+kernel)) rfl (λ d q=>nomatch q) λ a8 c5 N T a9=>?_;obtain⟨ot,c6⟩:=BJ N.le ht.2;have b0:a8.get? mi=Ab om:=(B.ao.trans N.le).keep a1 c1 c2;have c7:t≠mi:=λ q=>by have:=ht.1;simp only[q,a1] at this;contradiction
 refine Ax (KR (DA (FI.av N.F (v:=.ref t) (by kernel_rfl) (CF Gk N.F (N.gd B) g2 (.inl b9) (dS c7 c6 b0 c0 (CA ?_)))) (by rfl)));refine Ax (Cz (t:=.Name "value" (P 8)) rfl rfl rfl (FI.av N.F (v:=.ref t) (by kernel_rfl) ?_));refine XS.fg B N (x:="value") (sl:=.av (.ref t)) (IQ n2 (by decide+kernel)) rfl (λ d q=>(by contradiction)) λ n Z H U b1=>BL ?_;have mv:∀{i:Nat}{h r:AS},St i h->Lr W (Ea fd.scope z) h r->St i r:=λ{i h r} st P=>M.frame i h r st (λ o e=>P.keep I o (SD (λ q=>L (A8 _ q))) e) λ b o hb e _=>P.keep b o (SD λ q=>hb (Af _ (A8 _ q))) e;have b2:=mv (mv c4 T) U;refine Ax ?_;unfold z9;refine Ac (AZ (Ac (FI.av (s:={s with heap:=n,toks:=Z}) H.F (v:=.ref I) (by kernel_rfl) (Ac (EG (LK (e:=.Name "it" (P 12)) rfl z _) (Ac (AZ (Ac (Br (M.self 0 {s with heap:=n,toks:=Z} _ _ b2 ?_))))))))));refine NQ (h:=Ah) ?_;have b3:s.heap.get? z.locals=Ah:=B.wr _ (.inl rfl);have b4:s.heap.get? I=Ah:=by
  exact BA.bh w.le hI
 have b5:I≠z.locals:=λ q=>L (A8 _ (q▸Ad));refine aT (s:={s with heap:=n,toks:=Z}) (S.more (Y:=I::(AV z++X)) λ b hb=>Af _ (AU _ hb)) M a3 H.F.kind (by rw[p];exact n4) (by rw[p];exact n2) (by rw[p];exact n3) b5 Ad (PK b4) (PK b3) (Af _ (A8 _ Ad)) (PL G.ao (λ B q=>(hX B (O B q).1).1) λ B q o vs e=>((O B q).2 o e).1 vs) a4 H.tk (λ B' q=>⟨Af _ (AU _ (O B' q).1),?_,?_,?_⟩) (by show A.frames.map (z::·)=_;rw[b8];rfl) (by rw[he];rfl) (w.F.alive z.locals (w.F.zx _ (w.F.bb _ Ad))).1 D (⟨b2,qT H.F n4 n2 (by kernel_rfl) (by kernel_rfl),H.fc,cC.trans H.le,S.cx _ _ _ _ (λ b o e hd=>D3 H.le e hd) hJ⟩:iE W (Ir s.heap ob) z f J St 0 (.ref t) n) λ b6 Y v x b7=>?_
 ·subst q;exact IT
 ·intro q';obtain⟨o,ho⟩:=(hX B' (O B' q).1).2;rw[q',b4] at ho;contradiction
 ·intro q';obtain⟨o,ho⟩:=(hX B' (O B' q).1).2;rw[q',b3] at ho;contradiction
 refine Jr λ gg kk=>?_;obtain⟨m,hn,m1,m2⟩:=x.ns;refine kk ?_;refine Ax (EM (NS (Fu H.F.kind (by rw[p];exact n2) hn m2 ?_)));exact hQ b6 Y v x.le (Aa a2 (Aa a9 (Aa b1 b7))) x.j
end
section
theorem BY.ap (K:D7 V z Z X h H)(k:a∈Z)(hw:¬Ea V z a)(r:BY W X h a d):BY W X H a d:=
 r.map (λ o e c=>K _ _ (.inr ⟨k,hw,by rcases c with c |c |c<;>rw[c]<;>nofun,by rcases c with c |c |c<;>rw[c]<;>nofun⟩) e) λ _ _ r=>r.bi λ b o e n s=>⟨K b o (.inl ⟨n,s⟩) e,n⟩
variable {fr:List Nat} in
structure Zw (W:BV)(A:Dj)(ah:Env)(hb:AS)(outer:List Env):Prop where
 fr:A.frames=Ab (ah::outer)
 kind:ah.scope.kind≠.module
 at_:ah.frame=Ab ah.locals
 out:Ba W hb outer
 hh:A.handled=Ah
theorem Zw.stack (h:Zw W A z N a)(S:XS W V z N Z X s O):Ba W s.heap (z::a):=
 ⟨h.kind,h.at_,(S.F.alive z.locals (S.F.zx _ (S.F.bb _ Ad))).1,S.fc,h.out.bg S.le⟩
theorem Um {Cl D:Ai}{m:List Ae}{f:List Bq}{p r u v y G I l:Pos}{j:List (Str×PV)}{b:List Env}(Gk:EY W C k mg mb)(B:XB W V z N)(b2:Zw W A z N b)(hu:A.units+2<I7)(H:HS W V z N Z X D j (z::b) s O){x:Str}(xo:Gf W mg x Cl m){g:Str}
 (R:Rz W A (execs f z) s (z::b) Cl g) (a7:CW V x=Ag) (a8:CW V "str"=Ag) {n c:Str} (hn:V.names.lookup n=Ab .local) (U:D1 n=Ag) (hw:A3 V c=Ag) (b6:n≠c) {i:FB->Aq->Prop}
 (hQ:∀h' tk e,HS W V z N Z X D j (z::b) {s with heap:=h',toks:=tk} (OF (Bs (Bs O n (.av (.ref e))) c (.aa (.str g))) n)->D7 V z Z X s.heap h'->s.toks<=tk->i .next {s with heap:=h',toks:=tk}):
 Av W.M A (exec (.Try f [.ExceptHandler (Ab (.Name x p)) (Ab n) [.Assign [.Name c r] (.Call (.Name "str" u) [.Name n v] [] y) G] I] [] [] l) z) i E s:=by
 refine M0 (R _ _ λ b3 Q e t o o1 z1 F St=>Wy (by simp) b2.fr St F λ Y a0 J=>?_);refine Ke (s:={s with heap:=Y,toks:=Q}) Gk B xo xo (b:=Ag) (by simp) H.S o a0 J a7 (by unfold A3;rw[hn,U];rfl) (λ _ b4 a9 h L a1 b0 a2=>?_) λ q=>(Bv q);refine Ax (Cz rfl rfl rfl (ND (A:=A.mark (Ab (.ref e))) Gk h.F (h.gd B) (by rw[B9,if_pos rfl]) a8 xo (hu) a1 ?_));refine XS.fg B h (sl:=.aa (.str g)) hw (.str g t o1 z1) (λ d q=>(by contradiction)) λ b5 b1 a3 M a4=>BL ?_;refine XS.jb B a3 hn U λ a5 S w T a6=>?_;have kd:=(L.trans (M.ap λ a ha=>h.F.br ha)).trans T;exact hQ a5 S e ⟨w,H.dD.ap kd H.zD H.dy,b2.stack w,H.zD,H.fD,H.bD⟩ kd (Aa o (Aa a2 (Aa a4 a6)))
end
section
noncomputable def OL (k:BV)(w:AS)(X:List Ai)(D:Ai)(z:List (Str×PV))(A C:PV)(o:Aq)(E:I9):Prop:=
 ∀h s t n v2 v3,BA k w h->o.toks<=s->h.get? t=Ab (M1 #[.ref D,v2,v3] n)->Rp k X h v2 A->Rp k X h v3 C->BY k X h D (.dict z)->t∉X->E (.ref t) {o with heap:=h,toks:=s}
theorem OL.aq (x:OL W N X D j m i s Q)(l:s.toks<=p):OL W N X D j m i {s with heap:=H,toks:=p} Q:=
 λ H h t n v2 v3 a b c d e f g=>x H h t n v2 v3 a (Aa l b) c d e f g
theorem Qa (F:FI W V z Z X h O)(k:h.get? t=Ah):t∉X:=λ q=>by
 obtain⟨o,s⟩:=F.an t q;exact Dn k s
theorem RK (w:HS W V z N Z X D g l s O)(C:O.lookup c=Ab (.av (.ref D)))(H:Ck e=Ag)(Q:Ck b=Ag)(q:Dp W A (eval e z) s (λ v o=>Rp W X o v i))
 (r:∀k h,BA W s.heap k->s.toks<=h->Dp W A (eval b z) {s with heap:=k,toks:=h} (λ v o=>Rp W X o v d)) {f:FB->Aq->Prop} (u:OL W N X D g i d s λ v x=>f (.ret v) x):
 Av W.M A (exec (.Return (Ab (.Tuple [.Name c m,e,b] p j)) a) z) f E s:=
 EM (Tu w.S.F C H Q q r λ o y t n v2 v3 K B G I J L=>u o y t n v2 v3 (w.S.le.trans K) B I J L (w.dD.ae K) (Qa w.S.F G))
theorem Qo {M:Nat}{m:List PV}{y G I J L R S x:Pos}{p:PV}{r:List (Str×PV)}{l:Str}{j:List Env}{D:Ai}(B:XB W V z N)(a9:HS W V z N Z X D r (z::j) s O){e:Ai}{n g i:Str}{d:AS}{c:Nat}(k:XS W V z N Z X {s with heap:=d,toks:=c} (Bs O n (.av (.ref e))))(Q:D7 V z Z X s.heap d)(a1:s.toks<=c)
 (hn:V.names.lookup n=Ab .local) (b0:D1 n=Ag) {u:Str} (b1:O.lookup g=Ab (.av (.ref D))) (b2:O.lookup i=Ab (.aa p)) (b3:O.lookup l=Ab (.aa (.list m))) (T:g≠n/\i≠n/\l≠n) (hz:m.length+1<=BX)
 {a:Expr} (b4:Ck a=Ag) (he:∀h tk,BA W d h->c<=tk->Dp W (A.mark (Ab (.ref e))) (eval a z) {s with heap:=h,toks:=tk} (λ v h'=>Rp W X h' v (.str u))) {q:FB->Aq->Prop}
 (hQ:OL W N X D r p (.list (m++[.str u])) s λ v s'=>q (.ret v) s'):
 Av W.M (A.mark (Ab (.ref e))) (execs [.Return (Ab (.Tuple [.Name g y,.Name i G,.BinOp (.Name l I) .Add (.List [a] J) L] M R)) S] z) (λ f a2=>Av W.M A (do bindName z n .none;Jy z n x) (λ _ a3=>q f a3) E a2) (λ _ _=>False) {s with heap:=d,toks:=c}:=by
 have y1:(Bs O n (.av (.ref e))).lookup g=Ab (.av (.ref D)):=by rw[B9,if_neg T.1];exact b1
 have y2:(Bs O n (.av (.ref e))).lookup i=Ab (.aa p):=by rw[B9,if_neg T.2.1];exact b2
 have y3:(Bs O n (.av (.ref e))).lookup l=Ab (.aa (.list m)):=by rw[B9,if_neg T.2.2];exact b3
 refine Ax (EM (Tu k.F y1 rfl rfl (LJ k.F y2) (λ a4 U C Y=>UI (k.F.ae C) y3 b4 (he a4 U C Y) hz) λ a5 b5 t n' v2 v3 K lt fr ht r2 r3=>?_));refine XS.jb B (k.ae K lt) hn b0 λ H a0 a6 w a7=>?_;have tX:=Qa k.F fr;have a8:∀b o,a5.get? b=Ab o->b∉X->(o.cls=.type "list"\/o.cls=.type "tuple"\/o.cls=.type "dict")->H.get? b=Ab o/\b∉X:=λ b o e nx hd=>⟨w b o (.inl ⟨nx,hd⟩) e,nx⟩;refine hQ H a0 t n' v2 v3 a6.le (Aa a1 (Aa lt a7)) (w t _ (.inl ⟨tX,.inr (.inl rfl)⟩) ht) (Rp.bi a8 r2) (Rp.bi a8 r3) (a9.dD.ap ((Q.trans (BA.ap K)).trans w) a9.zD a9.dy) tX
end
section
theorem Z3 {Cl:Ai}{c:List Ae}{f d:Pos}(h:EY W C k mg mb)(F:FI W V z Z X s.heap O)(G:Gd W s){n x:Str}{b:Pos}{e:Ai}{a:Str}{t:Tok}(o:O.lookup n=Ab (.av (.ref e)))(w:CW V "str"=Ag)(H:Gf W mg x Cl c)(N:A.units+2<I7)
 (I:JV s.heap e (.ref Cl) (.str a t)) (g:A9 a=Ag) (z1:a.length<=BX):Dp W A (eval (.Call (.Name "str" d) [.Name n b] [] f) z) s (λ v i=>Rp W X i v (.str a)):=λ Q E j=>
 ND h F G o w H N I (j _ s.heap s.toks (.refl _) (An _) (.str a t g z1))
theorem bG (F:FI W V z Z X s.heap O)(hc:A9 c=Ag/\c.length<=BX)(m:∀l,s.toks<=l->Dp W A (eval e z) {s with toks:=l} (λ v i=>Rp W X i v (.str a)))(n:GC .Add (.str c) (.str a)=Ab (.str u)):
 Dp W A (eval (.BinOp (.Constant (.str c) b d) .Add e f) z) s (λ v i=>Rp W X i v (.str u)):=λ Q E p=>by
 refine LX (KS (m _ (Bo _) _ _ λ v w k h C q=>?_));exact MR (s:={s with heap:=w,toks:=k}) (F.ae h).an (.str c s.toks hc.1 hc.2) q n _ _ λ v3 H o N g j=>p v3 H o (h.trans N) (Aa (Aa (Bo _) C) g) j
theorem P5 {Cl D:Ai}{k1:Nat}{L:List PV}{J:List Ae}{g:List Bq}{p1 p2 p3 p4 p5 p6 p7 a0 q1 q2 q3 q4 q6 q7 q8:Pos}{T:PV}{S:List (Str×PV)}{y:Str}{d:List Env}(Gk:EY W C k mg mb)(B:XB W V z N)(c7:Zw W A z N d)(hu:A.units+2<I7)(b7:HS W V z N Z X D S (z::d) s O){x l m:Str}{C1 G:Ai}{p r:List Ae}(xo:Gf W mg x Cl J)(b8:Gf W mg l C1 p)(b9:Gf W mg m G r)
 {b1:Bool} (c0:(BI Cl::J).contains (.ref C1)=b1) (c1:b1=Au->(BI Cl::J).contains (.ref G)=Ag) {f u:Str} (R:Rz W A (execs g z) s (z::d) Cl f) (c2:CW V l=Ag) (c3:CW V m=Ag) (c4:CW V "str"=Ag)
 (hw:if b1=Ag then GC .Add (.str "no ") (.str f)=Ab (.str u) else u=f) {n i j:Str} (hn:V.names.lookup n=Ab .local) (a9:D1 n=Ag) (b2:O.lookup i=Ab (.av (.ref D))) (b3:O.lookup j=Ab (.aa T)) (b4:O.lookup y=Ab (.aa (.list L))) (b5:i≠n/\j≠n/\y≠n) (hz:L.length+1<=BX)
 {U Y q5 q9 r1 r2 r3 r4 r5 r6 r7 r8:Pos} {k2 k3:Nat} {M:FB->Aq->Prop} (hQ:OL W N X D S T (.list (L++[.str u])) s λ v s'=>M (.ret v) s'):
 Av W.M A (exec (.Try g [.ExceptHandler (Ab (.Name l r1)) (Ab n) [.Return (Ab (.Tuple [.Name i p1,.Name j p2,.BinOp (.Name y p3) .Add (.List [.BinOp (.Constant (.str "no ") k3 r2) .Add (.Call (.Name "str" r3) [.Name n r4] [] r5) r6] p4) p5] k1 p6)) p7] U,
  .ExceptHandler (Ab (.Name m r7)) (Ab n) [.Return (Ab (.Tuple [.Name i q1,.Name j q2,.BinOp (.Name y q3) .Add (.List [.Call (.Name "str" q8) [.Name n q9] [] Y] q4) q5] k2 q6)) q7] r8] [] [] a0) z) M E s:=by
 have b6:A3 V n=Ag:=by unfold A3;rw[hn,a9];rfl
 refine M0 (R _ _ λ c6 a2 e t a1 o1 z1 F St=>Wy (by simp) c7.fr St F λ a6 a7 a3=>?_);have a8:∀{w:AS}{H:Nat},XS W V z N Z X {s with heap:=w,toks:=H} (Bs O n (.av (.ref e)))->JV w e (.ref Cl) (.str f t)->∀h tk,1<=tk->BA W w h->∀{a b c:Pos},Dp W (A.mark (Ab (.ref e))) (eval (.Call (.Name "str" a) [.Name n b] [] c) z) {s with heap:=h,toks:=tk} (λ v h'=>Rp W X h' v (.str f)):=
  λ{w H} o I h tk ht K{a b c}=>Z3 Gk (o.F.ae K) ⟨(o.gd B).ao.trans K,K.2 (o.gd B).dl,ht⟩ (by rw[B9,if_pos rfl]) c4 xo (hu) (I.bg (by simp) K) o1 z1
 refine Ke (s:={s with heap:=a6,toks:=a2}) Gk B xo b8 c0 b7.S a1 a7 a3 c2 b6 (λ q w H o Q a4 b0 a5=>?_) λ q=>?_
 ·subst q;refine Qo B b7 o Q (Aa a1 a5) hn a9 b2 b3 b4 b5 hz rfl (λ h tk K lt=>bG (o.F.ae K) ⟨by decide+kernel,by decide+kernel⟩ (λ c5 lt'=>a8 o a4 h c5 (Aa o.tk (Aa lt lt')) K) hw) hQ
 ·subst q;cases hw;refine Ke (s:={s with heap:=a6,toks:=a2}) Gk B xo b9 (c1 rfl) b7.S a1 a7 a3 c3 b6 (λ q w H o Q a4 b0 a5=>?_) λ q=>(Bv q);exact Qo B b7 o Q (Aa a1 a5) hn a9 b2 b3 b4 b5 hz rfl (λ h tk K lt=>a8 o a4 h tk (Aa o.tk lt) K) hQ
end
section
theorem FI.sameBut (F:FI W V z Z X h O)(k:BK D h H)(A:D∈X)(C:D∉AV z)(s:∀y d,O.lookup y≠Ab (.own d))(w:∃o,H.get? D=Ab o):FI W V z Z X H O:=
 F.same F.bb F.zx (λ _ n=>n.sameBut k λ q=>C (q▸Ad)) (λ _ _ _ e i=>i.sameBut k λ q=>C (q▸Di e)) (λ y _ N Q r=>by
   cases N with
   |aa e=>exact Rp.az k A r
   |av u=>exact r
   |cg u d=>exact⟨r.1,Rp.az k A r.2⟩
   |own e=>exact absurd Q (s y e)) λ b E=>⟨(F.alive b E).1,Gx k w (F.alive b E).2⟩
theorem Up (L:EY W C k mg mb)(M:CX k A)(B:XB W V z N)(y:HS W V z N Z X D g l s O)(R:Dc C V O (.Call (.Name f i) args [] j) d)(S:A3 V a=Ag){e:FB->Aq->Prop}
 (T:∀I G,HS W V z N Z X D g l {s with heap:=I,toks:=G} (Bs O a (.aa d))->s.toks<=G->e .next {s with heap:=I,toks:=G}):
 Av W.M A (exec (.Try [.Assign [.Name a m] (.Call (.Name f i) args [] j) p] (b::c) [] [] n) z) e E s:=by
 refine M0 (Ax (Cz (t:=.Name a m) rfl rfl rfl (R.at L M y.S.F (y.S.gd B) _ _ λ v J w r h U=>?_)));have o:=y.ae (tk:=w) r h;refine XS.fg B o.S (x:=a) (sl:=.aa d) S U (λ d q=>nomatch q) λ t H u Q x=>BL (BL ?_);exact T t H (o.bj u Q) (Aa h x)
theorem Un {c:List (Str×PV)}(Gk:EY W C k mg mb)(hA:CX k A)(B:XB W V z N)(H:HS W V z N Z X D c (z::a) s O)(a2:Zw W A z N a)(h1:O.lookup e=Ab (.aa d))(h2:O.lookup f=Ab (.av (.ref D)))(hi:Dc C V O i (.str b))
 (M:∀y d,O.lookup y≠Ab (.own d)) (hz:c.length+1<=BX) {g:FB->Aq->Prop} (hQ:∀h' S,HS W V z N Z X D (E7 c b d) (z::a) {s with heap:=h',toks:=S} O->s.toks<=S->g .next {s with heap:=h',toks:=S}):
 Av W.M A (exec (.Assign [.Subscript (.Name f l) i m] (.Name e n) j) z) g E s:=by
 refine wpAny_Assign_Subscript (LJ H.S.F h1 _ _ λ v a0 T R x rv=>?_) (by rfl);have w:=H.ae R x;refine FI.av w.S.F h2 ?_;refine hi.at Gk hA w.S.F (w.S.gd B) _ _ λ kv a1 Q G I rk=>?_;have h:=w.ae G I;have L:=rv.ae G;obtain⟨t,rfl,o1,z1⟩:=rk.aj;obtain⟨U,e1,y,a3,q,rl⟩:=h.dD;have Y:=FR;refine wpAny_setItem_pairs (knd:=W.K) (k:=b) (by exact beq_self_eq_true _) e1 (λ p hm u=>?_) (Aa (Az (by simpa using congrArg BP q)) (Aa (CM hz) Y));obtain⟨r1,r2⟩:=LA q rl L;have hX:D∈X:=H.S.F.zx _ H.zD;have r:BY W X p D (.dict (E7 c b d)):=⟨_,hm,y,Aa ((by simpa using congrArg BP r1)▸(HF c b d)) hz,r1,r2.az u hX⟩;have J:XS W V z N Z X {s with heap:=p,toks:=Q+1} O:=
  ⟨h.S.F.sameBut u hX H.fD M r.alive,h.S.le.az H.bD (Jp (d:=.dict c) ⟨U,e1,y,a3,q,rl⟩) u,BC h.S.tk,H.S.fr,h.S.fc.at λ o ho=>(u.2 _ (λ q=>H.fD (q▸Ad))).trans ho⟩
 exact hQ p (Q+1) ⟨J,r,a2.stack J,H.zD,H.fD,H.bD⟩ (Aa x (BC I))
end
noncomputable def B! (k:Str)(h:Expr)(P:Nat->Pos)(K:Nat->Nat):Bq:=.Try [.Return (Ab (.Tuple [.Name "book" (P 6),.BinOp (.Name "heard" (P 7)) .Add (.List [h] (P 8)) (P 9),.Name k (P 10)] (K 1) (P 11))) (P 12)] [.ExceptHandler (Ab (.Name "error_reply" (P 13))) (Ab "error") [.Assign [.Name "words" (P 14)] (.Call (.Name "str" (P 15)) [.Name "error" (P 16)] [] (P 17)) (P 18)] (P 19)] [] [] (P 20)
noncomputable def Q! (h:Str)(P:Nat->Pos)(K:Nat->Nat):Bq:=.Try [.Assign [.Name "found" (P 21)] (.Call (.Name "parse229" (P 22)) [.Name "words" (P 23),.Tuple [.Constant (.str "peer") (K 2) (P 24),.Constant (.int 21) (K 3) (P 25)] (K 4) (P 26)] [] (P 27)) (P 28)] [.ExceptHandler (Ab (.Name "error_reply" (P 29))) (Ab "error") [.Return (Ab (.Tuple [.Name "book" (P 30),.Name "heard" (P 31),.BinOp (.Name h (P 32)) .Add (.List [.BinOp (.Constant (.str "no ") (K 5) (P 33)) .Add (.Call (.Name "str" (P 34)) [.Name "error" (P 35)] [] (P 36)) (P 37)] (P 38)) (P 39)] (K 6) (P 40))) (P 41)] (P 42),.ExceptHandler (Ab (.Name "error_proto" (P 43))) (Ab "error") [.Return (Ab (.Tuple [.Name "book" (P 44),.Name "heard" (P 45),.BinOp (.Name h (P 46)) .Add (.List [.Call (.Name "str" (P 47)) [.Name "error" (P 48)] [] (P 49)] (P 50)) (P 51)] (K 7) (P 52))) (P 53)] (P 54)] [] [] (P 63)
noncomputable def P? (h:Expr)(P:Nat->Pos):Bq:=.Assign [.Subscript (.Name "book" (P 55)) h (P 56)] (.Name "found" (P 57)) (P 58)
noncomputable def P! (k:Str)(h:Expr)(P:Nat->Pos)(K:Nat->Nat):Bq:=.Return (Ab (.Tuple [.Name "book" (P 59),h,.Name k (P 60)] (K 8) (P 61))) (P 62)
noncomputable def IM (o:Str)(h k s:Expr)(P:Nat->Pos)(K:Nat->Nat):List Bq:=[.Assign [.Tuple [.Name "book" (P 0),.Name "heard" (P 1),.Name o (P 2)] (K 0) (P 3)] (.Name "state" (P 4)) (P 5),B! o h P K,Q! o P K,P? s P,P! o k P K]
noncomputable def NJ (P:Nat->Pos)(K:Nat->Nat):Expr:=.Call (.Name "parse229" (P 22)) [.Name "words" (P 23),.Tuple [.Constant (.str "peer") (K 2) (P 24),.Constant (.int 21) (K 3) (P 25)] (K 4) (P 26)] [] (P 27)
noncomputable def HV (k:BV)(C:Nat)(w:Bf)(x:Str)(v:Str)(e:Expr)(f:Str)(Cl:Ai)(E:Str):Prop:=
 ∀(A:Dj)(h:Env)(z:AS)(Z X:List Ai)(s:Aq)(o:A5)(l:List Env),CX C A->A.frames=Ab l->Ba k s.heap l->XB k w h z->XS k w h z Z X s o->o.lookup x=Ab (.aa (.str v))->o.lookup f=Ah->Rz k A (eval e h) s l Cl E
noncomputable def Pk (k:GE)(o:Bf)(x:Str)(v:Str)(e:Expr)(f:Str)(d:PV):Prop:=∀h:A5,h.lookup x=Ab (.aa (.str v))->h.lookup f=Ah->Dc k o h e d
inductive UT (W:BV)(C:GE)(k:Nat)(sc:Bf)(P:Nat->Pos)(K:Nat->Nat)(inner last idx:Expr)(C1 C2:Ai)(r:Str)(es:List (Str×PV))(hs ss:List PV):List (Str×PV)->List PV->List PV->Prop
 |ca (d):Pk C sc "reply" r inner "parse257" d->hs.length+1<=BX->UT W C k sc P K inner last idx C1 C2 r es hs ss es (hs++[d]) ss
 |jq (w0 w' u):HV W k sc "reply" r inner "parse257" C1 w0->HV W k sc "words" w0 (NJ P K) "parse229" C1 w'->GC .Add (.str "no ") (.str w')=Ab (.str u)->ss.length+1<=BX->UT W C k sc P K inner last idx C1 C2 r es hs ss es hs (ss++[.str u])
 |ju (w0 w'):HV W k sc "reply" r inner "parse257" C1 w0->HV W k sc "words" w0 (NJ P K) "parse229" C2 w'->ss.length+1<=BX->UT W C k sc P K inner last idx C1 C2 r es hs ss es hs (ss++[.str w'])
 |jz (w0 d key hs'):HV W k sc "reply" r inner "parse257" C1 w0->Pk C sc "words" w0 (NJ P K) "parse229" d->(∀ρ:A5,ρ.lookup ("heard":Str)=Ab (.aa (.list hs))->Dc C sc ρ idx (.str key))->(∀ρ:A5,ρ.lookup ("heard":Str)=Ab (.aa (.list hs))->Dc C sc ρ last (.list hs'))->es.length+1<=BX->
  UT W C k sc P K inner last idx C1 C2 r es hs ss (E7 es key d) hs' ss
variable {nl:List (Nat×Nat)}{st:Bq} in
structure Lx (sc:Bf)(x3:Str)(inner last:Expr):Prop where
 st:(A3 sc "book"&&A3 sc "heard"&&A3 sc x3)=Ag
 mj:sc.names.lookup ("error":Str)=Ab .local
 m0:A3 sc "words"=Ag
 nh:A3 sc "found"=Ag
 g1:CW sc "error_reply"=Ag
 g2:CW sc "error_proto"=Ag
 gs:CW sc "str"=Ag
 ni:Ck inner=Ag
 nl:Ck last=Ag
 x3:x3="spoiled"\/x3="refused"
section
theorem S7:∀(h:List (Str×Gs))(n m:Nat)(k:List (Str×Ai)),m<=n->(∀p∈k,m<=p.2)->∀p∈CD n h k,m<=p.2:=by
 intro h;induction h with
 |nil=>
  intro n m k w z p o;exact z p o
 |cons C r s=>
  intro n m k w z p o;obtain⟨x,E⟩:=C;unfold cellsFrom at o;split at o
  ·exact s (n+1) m _ (BC w) (λ q A=>by
    rcases Al.mp A with rfl |A
    ·exact w
    ·exact z q A) p o
  ·exact s n m k w z p o
theorem OB:∀b∈AV (B4 fd h.objs.size a),h.get? b=Ah:=λ b k=>by
 rcases Al.mp k with q |q
 ·rw[q];exact Ch h
 ·obtain⟨⟨n,c⟩,o,rfl⟩:=AF.mp q;exact Lj (CM (S7 fd.scope.names _ (h.objs.size+1) [] (An _) (λ p s=>by cases s) (n,c) o))
structure HL (D:Ai)(hs ss:List PV)(x3:Str)(ρ:A5):Prop where
 ff:ρ.lookup ("book":Str)=Ab (.av (.ref D))
 ca:ρ.lookup ("heard":Str)=Ab (.aa (.list hs))
 x3:ρ.lookup x3=Ab (.aa (.list ss))
 ik:ρ.lookup ("parse229":Str)=Ah
 own:∀y d,ρ.lookup y≠Ab (.own d)
noncomputable def Oo (h n:Str):Prop:=n≠"book"/\n≠"heard"/\n≠h/\n≠"parse229"
theorem WK {a:Str}(h:a="spoiled"\/a="refused"):Oo a "error"/\Oo a "words"/\Oo a "found":=by
 unfold Oo;rcases h with q |q<;>(rw[q];decide+kernel)
theorem HL.set (k:HL D b c a O)(o:Oo a n)(s:∀d,sl≠.own d):HL D b c a (Bs O n sl):=by
 have g:∀{y:Str},n≠y->(Bs O n sl).lookup y=O.lookup y:=λ h=>(B9 ..).trans (if_neg h.symm);refine⟨(g o.1).trans k.ff,(g o.2.1).trans k.ca,(g o.2.2.1).trans k.x3,(g o.2.2.2).trans k.ik,λ y d q=>?_⟩;by_cases e:n=y
 ·rw[B9,if_pos e.symm] at q;injection q with q;exact s d q
 ·exact k.own y d ((g e).symm.trans q)
theorem HL.drop (k:HL D b c a O)(o:Oo a n):HL D b c a (OF O n):=by
 have g:∀{y:Str},n≠y->(OF O n).lookup y=O.lookup y:=λ h=>(IB ..).trans (if_neg h.symm);refine⟨(g o.1).trans k.ff,(g o.2.1).trans k.ca,(g o.2.2.1).trans k.x3,(g o.2.2.2).trans k.ik,λ y d q=>?_⟩;by_cases e:n=y
 ·rw[IB,if_pos e.symm] at q;cases q
 ·exact k.own y d ((g e).symm.trans q)
noncomputable def pF:Ds->Bool
 | .own _=>Ag
 |_=>Au
theorem qV {l:A5}(h:l.all (λ p=>!pF p.2)=Ag):∀y d,l.lookup y≠Ab (.own d):=λ y d e=>nomatch (show Au=Ag from AQ.mp h _ (mem_of_lookup e))
theorem mH {ss hs:List PV}{a:Str}{D:Ai}{t:Nat}{r:Str}(k:a="spoiled"\/a="refused"):∃h:A5,h=Bs (Bs (Bs ((["state","reply"]:List Str).zip [Ds.av (.ref t),Ds.aa (.str r)]) "book" (.av (.ref D))) "heard" (.aa (.list hs))) a (.aa (.list ss))/\
 HL D hs ss a h/\h.lookup ("reply":Str)=Ab (.aa (.str r))/\h.lookup ("parse257":Str)=Ah:=by
 rcases k with rfl |rfl<;>exact⟨_,rfl,⟨by kernel_rfl,by kernel_rfl,by kernel_rfl,by kernel_rfl,qV (by kernel_rfl)⟩,by kernel_rfl,by kernel_rfl⟩
theorem Lh {b:A5}(v:EY W C k mg mb){P:Nat->Pos}{K:Nat->Nat}(T:Lx V f a d)(x:CX k A)(B:XB W V z N)(q:Zw W A z N l)(y:A.units+2<I7)
 (G:Gf W mg "error_reply" C1 g) (w:HS W V z N Z X D m (z::l) s b) (L:HL D n p f b) (I:b.lookup ("reply":Str)=Ab (.aa (.str r))) (J:b.lookup ("parse257":Str)=Ah)
 (M:HV W k V "reply" r a "parse257" C1 i) {j:FB->Aq->Prop} (hc:∀t Q h,HS W V z N Z X D m (z::l) {s with heap:=t,toks:=Q} h->s.toks<=Q->HL D n p f h->h.lookup ("words":Str)=Ab (.aa (.str i))->Av W.M A (execs c z) j E {s with heap:=t,toks:=Q}):
 Av W.M A (execs (B! f a P K::c) z) j E s:=by
 obtain⟨u,R,_⟩:=WK T.x3;refine Ax (Um v B q y w G (Qj (qG (pS w.S.F L.ff rfl rfl (s6 w.S.F L.ca (lL T.ni (M A z _ _ _ _ b (z::l) x q.fr w.St B w.S I J)))))) T.g1 T.gs T.mj (by decide+kernel) T.m0 (by decide+kernel) λ H o e S _ O=>hc H o _ S O (((L.set (sl:=.av (.ref e)) u λ _=>nofun).set (sl:=.aa (.str i)) R λ _=>nofun).drop u) ?_);rw[IB,if_neg (by decide+kernel),B9,if_pos rfl]
theorem TR (d:BY W X h D (.dict a)):∃o,h.get? D=Ab o/\o.cls=.type "dict"/\∀k,o.data≠.fields k:=by
 obtain⟨s,⟨o,a,A,w,hc,z,_⟩,_⟩:=d;exact⟨o,w,hc.1,λ k q=>by cases z.symm.trans q⟩
theorem N7 (d:BY W X h D (.dict a)):∀o,h.get? D=Ab o->(∀s,o.data≠.fields s)/\o.cls≠.type "frame":=λ o w=>by
 obtain⟨A,k,hc,z⟩:=TR d;obtain rfl:=A4 k w;exact⟨z,by rw[hc];decide⟩
theorem VU (Gk:EY W C k mg mb){P:Nat->Pos}{K:Nat->Nat}(fo:Gm W a fd ["state","reply"] (IM x3 i j m P K))(T:Lx fd.scope x3 i j)(hA:CX (k+1) A)(b9:A.frames=Ab l)(St:Ba W s.heap l)(G:Gd W s)
 (hX:∀b∈X,W.h0.get? b=Ah/\∃o,s.heap.get? b=Ab o) (hD:D∈X) (x1:Gf W mg "error_reply" C1 U) (x2:Gf W mg "error_proto" S p) (c0:(BI S::p).contains (.ref C1)=Au)
  (hT:s.heap.get? t=Ab (M1 #[.ref D,v1,v2] nt)) (dD:BY W X s.heap D (.dict L)) (r1:Rp W X s.heap v1 (.list hs)) (r2:Rp W X s.heap v2 (.list ss)) (re:Rp W X s.heap e (.str r))
 (R:UT W C k fd.scope P K i j m C1 S r L hs ss x I J) (hQ:OL W (HN s.heap D) X D x (.list I) (.list J) s Q):Av W.M A (call (.ref a) [.ref t,e]) Q E s:=by
 have a9:=N7 dD;refine F8 fo hA G hX (args:=[.av (.ref t),.aa (.str r)]) (.av (.aa re .nil)) rfl λ N a3 a4 he B0 b0 b1 S0=>?_;have Z:=hA.down N;obtain⟨B,S1⟩:=XS.gm B0 S0 (λ o vs e=>(a9 o e).1 vs) (hX D hD).1;have fresh:∀b∈AV N,s.heap.get? b=Ah:=by rw[he];exact OB
 have c1:Ba W (HN s.heap D) l:=St.imp λ c6 fc=>by
  obtain⟨o,L,ep,ho,hc,hd⟩:=fc;refine⟨o,L,ep,?_,hc,hd⟩;rw[GA (λ q=>(a9 o ((congrArg s.heap.get? q).symm.trans ho)).2 hc)];exact ho
 have O:Zw W (A.deeper N) N (HN s.heap D) l:=⟨by show A.frames.map (N::·)=_;rw[b9];rfl,by rw[S0.F.kind];simp,by rw[he];rfl,c1,Z.handled⟩
 have H0:HS W fd.scope N (HN s.heap D) (AV N++X) (AV N++X) D L (N::l) {s with heap:=a3,toks:=a4} _:=
  ⟨S1,(dD.ay fresh).ae S0.le,O.stack S1,AU _ hD,b0 D hD,IT⟩
 have hu:(A.deeper N).units+2<I7:=Z.u (by decide);have HQ:OL W (HN s.heap D) (AV N++X) D x (.list I) (.list J) s (λ v s'=>Q v s'):=λ h' tk t n v2 v3 a b c d e f g=>
  hQ h' tk t n v2 v3 a b c (d.ai λ b hb=>AU _ hb) (e.ai λ b hb=>AU _ hb) (by
   obtain⟨c2,e1,y,z,q,rl⟩:=f;exact⟨c2,e1,y,z,q,rl.ai λ b hb=>AU _ hb⟩) λ q=>g (AU _ q)
 unfold IM;have c3:a3.get? t=Ab (M1 #[.ref D,v1,v2] nt):=S0.le.keep hT (by simp) (by simp);refine Ax (VT (n:=nt) (s:={s with heap:=a3,toks:=a4}) Z.handled B H0 (y:="state") (T:=t) (d1:=.list hs) (d2:=.list ss) (by kernel_rfl) c3 ((Rp.ay fresh r1).ae S0.le) ((Rp.ay fresh r2).ae S0.le) T.st λ a2 a1 H2 b2=>?_);obtain⟨c4,b3,L1,k4,k5⟩:=mH (D:=D) (hs:=hs) (ss:=ss) (t:=t) (r:=r) T.x3;rw[<-b3] at H2;have a6:=Aa b1 b2;obtain⟨n1,_,n3⟩:=WK T.x3;induction R with
 |ca d g hz=>
  refine Ax (M0 (Ax (RK (s:={s with heap:=a2,toks:=a1}) H2 L1.ff rfl rfl (UI H2.S.F L1.ca T.ni ((g c4 k4 k5).at Gk Z H2.S.F (H2.S.gd B)) hz) (λ h tk K _=>LJ (s:={s with heap:=h,toks:=tk}) (H2.S.F.ae K) L1.x3) (HQ.aq a6))))
 |jq w w' u g1 g2 b4 hz=>
  refine Lh (s:={s with heap:=a2,toks:=a1}) Gk T Z B O hu x1 H2 L1 k4 k5 g1 λ a0 H a5 H3 V M m4=>?_;have V:s.toks<=H:=Aa a6 V;have R2:=g2 (A.deeper N) N _ _ _ {s with heap:=a0,toks:=H} a5 (N::l) Z O.fr H3.St B H3.S m4 M.ik;refine Ax (P5 (s:={s with heap:=a0,toks:=H}) Gk B O hu H3 x1 x1 x2 (b1:=Ag) (by simp) (λ q=>nomatch q) (Qj (λ Q E hE=>Cz (t:=.Name "found" (P 21)) rfl rfl rfl (R2 _ _ hE))) T.g1 T.g2 T.gs (by rw[if_pos rfl];exact b4) (n:="error") T.mj (by decide+kernel) M.ff M.ca M.x3 ⟨n1.1.symm,n1.2.1.symm,n1.2.2.1.symm⟩ hz (HQ.aq V))
 |ju w w' g1 g2 hz=>
  refine Lh (s:={s with heap:=a2,toks:=a1}) Gk T Z B O hu x1 H2 L1 k4 k5 g1 λ a0 H a5 H3 V M m4=>?_;have V:s.toks<=H:=Aa a6 V;have R2:=g2 (A.deeper N) N _ _ _ {s with heap:=a0,toks:=H} a5 (N::l) Z O.fr H3.St B H3.S m4 M.ik;refine Ax (P5 (s:={s with heap:=a0,toks:=H}) Gk B O hu H3 x2 x1 x2 (b1:=Au) c0 (λ _=>by simp) (Qj (λ Q E hE=>Cz (t:=.Name "found" (P 21)) rfl rfl rfl (R2 _ _ hE))) T.g1 T.g2 T.gs (by rw[if_neg (by decide)]) (n:="error") T.mj (by decide+kernel) M.ff M.ca M.x3 ⟨n1.1.symm,n1.2.1.symm,n1.2.2.1.symm⟩ hz (HQ.aq V))
 |jz w d c7 c5 g1 g2 g3 g4 hz=>
  refine Lh (s:={s with heap:=a2,toks:=a1}) Gk T Z B O hu x1 H2 L1 k4 k5 g1 λ a0 H a5 H3 V M m4=>?_;have V:s.toks<=H:=Aa a6 V;refine Ax (Up (s:={s with heap:=a0,toks:=H}) Gk Z B H3 (g2 a5 m4 M.ik) T.nh λ b5 a7 H4 b6=>?_);have Y:=M.set (n:="found") (sl:=.aa d) n3 λ _=>nofun
  refine Ax (Un (s:={s with heap:=b5,toks:=a7}) Gk Z B H4 O (d:=d) (by rw[B9,if_pos rfl]) Y.ff (g3 _ Y.ca) Y.own hz λ b7 a8 H5 b8=>?_);refine Ax (RK (s:={s with heap:=b7,toks:=a8}) H5 Y.ff T.nl rfl ((g4 _ Y.ca).at Gk Z H5.S.F (H5.S.gd B)) (λ h tk K _=>LJ (s:={s with heap:=h,toks:=tk}) (H5.S.F.ae K) Y.x3) (HQ.aq (Aa V (Aa b6 b8))))
end
variable {n:Nat}{t:Expr}{g:Array CB} in
inductive HJ (W:BV)(X:List Ai)(D:Ai)(es:Nat->List (Str×PV))(hs ss:Nat->List PV)(i:Nat)(v:Ae)(h:AS):Prop
 |mk (t n:Nat) (v1 v2:Ae) (e:v=.ref t) (g:h.get? t=Ab (M1 #[.ref D,v1,v2] n)) (r1:Rp W X h v1 (.list (hs i))) (r2:Rp W X h v2 (.list (ss i))) (d:BY W X h D (.dict (es i)))
section
theorem Uo (Gk:EY W C k mg mb){P:Nat->Pos}{K:Nat->Nat}(fo:Gm W a fd ["state","reply"] (IM M c f g P K))(T:Lx fd.scope M c f)
 (x1:Gf W mg "error_reply" C1 p) (x2:Gf W mg "error_proto" m j) (a0:(BI m::j).contains (.ref C1)=Au) (hD:D∈X) (w:BA W W.h0 N) (hX:∀b∈X,W.h0.get? b=Ah/\(b=D\/∃o,N.get? b=Ab o))
 {u:Nat->List (Str×PV)} {I L:Nat->List PV} (hR:∀i x,S[i]? =Ab x->∃r,x=.str r/\UT W C k fd.scope P K c f g C1 m r (u i) (I i) (L i) (u (i+1)) (I (i+1)) (L (i+1))):
 QD W (k+1) (Ab D) X (.ref a) S N (HJ W X D u I L) where
 cx:=λ i v h h' hk J=>by
  obtain⟨t,n,v1,v2,e,Z,U,Y,d⟩:=J;have O:∀b o,h.get? b=Ab o->b∉X->(o.cls=.type "list"\/o.cls=.type "tuple"\/o.cls=.type "dict")->h'.get? b=Ab o/\b∉X:=λ b o e nx hd=>⟨hk b o e hd,nx⟩;refine⟨t,n,v1,v2,e,hk _ _ Z (.inr (.inl rfl)),Rp.bi O U,Rp.bi O Y,?_⟩;obtain⟨a1,⟨o,a2,ep,V,hc,r⟩,y,z,q,rl⟩:=d;exact⟨a1,⟨o,a2,ep,hk _ _ V (.inr (.inr hc.1)),hc,r⟩,y,z,q,RpL.bi O rl⟩
 mw:=λ i v h J B hB o vs V q=>by
  obtain⟨t,n,v1,v2,e,Z,U,Y,d⟩:=J;cases hB;exact(N7 d o V).1 vs q
 fn:=by
  obtain⟨o,V,hd,c1,c2⟩:=fo.obj;exact⟨a,fd,rfl,λ h H=>⟨o,(w.trans H).keep V c1 c2,hd⟩⟩
 step:=λ A s i v e x l hA a3 St G H hx hJ re Q E hQ=>by
  obtain⟨t,nt,v1,v2,rfl,Z,U,Y,d⟩:=hJ;obtain⟨r,rfl,R⟩:=hR i x hx;refine VU Gk fo T hA a3 St G (λ b N=>⟨(hX b N).1,?_⟩) hD x1 x2 a0 Z d U Y re R λ h' tk t' n' w1 w2 K l' ht q1 q2 q3 q4=>?_
  ·rcases(hX b N).2 with q |q
   ·rw[q];exact d.alive
   ·exact BJ H q
  ·exact hQ (.ref t') h' tk K l' ⟨t',n',w1,w2,rfl,ht,q1,q2,q3⟩
end
variable {r:List Bq} in
noncomputable def Nz (h:List (Str×PV)):List (Str×PV)->Option Bool
 |[]=>Ab Ag
 |(k,d)::r=>match h.find? (λ e=>e.1=k) with
  |none=>Ab Au
  |some e=>(NW d e.2).bind λ x=>(Nz h r).map (x&&·)
theorem P4 (h:List (Str×PV))(k:Str)(d:PV)(r:List (Str×PV)):Nz h ((k,d)::r)=(match h.find? (λ e=>e.1=k) with |none=>Ab Au |some e=>(NW d e.2).bind λ x=>(Nz h r).map (x&&·)):=rfl
noncomputable def NH (h k:List (Str×PV)):Option Bool:=(Nz k h).map λ r=>h.length==k.length&&r
theorem V6 (k:A.units+6<I7)(o:Rp W X s.heap c a)(rb:Rp W Y s.heap d b)(e:NW a b=Ab r):SeqAt.EqAt A s c d r:=by
 unfold NW at e;split at e<;>cases e;rename_i h;simp only[AG] at h;obtain⟨⟨w,z⟩,C,E⟩:=o.reads h.1;obtain⟨⟨H,N⟩,O,Q⟩:=rb.reads h.2;exact SeqAt.eqAt_reads _ _ A s c d w H z N C O (Ay (A0 (Aa (EH ..) E) _) k)
theorem VS (N:A.units+6<I7){b:List (Str×Ae)}{a:List (Str×PV)}(hk:b.map (·.1)=a.map (·.1))(O:RpL W Y s.heap (b.map (·.2)) (a.map (·.2))):∀{w:List (Str×Ae)}{o:List (Str×PV)}{r:Bool},w.map (·.1)=o.map (·.1)->RpL W X s.heap (w.map (·.2)) (o.map (·.2))->Nz a o=Ab r->KeqHits A s b w r:=by
 intro w;induction w with
 |nil=>
  intro o r q _ h;cases o with
  |nil=>cases h;exact .nil
  |cons _ _=>cases q
 |cons p w Q=>
  intro o r q l h;cases o with
  |nil=>cases q
  |cons V o=>
  obtain⟨k,v⟩:=p;obtain⟨C,d⟩:=V;have q:=HZ q;obtain rfl:C=k:=q.1.symm;obtain⟨Z,l⟩:=RpL.gy l;have H:=LL (W:=W) (X:=Y) (h:=s.heap) C hk O;rw(occs:=.all) [P4] at h;cases z:a.find? λ e=>decide (e.1=C) with
  |none=>
   rw[z] at h;cases h;refine .miss ?_;unfold valueAt;have c:(a.any λ e=>decide (e.1=C))=Au:=by
    rw[List.find?_eq_none] at z;rw[List.any_eq_false];exact z
   rw[Option.isNone_iff_eq_none.mp (Option.isSome_eq_false_iff.mp (H.1.trans c))];rfl
  |some e=>
   rw[z] at h;obtain⟨x,f,h⟩:=AL.mp h;obtain⟨y,g,rfl⟩:=Bl.mp h;obtain⟨u,E,i⟩:=H.2 e.2 (by rw[z];rfl);exact .hit E (V6 N Z i f) (Q q.2 l g)
theorem gA (o:A.units+15<I7)(C:BY W X s.heap D (.dict a))(H:D∈Y)(N:Rp W Y s.heap y (.dict c))(e:NH a c=Ab Ag){d:Bool->Aq->Prop}(O:d Ag s):Av W.M A (eqBool (.ref D) y) d E s:=by
 obtain⟨Q,V,Z,_,w,f⟩:=C;obtain⟨b,g,rfl,i,j,l,_,z,m⟩:=N.aj;obtain⟨t,h,n⟩:=Bl.mp e;have k:D≠b:=λ q=>j (q▸H);unfold eqBool;refine Br ?_;refine wpAny_ite_split (λ q=>absurd (Value.ref.inj (BO q)) k) (λ _=>?_);refine Ac (keq_eq Z l V i (Ay (AR ..) o) (λ _=>VS (Ay (show A.units+7<=A.units+15 from A0 (by decide) _) o) z m w f h) (CA ?_));have p:Q.length=a.length:=by simpa using congrArg BP w
 have r:g.length=c.length:=by simpa using congrArg BP z
 rw[p,r,n];exact O
theorem jD (N:A.units+20<I7)(z:s.heap.get? a=Ab (M1 #[.ref D,b,c] n))(t:BY W X s.heap D (.dict d))(u:Rp W X s.heap b g)(v:Rp W X s.heap c i)(x:D∈Y)
 (rb:Rp W Y s.heap p (.ba [.dict f,j,l])) (e:NH d f=Ab Ag) (y:NW g j=Ab Ag) (B:NW i l=Ab Ag)
  (G:Q (.bool Au) s):Av W.M A (EN .NotEq (.ref a) p) Q E s:=by
 obtain⟨O,⟨I⟩,m,rfl,g2,U,sz,rm⟩:=rb.aj;obtain⟨V,Z,q,rfl,J,L,M⟩:=RpL.lw (vs:=I) rm;have r:s.heap.get? O=Ab (M1 #[V,Z,q] m):=g2;show Av W.M A (richCompare .NotEq (.ref a) (.ref O)) Q E s;refine wpAny_richCompare_same_room (op:=.NotEq) (T:="tuple") ⟨_,z,rfl⟩ ⟨_,r,rfl⟩ PySem.F.slot_tuple_ne (Ja PySem.F.slot_tuple_ne ⟨_,z,rfl⟩ PySem.F.entry_tuple_ne ?_ (PySem.F.args_tuple_ne_2 _ _)) (Ay (AR ..) N);have o:A.in1.units+15<I7:=Ay (show A.units+16<=A.units+20 from A0 (by decide) _) N;have w:A.in1.units+6<I7:=Ay (A0 (by decide) _) o;have R:∀{h:Bool->Aq->Prop}{k:I9},h Ag s->Av W.M A.in1 (eqBool (.ref D) V) h k s:=gA o t x J e;have S:∀{h:Bool->Aq->Prop}{k:I9},h Ag s->Av W.M A.in1 (eqBool b Z) h k s:=λ{h k} C=>V6 (A:=A.in1) w u L y W.prog W.w k h C;have T:∀{h:Bool->Aq->Prop}{k:I9},h Ag s->Av W.M A.in1 (eqBool c q) h k s:=λ{h k} C=>V6 (A:=A.in1) w v M B W.prog W.w k h C;have f2:=AutoSeq1.sub_tuple_tuple;have H:Value.bool Au≠Value.notImplemented/\Q (.bool Au) s:=⟨nofun,G⟩
 wp_walk using Bb z,Bb r,R,S,T
 exact⟨_,rfl,H⟩
theorem QJ (h:s.heap.IsTupleIter a t i)(V:s.heap.IsTuple t b)(W:b[i]? =Ab x)
 (Z:∀k,k.IsTupleIter a t (i+1)->BK a s.heap k->Q x {s with heap:=k}):Av (model c w) A (Na (.ref a)) Q E s:=by
 obtain⟨o,H,hc,z⟩:=id h;obtain⟨d,N,_,e,O⟩:=V;have C:∀k,k=s.heap.update a (λ o=>o.mapFields λ f=>f.set! 1 (BS ((i:Int)+1)))->k.IsTupleIter a t (i+1):=by
  rintro k rfl;exact⟨_,B1 _ H (D9 (Ek z _)),(KG ..).trans hc,by
   rw[Ek z];simp[BS]⟩
 unfold Builtin.SmallTypes.nextOf;refine Ac (Ij (name:=Fn "__next__") h.typeIs Fb (Ja Fb h.typeIs PySem.F.entry_tuple_iterator_next ?_ (PySem.F.args_tuple_iterator_next_1 _)));refine Ac (m:=field (.ref a) 0) (CS H z (x:=.ref t) rfl ?_);show Av _ _ (field (.ref a) 1 >>=_) _ _ s;refine Ac (CS H z (x:=.int i 0) rfl (Ac (m:=seqItems? (.ref t)) (wpAny_seqItems N O ?_)));simp only[Int.toNat_natCast,W];exact Ac (IF H z (by simp) (Ar ⟨x,rfl,Ar (Z _ (C _ rfl) (BN ..))⟩))
theorem QI (O:A.handled=Ah)(h:s.heap.IsTupleIter b t i)(V:s.heap.IsTuple t a)(W:a[i]? =Ah)
 (Z:∀k e,BB b s.heap k->(∃o,k.get? b=Ab o)->(∃o,k.get? e=Ab o/\o.cls=.type "StopIteration")->E (.ref e) {s with heap:=k}):Av (model c w) A (Na (.ref b)) Q E s:=by
 obtain⟨o,z,hc,C⟩:=id h;obtain⟨d,H,_,f,N⟩:=V;unfold Builtin.SmallTypes.nextOf;refine Ac (Ij (name:=Fn "__next__") h.typeIs Fb (Ja Fb h.typeIs PySem.F.entry_tuple_iterator_next ?_ (PySem.F.args_tuple_iterator_next_1 _)));refine Ac (m:=field (.ref b) 0) (CS z C (x:=.ref t) rfl ?_);show Av _ _ (field (.ref b) 1 >>=_) _ _ s;refine Ac (CS z C (x:=.int i 0) rfl (Ac (m:=seqItems? (.ref t)) (wpAny_seqItems H N ?_)));simp only[Int.toNat_natCast,W];refine Ac (NR (Ac (IF z C (by simp) ?_)));refine Ac (m:=newExc (.type "StopIteration") []) ?_;simp only[newExc,newTuple];refine Ac (B2 (Ac (m:=firstArgMember _ _) (EG (a:=E0) (by first |rfl |(simp only[firstArgMember];rfl)) (B2 ?_ (by size_fits)))) (by size_fits));unfold raiseNew;refine Ac (wpAny_handled ?_)
 first |rw[show A.in1.handled=Ah from O] |rw[O]
 exact Ac (Ar (wpAny_throw (Z _ _ (((BN ..).extBut.push _).push _) ⟨_,AH _ (AH _ (B1 _ z (D9 (Ek C _))))⟩ ⟨_,AD _ rfl,rfl⟩)))
theorem Y3 {i:Nat}{c:Ae}{f:Array Ae}{m:Fw}{e a l:Ai}{x:Ae}{j:Option Ae->Aq->Prop}(he:J0 s.heap e a i c)(a5:s.heap.IsTupleIter a l i)(hl:s.heap.IsTuple l f)(hx:f[i]? =Ab x)(L:e≠a)
 (hQ:∀Y T n Z a0,IsEnumOut Y e a ((i:Int)+1) x T->Y.IsTupleIter a l (i+1)->s.heap.get? T=Ah->Y.get? T=Ab (M1 #[.int i Z,x] n)->(∀b o,b≠e->b≠a->s.heap.get? b=Ab o->Y.get? b=Ab o)->s.toks<=a0->j (Ab (.ref T)) {s with heap:=Y,toks:=a0}):
 Av (model m w) A (pyNext (.ref e)) j E s:=by
 have hT:s.TypeIs (.ref e) "enumerate":=⟨_,he,rfl⟩;obtain⟨hp,g,d,Z,os⟩:=s;refine Ac (wpAny_attempt (Ij hT F9 (Ja F9 hT PySem.F.entry_enumerate_next ?_ (PySem.F.args_enumerate_next_1 _))));refine Ac (m:=field (.ref e) 2) (CS he rfl (x:=.ref a) rfl ?_);refine Ac (QJ a5 hl hx λ D B C=>?_);have H:=(C.2 e L).trans he;refine Ac (CS H rfl (x:=BS i) rfl ?_);refine Ac (CS H rfl (x:=.none) rfl ?_);refine Ac (wpAny_mkInt ?_);refine Ac (H9 (s:=⟨D,g,d,Z+1,os⟩) H (by simp) λ G N p=>?_)
 replace N:J0 G e a ((i:Int)+1) c:=N
 refine Ac (H9 (s:=⟨G,g,d,Z+1,os⟩) N (by simp) λ k O t=>?_)
 replace O:J0 k e a ((i:Int)+1) c:=O
 refine Ac (wpAny_newTuple ?_);have z:J0 (k.push {cls:=.type "tuple",data:=.seq #[.int i Z,x]}) e a ((i:Int)+1) c:=AH _ O;have a1:k.objs.size=hp.objs.size:=by rw[t.1,p.1,C.1]
 have a6:k.objs.size≠e:=by rw[a1];exact(Dy (AT he))
 have a2:=AD k (o:={cls:=.type "tuple",data:=.seq #[.int i Z,x]}) rfl;have a3:∀{h:AS}{o:Obj}{b:Ai},b≠e->BK e (k.push {cls:=.type "tuple",data:=.seq #[.int i Z,x]}) h->(k.push {cls:=.type "tuple",data:=.seq #[.int i Z,x]}).get? b=Ab o->h.get? b=Ab o:=λ{h o b} u hs q=>(hs.2 b u).trans q;generalize M:k.push {cls:=.type "tuple",data:=.seq #[.int i Z,x]}=I at z a2 a3;refine Ac ?_;dsimp only[Builtin.SmallTypes.ownedTupleIsFree];refine Ac (CS z rfl (x:=.none) rfl (Ar ?_));refine Ac (NR (Ac (CS z rfl (x:=c) rfl ?_)));refine Ac (H9 z (An _) λ a4 Q R=>?_)
 replace Q:J0 a4 e a (i+1) x:=Q
 refine Ac ?_;refine Ac (H9 Q (by simp) λ J V S=>?_)
 replace V:IsEnumOut J e a (i+1) x k.objs.size:=V
 refine H9 (s:=⟨J,g,d,Z+1,os⟩) V (by simp) λ v W U=>?_
 replace W:IsEnumOut v e a (i+1) x k.objs.size:=W
 have y:∀{b:Ai}{o:Obj},b≠e->I.get? b=Ab o->v.get? b=Ab o:=λ{b o} u q=>(U.2 b u).trans ((S.2 b u).trans ((R.2 b u).trans q));have on:∀{b:Ai}{o:Obj},b≠e->D.get? b=Ab o->I.get? b=Ab o:=λ{b o} u q=>by rw[<-M];exact AH _ ((t.2 b u).trans ((p.2 b u).trans q))
 refine Ac (wpAny_letGo (Ar ⟨_,rfl,Ar (hQ v _ 0 Z (Z+1) W ?_ ?_ (y a6 a2) (λ b o u a7 q=>y u (on u ((C.2 b a7).trans q))) (Bo _))⟩))
 ·obtain⟨o,ho,r⟩:=B;exact⟨o,y (Ne.symm L) (on (Ne.symm L) ho),r⟩
 ·skip
  rw[a1];exact Ch hp
open AutoSeq1 (wpAny_loadPart')
theorem fU {i:Nat}{f:Ae}{a:Array Ae}{d:Fw}{e b l:Ai}{c:Option Ae->Aq->Prop}(Q:A.handled=Ah)(N:J0 s.heap e b i f)(k:s.heap.IsTupleIter b l i)(V:s.heap.IsTuple l a)(W:a[i]? =Ah)
 (Z:∀h,BB b s.heap h->(∃o,h.get? b=Ab o)->c Ah {s with heap:=h}):Av (model d w) A (pyNext (.ref e)) c E s:=by
 have O:s.TypeIs (.ref e) "enumerate":=⟨_,N,rfl⟩;unfold pyNext;refine Ac (wpAny_attempt (Ij O F9 (Ja F9 O PySem.F.entry_enumerate_next ?_ (PySem.F.args_enumerate_next_1 _))));refine Ac (m:=field (.ref e) 2) (CS N rfl (x:=.ref b) rfl ?_);refine Ac (QI Q k V W λ h x z C H=>?_);obtain⟨o,g,hc⟩:=H;exact Ac (wpAny_isInstance ⟨o,g,hc⟩ isSubtype_stop (Ar (Z _ z C)))
theorem fT (l:Ai)(k:Array Ae)(n:Nat):Meets (Jw.«enumerate.__new__» ⟨[.type "enumerate",.ref l],[]⟩) (λ _ R s=>s.heap.get? l=Ab (M1 k n)/\
 R (.ok (.ret (.ref (s.heap.push {cls:=.type "tuple_iterator",data:=.fields #[.ref l,.int 0 0]}).objs.size)))
   {s with heap:=(s.heap.push {cls:=.type "tuple_iterator",data:=.fields #[.ref l,.int 0 0]}).push {cls:=.type "enumerate",data:=.fields #[.none,.bool Au,.ref s.heap.objs.size,BS 0,.none,.none]}}):=
 .of_wp λ z w A R s h=>by
  obtain⟨H,g,d,N,os⟩:=s;obtain⟨o,h⟩:=h;have C:=sub_enumerate;have E:Heap.IsTuple (Shared.heap ⟨H,g,d,N,os⟩) l k:=⟨_,o,rfl,n,rfl⟩
  wp_walk using Bb o
  refine wpAny_stack_any λ st=>Ar ?_;refine wpAny_ite_split (λ _=>?_) (λ _=>?_)
  ·wp_walk using Bb o,wpAny_pyIter_tuple E
   exact⟨_,rfl,h⟩
  ·wp_walk using Bb o,wpAny_pyIter_tuple E
   exact⟨_,rfl,h⟩
theorem Y4 (N:s.heap.get? l=Ab (M1 a n))
 (O:∀k,J0 k (s.heap.objs.size+1) s.heap.objs.size 0 .none->k.IsTupleIter s.heap.objs.size l 0->(∃h:AS,(∀b o,s.heap.get? b=Ab o->h.get? b=Ab o)/\(∃o,h.get? s.heap.objs.size=Ab o)/\h.get? (s.heap.objs.size+1)=Ah/\∀b o,h.get? b=Ab o->k.get? b=Ab o)->Q (.ref (s.heap.objs.size+1)) {s with heap:=k}):
 Av (model c w) A (call (.type "enumerate") [.ref l]) Q E s:=by
 refine callType_new PySem.F.called_enumerate (by decide) (PySem.F.typeCall_enumerate_1 _) (PySem.F.newCall_enumerate_1 _) (λ z=>PySem.F.args_object_init_2 z _) PySem.F.entry_enumerate_new (fT l a n) ⟨N,?_⟩;have C:(s.heap.push {cls:=.type "tuple_iterator",data:=.fields #[.ref l,.int 0 0]}).objs.size=s.heap.objs.size+1:=CU ..;rw[C];have H:=AD (s.heap.push {cls:=.type "tuple_iterator",data:=.fields #[.ref l,.int 0 0]}) (o:={cls:=.type "enumerate",data:=.fields #[.none,.bool Au,.ref s.heap.objs.size,BS 0,.none,.none]}) rfl;rw[C] at H;exact⟨⟨_,H,rfl⟩,O _ H ⟨_,AH _ (AD _ rfl),rfl,rfl⟩ ⟨_,λ b o x=>AH _ x,⟨_,AD _ rfl⟩,by rw[<-C];exact Ch _,λ b o x=>AH _ x⟩⟩
noncomputable def jW (h:AS)(e:Ai)(k:Obj):AS:={h with objs:=h.objs.modify e λ _=>k}
theorem Ss (k:b≠e):(jW h e o).get? b=h.get? b:=by
 unfold jW Heap.get?;rw[Io,if_neg (Ne.symm k)]
theorem Ya (k:o.isFreed=Au)(s:h.get? e=Ab a):(jW h e o).get? e=Ab o:=by
 have:=AT s;unfold jW;rw[Heap.get?_some_iff];refine⟨?_,k⟩;show(h.objs.modify e λ _=>o)[e]? =Ab o;rw[Io,if_pos rfl,(Array.getElem?_eq_getElem this)];rfl
theorem XS.fe {I:Ai}{a:Nat}(S:XS W V z N Z X s O)(Q:I∈Z)(E:I∉AV z)(w:N.get? I=Ah)(k:∃o,s.heap.get? I=Ab o/\o.cls≠.none/\o.cls≠.type "code")(h:BB I s.heap H)(A:∃o,H.get? I=Ab o)(l:s.toks<=a):
 XS W V z N Z X {s with heap:=H,toks:=a} O:=by
 obtain⟨d,C,b,c⟩:=k;exact⟨S.F.ext h Q E A,S.le.ext w (λ o e k f=>by obtain rfl:=A4 C k;exact⟨b,c⟩) h,Aa S.tk l,S.fr,S.fc.at λ o k=>h _ o (λ q=>E (q▸Ad)) k⟩
theorem XS.j4 {I J:Ai}{a:Nat}(S:XS W V z N Z X s O)(r:I∈Z)(t:J∈Z)(w:I∉AV z)(A:J∉AV z)(C:N.get? I=Ah)(E:N.get? J=Ah)(Q:I≠J)(c:∃o,s.heap.get? I=Ab o/\o.cls≠.none/\o.cls≠.type "code")(d:∃o,s.heap.get? J=Ab o/\o.cls≠.none/\o.cls≠.type "code")
 (u:∀b o,b≠I->b≠J->s.heap.get? b=Ab o->H.get? b=Ab o) (f:∃o,H.get? I=Ab o) (g:∃o,H.get? J=Ab o) (l:s.toks<=a):XS W V z N Z X {s with heap:=H,toks:=a} O:=by
 obtain⟨v,n,x,y⟩:=c;obtain⟨i,k⟩:=f;have h:=Ya (Heap.get?_some_iff.mp n).2 k;have B:=S.fe t A E d (λ b o j e=>by
  by_cases q:b=I
  ·cases q;obtain rfl:=A4 n e;exact h
  ·rw[Ss q];exact u b o q j e) (by rw[Ss Q.symm];exact g) l
 exact B.fe r w C ⟨v,h,x,y⟩ (λ b o m e=>by
  have p:=e;rw[Ss m] at p;exact p) ⟨i,k⟩ (An _)
variable {i:Nat}{r:List Bq} in
noncomputable def Uz:Nat->List PV->List PV
 |_,[]=>[]
 |i,d::r=>.ba [.int i,d]::Uz (i+1) r
section
variable {fr:List Nat} in
structure Zy (ah:Env)(hb:AS)(Z X:List Ai)(e it:Ai):Prop where
 ei:e≠it
 eX:e∉X
 iX:it∉X
 eb:hb.get? e=Ah
 ib:hb.get? it=Ah
 zx:∀a∈Z,a∈X
 zf:∀a∈AV ah,a∈Z
 fr:∀a∈X,a∉Z->hb.get? a=Ah
section
theorem Zy.ef (c:Zy z N Z X e a):e∉AV z:=λ q=>c.eX (c.zx _ (c.zf _ q))
theorem Zy.iF (c:Zy z N Z X e a):a∉AV z:=λ q=>c.iX (c.zx _ (c.zf _ q))
theorem Zy.apart (c:Zy z N Z X e a)(H:J0 h e a i f)(s:h.IsTupleIter a l d)(C:h.get? b=Ab o)(hc:(b∉X/\EJ o)\/(b∈Z/\¬Ea V z b/\o.cls≠.type "frame"/\o.cls≠.none)):b≠e/\b≠a:=by
 rcases hc with⟨_,O⟩ |⟨E,_⟩
 ·have k:∀{x:String},o.cls=.type x->x≠"list"/\x≠"tuple"/\x≠"dict"->False:=λ e n=>by
   rcases O with q |q |q<;>replace e:=q.symm.trans e<;>cases e
   ·exact n.1 rfl
   ·exact n.2.1 rfl
   ·exact n.2.2 rfl
  obtain⟨Q,w,A,_⟩:=s;exact⟨λ q=>k (congrArg Obj.cls (AN ((q▸C).symm.trans H))) (by decide),λ q=>k ((congrArg Obj.cls (AN ((q▸C).symm.trans w))).trans A) (by decide)⟩
 ·exact⟨λ q=>c.eX (c.zx _ (q▸E)),λ q=>c.iX (c.zx _ (q▸E))⟩
theorem Zy.ai (c:Zy z N Z X e a)(A:J0 h e a i f)(k:h.IsTupleIter a l d)(C:D7 V z (e::a::Z) (e::a::X) h H):D7 V z Z X h H:=λ b o hc s=>by
 have w:=c.apart A k s hc;exact C b o (hc.imp (λ c=>⟨λ q=>(Al.mp q).elim w.1 λ q=>(Al.mp q).elim w.2 c.1,c.2⟩) λ c=>⟨Af _ (Af _ c.1),c.2⟩) s
theorem Zy.drop (c:Zy z N Z X e b)(S:XS W V z N (e::b::Z) (e::b::X) s O):XS W V z N Z X s O:=
 ⟨(S.F.bp (λ _ _ _ e=>e) c.ef (λ q=>(Al.mp q).elim c.ei c.eX) (λ a h=>(Al.mp h).elim (λ q=>q▸Ad) λ q=>Af _ (c.zx a q))).bp (λ _ _ _ e=>e) c.iF c.iX c.zx,S.le,S.tk,c.fr,S.fc⟩
theorem Zy.gl (c:Zy z N Z X e a)(w:J0 h e a i b)(k:h.IsTupleIter a l d)(s:D7 V z (e::a::Z) (e::a::X) h H):J0 H e a i b/\H.IsTupleIter a l d:=by
 refine⟨s e _ (.inr ⟨Ad,SD c.ef,by simp,by simp⟩) w,?_⟩;obtain⟨o,A,hc,r⟩:=k;exact⟨o,s a o (.inr ⟨Af _ Ad,SD c.iF,by rw[hc];decide,by rw[hc];decide⟩) A,hc,r⟩
variable {S i n tk:Nat}{gi:Ae} in
inductive E! (W:BV)(A:Dj)(sc:Bf)(ah:Env)(hb:AS)(Z X:List Ai)(e it l:Ai)(s:Aq)(t:Expr)(b o:List Bq)(ds:List PV)(fl:Fl):Nat->Aq->Prop
 |mk {n:Nat} {H:AS} {tk:Nat} {O:A5} {i:Nat} {gi:Ae} (hi:i<=ds.length) (hn:n=ds.length-i) (he:J0 H e it (i:Nat) gi) (hit:H.IsTupleIter it l i) (S:XS W sc ah hb (e::it::Z) (e::it::X) {s with heap:=H,toks:=tk} O) (kd:D7 sc ah Z X s.heap H) (lt:s.toks<=tk) (ev:H7 W A sc ah hb t b o (Uz i (ds.drop i)) O fl):E! W A sc ah hb Z X e it l s t b o ds fl n {s with heap:=H,toks:=tk}
end
theorem SY {R:Ev->Aq->Prop}{x:List PV}{j:Array Ae}(B:XB W V z N)(hh:A.handled=Ah)
 (c:Zy z N Z X e m)
 (he:J0 s.heap e m 0 D) (d0:s.heap.IsTupleIter m l 0) (hl:s.heap.get? l=Ab (M1 j I)) (d1:l∉X) (c2:RpL W (e::m::X) s.heap j.toList x) (e0:x.length<=BX)
 (S:XS W V z N (e::m::Z) (e::m::X) s O) (ev:H7 W A V z N (.Tuple p y t) b g (Uz 0 x) O G) (hQ:Ky W V z N Z X s G (λ f s'=>R (.ok f) s')):Ep W.M A (.forLoop (.Tuple p y t) (.ref e) b g z) R s:=by
 have b2:j.size=x.length:=c2.length;refine Kk (E! W A V z N Z X e m l s (.Tuple p y t) b g x G) (λ n s' hI=>ML λ Q' E' Y gE=>?_) x.length (.mk (AY _) rfl he d0 S .refl (An _) ev);induction hI with |@mk h' tk d2 i D hi hn L C S' kd l' e'=>
 have c3:h'.IsTuple l j:=⟨_,kd l _ (.inl ⟨d1,.inr (.inl rfl)⟩) hl,rfl,_,rfl⟩;have c4:∃g,h'.get? m=Ab g/\g.cls≠.none/\g.cls≠.type "code":=by obtain⟨g,a,c,_⟩:=C;exact⟨g,a,by rw[c];nofun,by rw[c];decide⟩
 by_cases a0:i<x.length
 ·have a3:=b2▸a0;have hx:=Array.getElem?_eq_getElem a3;have hd:=Fe a0;rw[hd] at e';obtain⟨e1,f1,h1,h2,e'⟩:=e'.aj;refine Cy (An _) (Y3 L C c3 hx c.ei λ a4 T nT e2 d3 b7 b1 c5 hT c6 b3 _=>Y _ _ ?_);clear Y gE Q' E';refine ML λ Q' E' Y gE=>?_;have a5:=b3;refine wpAny_letOwnedTupleGo_enum b7 λ h a6 o=>Y _ _ ?_;clear Y gE Q' E';refine ML λ Q' E' Y gE=>?_
  replace o:BK e a4 h:=o
  have a7:∀b g,b≠e->b≠m->h'.get? b=Ab g->h.get? b=Ab g:=λ b g a1 a2 q=>(o.2 b a1).trans (c6 b g a1 a2 q);have E:h.IsTupleIter m l (i+1):=by obtain⟨g,ho,r⟩:=b1;exact⟨g,(o.2 m (Ne.symm c.ei)).trans ho,r⟩
  have d4:T≠e:=λ q=>by have b8:=c5;simp only[q,L] at b8;contradiction
  have b9:D7 V z Z X h' h:=λ b g hc ho=>a7 b g (c.apart L C ho hc).1 (c.apart L C ho hc).2 ho;have b4:XS W V z N (e::m::Z) (e::m::X) {s with heap:=h,toks:=d3} d2:=
   S'.j4 Ad (Af _ Ad) c.ef c.iF c.eb c.ib c.ei ⟨_,L,by simp,by simp⟩ c4 a7 ⟨_,a6⟩ (by obtain⟨g,ho,_⟩:=E;exact⟨g,ho⟩) a5
  have d5:x[i]? =Ab x[i]:=AA a0;obtain⟨u,hu,ru⟩:=(c2.bi λ b g q n hd=>⟨a7 b g (λ b8=>n (b8▸Ad)) (λ b8=>n (b8▸Af _ Ad)) (kd b g (.inl ⟨λ b8=>n (Af _ (Af _ b8)),hd⟩) q),n⟩).get d5;have eu:u=j[i]'a3:=by
   obtain rfl:=A4 hx (by simpa using hu);rfl
  subst eu;have TX:T∉e::m::X:=λ q=>by
   obtain⟨g,ho⟩:=S'.F.an T q;exact Dn c5 ho
  have rT:Rp W (e::m::X) h (.ref T) (.ba [.int i,x[i]]):=.ba ((o.2 T d4).trans hT) TX (by show 2<=BX;simp[BX]) (.cons (.int _ _) (.cons ru .nil));refine GR hh B b4 h1 rT λ b5 c0 c7 c1 c8=>Y _ _ ?_;clear Y gE Q' E';refine ML λ Q' E' Y gE=>?_;have a8:D7 V z (e::m::Z) (e::m::X) h b5:=c1.ap λ a ha=>b4.F.br ha;have M:J0 h e m ((i+1:Nat):Int) (j[i]'a3):=by have:=a6;push_cast;exact this
  obtain⟨H,k⟩:=c.gl M E a8;have c9:=(kd.trans b9).trans (c.ai M E a8);have a9:=Aa l' (Aa a5 c8);refine h2.go (e::m::Z) (e::m::X) {s with heap:=b5,toks:=c0} _ _ c7 ?_;cases f1 with
  |next d6=>exact λ U Q b0 w J=>Y _ _ ⟨n-1,xX hn a0,.mk a0 (qS hn) (c.gl H k w).1 (c.gl H k w).2 b0 (c9.trans (c.ai H k w)) (Aa a9 J) e'⟩
  |brk d6=>cases e';exact λ U Q b0 w J=>Y _ _ (hQ U Q (c.drop b0) (c9.trans (c.ai H k w)) (Aa a9 J))
  |ret d=>cases e';exact λ v U Q d7 J r=>Y _ _ (hQ v U Q d7 (Aa a9 J) (r.ai λ a ha=>Af _ (Af _ ha)))
 ·have d8:=qX hi a0;subst d8;rw[List.drop_length] at e';refine Cy (An _) (fU hh L C c3 (LW (Az b2)) λ a4 b6 d9 b3=>?_);exact Y _ _ (e'.iz.go Z X {s with heap:=a4,toks:=tk} _ _ (c.drop (S'.fe (Af _ Ad) c.iF c.ib c4 b6 d9 (An _))) (hQ.aq (kd.trans λ b g hc ho=>b6 b g (c.apart L C ho hc).2 ho) l'))
end
theorem fC {ds:List PV}(Gk:EY W C k mg mb)(hA:CX k A)(B:XB W V z N)(T:mg "enumerate"=Ah/\mb "enumerate"=Ab (.type "enumerate"))(hg:CW V "enumerate"=Ag)(hx:Dc C V O (.Name x i) (.ba ds))
 (U:ds.length<=BX) (ev:H7 W A V z N (.Tuple d e c) b f (Uz 0 ds) O j):
 FY W A V z N (exec (.For (.Tuple d e c) (.Call (.Name "enumerate" g) [.Name x i] [] p) b f n) z) O j:=.mk λ Z X s Q E S hQ=>by
 refine Ac (AZ (Ac (B3 (CF Gk S.F (S.gd B) hg (.inr T) ?_))));refine Dm rfl ?_;refine M7 rfl (Be (AE (hx.at Gk hA S.F (S.gd B) _ _ λ v h t G I rv=>A6 ?_)));have o:=S.ae G I;obtain⟨l,vs,nl,rfl,hl,Y,R,rl⟩:=rv.aj;refine Y4 hl λ u w y hm=>?_;refine Jr λ gg kk=>?_;obtain⟨J,a1,a2,a3,a4⟩:=hm;refine kk ?_;have H:BA W h J:=.af a1;have r:BA W J u:=.af a4;have D:=Ch h;have en:h.get? (h.objs.size+1)=Ah:=by
  cases q:h.get? (h.objs.size+1) with
  |none=>rfl
  |some f=>exact absurd (AT q) (B6.mpr (Bo _))
 refine Ac (EG (LK rfl z _) (Ac (AZ (Ac (Br (wpAny_pyIter_enum w ?_))))));have L:∀{a:Ai},h.get? a=Ah->N.get? a=Ah:=λ{a} q=>by
  exact BA.bh o.le q
 have nX:∀{a:Ai},h.get? a=Ah->a∉X:=λ{a} q m=>by obtain⟨f,ho⟩:=o.F.an a m;exact Dn q ho
 have M:XS W V z N ((h.objs.size+1)::h.objs.size::Z) ((h.objs.size+1)::h.objs.size::X) {s with heap:=u,toks:=t} O:=
  ⟨((o.F.fresh (B.ao.trans o.le) H D a2).fresh ((B.ao.trans o.le).trans H) r a3 ⟨_,w⟩),(o.le.trans H).trans r,o.tk,λ a ha R=>S.fr a (by
    rcases Al.mp ha with q |q
    ·exact absurd (q▸Ad) R
    ·rcases Al.mp q with q |q
     ·exact absurd (q▸Af _ Ad) R
     ·exact q) λ q=>R (Af _ (Af _ q)),(o.fc.bg H).bg r⟩
 refine NQ ?_;exact SY (s:={s with heap:=u,toks:=t}) B hA.handled ⟨Nat.succ_ne_self _,nX en,nX D,L en,L D,S.F.zx,S.F.bb,S.fr⟩ w y ((H.trans r).keep hl (by simp) (by simp)) Y (((rl.be D).be en).ae (H.trans r)) U M ev (hQ.aq ((G.trans (H.trans r)).ap) I)
variable {r:List Bq} in
noncomputable def FT (h:AS):List Ai->AS
 |[]=>h
 |b::r=>HN (FT h r) b
theorem JL:∀{X:List Ai}{b:Ai},b∈X->(FT c X).get? b=Ah
 |a::r,b,h=>by
  by_cases q:b=a
  ·subst q;exact IT
  ·rw[GA q];exact JL ((Al.mp h).resolve_left q)
theorem DG:∀{X:List Ai}{b:Ai},b∉X->(FT h X).get? b=h.get? b:=by
 intro X;induction X with
 |nil=>
  intro b _;exact rfl
 |cons a r k=>
  intro b s;have o:b≠a:=λ q=>s (by rw[q];exact Ad);rw[GA o];exact k λ q=>s (Af _ q)
noncomputable def BV.bc (h:BV)(k:AS)(X:List Ai):BV:={h with h0:=FT k X}
section
theorem BA.cs (s:BA W W.h0 a)(A:∀b∈Y,W.h0.get? b=Ah)(w:BA (W.bc a Y) h H):BA W h H:=by
 refine⟨λ b o e=>?_,w.2⟩;rcases w.1 b o e with k |⟨n,k,C,E⟩ |k
 ·exact .inl k
 ·refine .inr (.inl ⟨?_,k,C,E⟩);by_cases q:b∈Y
  ·exact A b q
  ·have z:(FT a Y).get? b=Ah:=n;rw[DG q] at z;exact DC s z
 ·exact .inr (.inr k)
theorem aY:BA (W.bc h Y) (W.bc h Y).h0 h:=.af λ b o e=>by
 by_cases q:b∈Y
 ·have k:(FT h Y).get? b=Ab o:=e;rw[JL q] at k;cases k
 ·have k:(FT h Y).get? b=Ab o:=e;rw[DG q] at k;exact k
theorem Rp.bc (r:Rp W X h v d):Rp (W.bc a Y) X h v d:=Rp.to (W:=W) (W':=W.bc a Y) (λ _ _ e n _=>⟨e,n⟩) (λ _ _ e n=>⟨e,n⟩) r
theorem RpL.bc (r:RpL W X h a b):RpL (W.bc c Y) X h a b:=r.map λ _ _=>Rp.bc
theorem Rp.cs (r:Rp (W.bc a Y) X h v d):Rp W X h v d:=Rp.to (W:=W.bc a Y) (W':=W) (λ _ _ e n _=>⟨e,n⟩) (λ _ _ e n=>⟨e,n⟩) r
end
section
theorem BY.bc (r:BY W X h a d):BY (W.bc b Y) X h a d:=BY.to (W:=W) (W':=W.bc b Y) (λ _ e _=>e) (λ _ e=>e) (λ _ _=>RpL.bc) r
theorem BU.bc (r:BU W Z X h v a):BU (W.bc b Y) Z X h v a:=r.to (λ _ _=>Rp.bc) λ _ _ m z o=>⟨m,z,o.bc⟩
theorem FI.bc (F:FI W V z Z X h O)(k:∀a∈X,a∈Y\/b.get? a=Ah):FI (W.bc b Y) V z Z X h O:=
 F.same F.bb F.zx (λ _ h=>h) (λ _ _ _ _ h=>h) (λ _ _ _ _ r=>r.bc) λ a o=>⟨by
   by_cases q:a∈Y
   ·exact JL q
   ·refine Eq.trans (DG q) ?_;exact(k a o).resolve_left q,(F.alive a o).2⟩
theorem Gd.bc (G:Gd W s):Gd (W.bc s.heap Y) s:=⟨aY,G.dl,G.toks⟩
end
theorem fW {b:List PV}{a:Array Ae}(h:a.size=b.length):a.isEmpty=b.isEmpty:=by
 obtain⟨k⟩:=a;cases k<;>cases b<;>first |rfl |cases h
theorem KW.row {a:List PV}(h:O.lookup x=Ab (.aa (.obj (.ref r))))(k:C.rw r=Ab a):KW C V O (.Name x p) (!a.isEmpty):=λ c=>.mk λ Q E s S=>by
 obtain⟨N,n,o,z,w⟩:=c.Gk.row r a k;refine S.cr (.of λ Q E A=>wpAny_isTrue_value (S.F.name h λ v H=>?_));obtain rfl:v=.ref r:=H.aj;refine wpAny_truthy_list ⟨_,(S.G.ao.keep o (by simp) (by simp)),rfl,_,rfl⟩ (DB (ER.mpr z) (by decide+kernel)) (A _ _ _ (.refl _) (congrArg (!·) (fW w)))
noncomputable abbrev aO (rw:Ai->Option (List PV)):GE:=⟨λ _=>Ah,λ _=>Ah,rw⟩
noncomputable abbrev WO:GE:=aO λ _=>Ah
theorem WN {m:Str->Option Ae}(w:W.h0.Ns a m)(k:BA W W.h0 h)(z:∀b∈Y,W.h0.get? b=Ah):(FT h Y).Ns a m:=by
 obtain⟨o,A,C,E,r⟩:=Dl k w;obtain⟨H,_,_,s,_⟩:=w;refine⟨o,A,C,?_,r⟩;rw[DG λ q=>by rw[z _ q] at s;cases s];exact E
theorem EY.bc (G:EY W C k mg mb)(s:BA W W.h0 h)(A:∀b∈Y,W.h0.get? b=Ah){rw:Ai->Option (List PV)}(N:∀r z,rw r=Ab z->r∉Y/\∃w n,h.get? r=Ab (I0 w n)/\w.size<=BX/\w.size=z.length):EY (W.bc h Y) (aO rw) k mg mb where
 g:=WN G.g s A
 b:=WN G.b s A
 blt:=G.blt
 l9:=G.l9
 l8:=by
  obtain⟨o,E⟩:=G.l8;obtain⟨O,H⟩:=BJ s ⟨o,E⟩;refine⟨O,?_⟩;rw[DG λ q=>by rw[A _ q] at E;cases E];exact H
 aa:=λ x d q=>nomatch q
 fn:=λ x g q=>nomatch q
 row:=λ r z q=>by obtain⟨Q,w,n,V,Z⟩:=N r z q;exact⟨w,n,(DG Q).trans V,Z⟩
theorem uR {rs:List Ai}(Gk:EY W C k mg mb)(U:CX k A)(B:XB W V z N)(S:XS W V z N Z X s O){c:Ai->List PV}(hr:∀r∈rs,r∉X/\∃H n,s.heap.get? r=Ab (I0 H n)/\H.size<=BX/\H.size=(c r).length)
 {e:Pos} (hx:O.lookup x=Ab (.aa (.list (rs.map λ r=>.obj (.ref r))))) (u:A3 V x=Ag) (v:Eg V d=Ag) (I:Dk [.Name x g] (.ListComp (.Name y i) [⟨.Name y j,.Name x p,[.Name y t],0⟩] d f) e.line z=pure Ag)
 (hy:A3 d y=Ag) (J:(Bp d O).lookup y=Ah) (L:rs.length<=BX) {Q:FB->Aq->Prop}
 (hQ:Ky W V z N Z X s (.next (Bs O x (.aa (.list ((rs.filter λ r=>!(c r).isEmpty).map λ r=>.obj (.ref r)))))) Q):
 Av W.M A (exec (.Assign [.Name x g] (.ListComp (.Name y i) [⟨.Name y j,.Name x p,[.Name y t],0⟩] d f) e) z) Q E s:=by
 have Y:∀b∈X,W.h0.get? b=Ah:=λ b N=>(S.F.alive b N).1;have G:=S.gd B
 let rw:=λ r=>if r∈rs then Ab (c r) else Ah
 have Gr:=Gk.bc G.ao Y (rw:=rw) λ r xs q=>by
  obtain⟨hq,rfl⟩:=Le (q);exact hr r hq
 have T:ED (aO rw) V O (.ListComp (.Name y i) [⟨.Name y j,.Name x p,[.Name y t],0⟩] d f) (.list ((rs.filter λ r=>!(c r).isEmpty).map λ r=>.obj (.ref r))):=
  .T (g:=λ r=>.obj (.ref r)) _ _ (.list (.aa hx) rfl) v (by show((Bp d O).lookup y).isNone&&Ag=Ag;rw[J];rfl) (λ r M=>⟨(y,.aa (.obj (.ref r)))::Bp d O,if_pos hy,.bq (.row AC (if_pos M)),λ _=>.aa AC⟩) L
 obtain⟨a0,h1,h2,_,h⟩:=T;refine Ac (AZ (Ac (EG I (KB (P3 (Ac ?_))))));rw[h2];exact Ac (DH (h ⟨W.bc s.heap X,A,z,Z,X,_,mg,mb,Gr,U⟩ s (S.F.bc λ a ha=>.inl ha) G.bc _ (λ _ o=>Q .next o) E λ D a1 h' tk m _ hV R l J r=>Tt (t:=.Name x g) B S U.handled (if_pos u) hQ hV (BA.cs G.ao Y R) l J (Rp.cs r)) (λ _ _ h=>Ar (Ar h)) λ _ _ x=>x)
--w
theorem Yg (h:O.lookup x=Ab (.aa d)):Rt C V O x=Ab d:=congrArg (Option.elim · _ Rf) h
theorem PG (h:O.lookup x=Ab (.cg v d)):Rt C V O x=Ab d:=congrArg (Option.elim · _ Rf) h
theorem HB (h:A3 V x=Ag):GB V (.Name x q) d O=Ab (Bs O x (.aa d)):=by
 show(if A3 V x=Ag then Ab (Bs O x (.aa d)) else Ah)=_;rw[if_pos h]
theorem uE:ET (.list (y::a)) (.int 0)=Ab y:=by
 have h:Gw 0 (a.length+1)=Ab 0:=by
  unfold seqIndex?;simp
 show(if QV 0=Ag then(Gw 0 (a.length+1)).bind _ else Ah)=_;rw[h];rfl
variable {g:Array CB}{l:List Env} in
inductive CR (W:BV)(h:AS)(r:Ai)(c:List Str):Prop
 |mk (vs0:Array Ae) (n0:Nat) (g:h.get? r=Ab (I0 vs0 n0)) (z:vs0.size<=BX) (l:RpL W [] h vs0.toList (c.map .str))
section
noncomputable def oR (o:BV)(A:Bf)(h:Env)(C X:List Ai)(w:AS)(E:A5)(H N:List Ai)(O:AS)(k:A5):Prop:=∀x z,k.lookup x=Ab z->∃s,E.lookup x=Ab s/\∀v,Ft A h w x v->BU o C X w v s->BU o H N O v z
theorem FI.re (F:FI W V z Z X h O)(q:∀a∈AV z,a∈g)(t:∀a∈g,a∈j)(u:∀a∈j,W.h0.get? a=Ah/\∃o,H.get? a=Ab o)(hk:∀a∈AV z,H.get? a=h.get? a)
 (C:oR W V z Z X h O g j H b) (B:∀x y d e,b.lookup x=Ab (.own d)->b.lookup y=Ab (.own e)->x=y):FI W V z g j H b:=
 {F with
  bb:=q
  zx:=t
  alive:=u
  ci:=B
  ns:=by
   obtain⟨m,Q,E⟩:=F.ns;refine⟨m,?_,λ x k l w=>?_⟩
   ·obtain⟨o,D,G,N,r⟩:=Q;exact⟨o,D,G,(hk _ Ad).trans N,r⟩
   ·obtain⟨s,A,f⟩:=C x k w;obtain⟨v,e,r⟩:=E x s l A;exact⟨v,e,f v (.inl ⟨l,m,Q,e⟩) r⟩
  cell:=λ x n=>by
   obtain⟨c,I,e,i,E⟩:=F.cell x n;refine⟨c,I,e,?_,λ k w=>?_⟩
   ·obtain⟨o,N,J⟩:=i;exact⟨o,(hk _ (Di e)).trans N,J⟩
   ·obtain⟨s,A,f⟩:=C x k w;obtain⟨v,p,r⟩:=E s A;exact⟨v,p,f v (.inr ⟨n,c,e,p▸i⟩) r⟩
  dt:=λ x k w=>by obtain⟨s,A,_⟩:=C x k w;exact F.dt x s A}
theorem oR.nil:oR W V z Z X h O a b H []:=λ y k e=>by contradiction
theorem oR.cons (k:O.lookup x=Ab sl)(f:∀v,Ft V z h x v->BU W Z X h v sl->BU W c d H v b)(r:oR W V z Z X h O c d H a):oR W V z Z X h O c d H ((x,b)::a):=λ y o e=>by
 by_cases q:y=x
 ·subst q;rw[AC] at e;injection e with e;exact⟨sl,k,e▸f⟩
 ·rw[AI q] at e;exact r y o e
theorem oR.same (k:O.lookup x=Ab b)(r:oR W V z Z X h O Z X h a):oR W V z Z X h O Z X h ((x,b)::a):=.cons k (λ _ _ r=>r) r
theorem XS.fj (S:XS W V z N Z (a::Z) s O)(l:O.lookup x=Ab (.own d)):Ft V z s.heap x (.ref a)/\BY W (a::Z) s.heap a d:=by
 obtain⟨C,h,A,rfl,o,k,w⟩:=S.F.at l;obtain rfl:A=a:=(Al.mp o).resolve_right k;exact⟨h,w⟩
theorem Nn (x:Str){l:A5}(h:l.all (λ p=>!pF p.2||p.1==x)=Ag):∀y z d e,l.lookup y=Ab (.own d)->l.lookup z=Ab (.own e)->y=z:=by
 have k:∀y d,l.lookup y=Ab (.own d)->y=x:=λ y d e=>BO (AQ.mp h _ (mem_of_lookup e));exact λ y z d e a b=>(k y d a).trans (k z e b).symm
theorem o4 (r:Rp W X h v (.str d)):Rp c Y H v (.str d):=by obtain⟨t,rfl,a,b⟩:=r.aj;exact .str _ _ a b
theorem RpL.j8 (r:RpL W X h e b):(∀v d,d∈b->Rp W X h v d->Rp c Y H v d)->RpL c Y H e b:=r.bt (P:=λ e b=>(∀v d,d∈b->Rp W X h v d->Rp c Y H v d)->RpL c Y H e b) (λ _=>.nil) λ v _ d _ a _ i f=>.cons (f v d Ad a) (i λ v d q=>f v d (Af _ q))
theorem K4 {c:List Str}(r:RpL W X h e (c.map .str)):RpL b Y H e (c.map .str):=r.j8 λ v d q a=>by
 obtain⟨s,_,rfl⟩:=AF.mp q;exact o4 a
theorem CR.ex {c:List Str}(x:CR W h r c):∃k n,h.get? r=Ab (I0 k n)/\k.size<=BX/\k.toList.length=(c.map PV.str).length:=by
 obtain⟨k,n,e,z,l⟩:=x;exact⟨k,n,e,z,l.length⟩
theorem CR.keep (x:CR W h r c)(k:∀o,h.get? r=Ab o->EJ o->H.get? r=Ab o):CR W H r c:=
 by obtain⟨s,n,e,z,l⟩:=x;exact⟨s,n,k _ e (.inl rfl),z,K4 l⟩
theorem CR.bg (x:CR W h r c)(k:BA W h H):CR W H r c:=x.keep λ o e d=>D3 k e d
theorem CR.own (x:CR W h r c):BY W X h r (.list (c.map .str)):=by obtain⟨k,n,e,z,l⟩:=x;exact⟨k,n,e,z,K4 l⟩
theorem CR.rp (x:CR W h r c)(k:r∉X):Rp W X h (.ref r) (.list (c.map .str)):=by obtain⟨o,n,e,z,l⟩:=x;exact .list e k z (K4 l)
theorem CR.of (x:BY W X h r (.list (c.map .str))):CR W h r c:=by obtain⟨k,n,e,z,l⟩:=x;exact⟨k,n,e,z,K4 l⟩
theorem CR.some (x:CR W h r c):∃o,h.get? r=Ab o/\EJ o/\o.cls=.type "list":=by obtain⟨k,n,e,z,l⟩:=x;exact⟨_,e,.inl rfl,rfl⟩
noncomputable def IS (x:Str)(l:List Str):List Str:=if l.head? =Ab x then l.tail else l
theorem PA:∀(l:List Ai),RpL W X h (l.map BI) (l.map λ r=>PV.obj (.ref r)):=by
 intro l;induction l with
 |nil=>
  exact .nil
 |cons r l k=>
  exact .cons (.obj _) (k)
theorem VZ {P:Ai->Prop}(F:FI W V z Z X h O)(A:DW z h)(w:∀b o,h.get? b=Ab o->¬P b->H.get? b=Ab o)(hP:∀a∈AV z,¬P a):∀a∈AV z,H.get? a=h.get? a:=λ a k=>by
 obtain⟨_,o,s⟩:=F.alive a (F.zx _ (F.bb a k));simp only[s,w a o s (hP a k)]
theorem gC (Gk:EY W C k mg mb)(hA:CX k A)(B:XB W V z N)(S:XS W V z N Z X s O)(h1:O.lookup ("seq":Str)=Ab (.own (.list ((y::ys).map .str))))(h2:O.lookup ("candidate":Str)=Ab (.aa (.str x)))
 (hv:Ft V z s.heap "seq" (.ref r)) (hX:r∈X) (hZ:r∉Z) {j:FB->Aq->Prop}
 (hQ:∀h' tk,XS W V z N Z X {s with heap:=h',toks:=tk} (Bs O "seq" (.own (.list ((IS x (y::ys)).map .str))))->CR W h' r (IS x (y::ys))->(∀b o,b≠r->s.heap.get? b=Ab o->o.cls≠.type "frame"->o.cls≠.none->h'.get? b=Ab o)->s.toks<=tk->j .next {s with heap:=h',toks:=tk}):
 Av W.M A (exec (.If (.Compare (.Subscript (.Name "seq" p) (.Constant (.int 0) i u) g) [.Eq] [.Name "candidate" D] G) [.Delete [.Subscript (.Name "seq" I) (.Constant (.int 0) J m) c] d] [] f) z) j E s:=by
 refine KR ((.au (.sub (.own h1) .int (λ _ _=>rfl) uE) (.aa h2) rfl rfl:KW C V O (.Compare (.Subscript (.Name "seq" p) (.Constant (.int 0) i u) g) [.Eq] [.Name "candidate" D] G) (decide (y=x))).at Gk hA S.F (S.gd B) _ _ λ b' a2 a5 M R a8=>?_);subst a8;have h:=S.ae M R;have L:=hv.ae M;have w:BY W X a2 r (.list ((y::ys).map .str)):=by
  obtain⟨v,a9,r'⟩:=h.F.at h1;obtain⟨a,rfl,_,_,o⟩:=r';have:=a9.eh L;cases this;exact o
 by_cases q:y=x
 ·subst q;rw[if_pos (by simp)];have T:IS y (y::ys)=ys:=by unfold IS;simp
  rw[T] at hQ;refine Ax (wpAny_Delete (wpAny_deleteEach_cons ?_));refine wpAny_delete_Subscript (FI.bv h.F h1 L ?_);refine(Dc.int).at Gk hA h.F (h.gd B) _ _ λ iv a3 H Q a4 ri=>?_;obtain⟨t,rfl⟩:=ri.aj
  ·obtain⟨vs,n,e,b0,l⟩:=w.ae Q;have hz:vs.toList.length=ys.length+1:=by have:=l.length;simpa using this
   have b1:vs.size=ys.length+1:=by simpa using hz
   refine delItem_at (s:={s with heap:=a3,toks:=H}) (k:=0) e (by decide+kernel) (by rw[b1];unfold seqIndex?;simp) (λ U hs ho=>?_) (Aa b0 FR);have a6:CR W U r ys:=by
    refine⟨_,n+1,ho,?_,?_⟩
    ·show(vs.toList.eraseIdx 0).toArray.size<=BX;have:(vs.toList.eraseIdx 0).length<=vs.toList.length:=List.length_eraseIdx_le _ _;have b3:vs.toList.length=vs.size:=by rfl
     simp;exact Nat.le.step b0
    ·skip
     cases Y:vs.toList with
     |nil=>(first |exact Dn Y hz |obtain rfl:=A4 Y hz |cases Eq.trans (Eq.symm Y) hz |(rw[Y] at hz;contradiction))
     |cons a b=>
      rw[Y] at l;exact K4 l.gy.2
   have a7:XS W V z N Z X {s with heap:=U,toks:=H} (Bs O "seq" (.own (.list (ys.map .str)))):=by
    refine XS.cu (s:={s with heap:=a3,toks:=H}) (h.ae Q a4) h1 (L.ae Q) hs hX hZ (Jp (w.ae Q)) a6.own (An _)
   refine wpAny_deleteEach_nil (BL (hQ U H a7 a6 (λ b o b2 ho a0 a1=>?_) (Aa R a4)));exact(hs.2 b b2).trans (Q.keep (M.keep ho a0 a1) a0 a1)
 ·rw[if_neg (by simpa using q)];have T:IS x (y::ys)=y::ys:=by unfold IS;simp[q]
  rw[T] at hQ;refine BL (hQ a2 a5 ?_ (CR.of w) (λ b o _ ho a0 a1=>M.keep ho a0 a1) R);refine h.aw λ b0 sl hz=>?_;rw[B9] at hz;split at hz
  ·rename_i q';rw[q',h1];exact hz
  ·exact hz
end
section
noncomputable def cS (a h:Ai)(x:Str)(k:A5):A5:=("result",.av (.ref a))::("sequences",.av (.ref h))::("candidate",.aa (.str x))::k
noncomputable def u7 (k:List Str)(h:List PV):A5:=[("result",.own (.list (k.map .str))),("sequences",.aa (.list h))]
noncomputable def Ht (l:List Ai):List PV:=l.map λ r=>PV.obj (.ref r)
noncomputable def S8 (c:Ai->List Str)(x:Str)(done:List Ai)(r:Ai):List Str:=if r∈done then IS x (c r) else c r
variable {S i n tk:Nat}{l:List Env}{st:Bq} in
inductive E? (W:BV)(sc:Bf)(ah:Env)(hb:AS)(Z X:List Ai)(ρ:A5)(St Inv:Nat->AS->Prop)(m:Nat)(s:Aq):Nat->Aq->Prop
 |mk {n:Nat} {H:AS} {tk i:Nat} (hi:i<=m) (hn:n=m-i) (st:St i H) (S:XS W sc ah hb Z X {s with heap:=H,toks:=tk} ρ) (iv:Inv i H) (l:s.toks<=tk):E? W sc ah hb Z X ρ St Inv m s n {s with heap:=H,toks:=tk}
theorem gD {a:Ai}{k1:Nat}{g:List Ai}{T U Y q4 q6 q7 q8:Pos}(Gk:EY W C k mg mb)(hA:CX k A)(B:XB W V z N){f:List Ai}{c:Ai->List Str}{x:Str}{out:List Str}{m:Ai}{G:Nat}{d:PV}(S:XS W V z N Z (a::Z) s O)(e3:a∉Z)
 (l1:O.lookup ("result":Str)=Ab (.own (.list (out.map .str)))) (l2:O.lookup ("candidate":Str)=Ab (.aa (.str x))) (l3:O.lookup ("sequences":Str)=Ab (.cg (.ref m) d))
 (hL:s.heap.get? m=Ab (I0 (f.map BI).toArray G)) (e5:f.length<=BX) (a8:∀r∈g,W.h0.get? r=Ah/\N.get? r=Ah/\r∉a::Z/\CR W s.heap r (c r)) (e6:∀r∈f,r∈g) (h3:f.Nodup) (e7:m∉g) (c5:m∉a::Z) (h4:∀r∈f,c r≠[])
 (h5:V.names.lookup ("seq":Str)=Ab .local) {L M p t u D:Pos} {R:Nat} {J:FB->Aq->Prop}
 (hQ:∀h' tk,XS W V z N Z (a::Z) {s with heap:=h',toks:=tk} (u7 out (Ht f))->(∀r∈g,CR W h' r (S8 c x f r))->s.toks<=tk->J .next {s with heap:=h',toks:=tk}):
 Av W.M A (exec (.For (.Name "seq" T) (.Name "sequences" U) [.If (.Compare (.Subscript (.Name "seq" Y) (.Constant (.int 0) R q4) L) [.Eq] [.Name "candidate" q6] q7) [.Delete [.Subscript (.Name "seq" q8) (.Constant (.int 0) k1 M) p] t] [] u] [] D) z) J E s:=by
 have e8:∀b∈Z,b∈a::Z:=λ b N=>Af _ N;obtain⟨e9,f0⟩:=S.fj l1;have i9:∀b∈AV z,b∉g:=λ b N hr=>(a8 b hr).2.2.1 (S.F.zx _ (S.F.bb b N));have h6:=IQ h5 (by decide+kernel);have f1:a∉g:=λ q=>(a8 a q).2.2.1 Ad
 let b0:A5:=cS a m x []
 have F0:FI W V z Z (g++a::Z) s.heap b0:=by
  refine S.F.re S.F.bb (λ b N=>AU _ (e8 b N)) (λ b N=>?_) (λ _ _=>rfl)
   (.cons l1 (λ v hv _=>hv.eh e9) (.cons l3 (λ v _ r=>r.1) (.cons l2 (λ v _ r=>o4 r) .nil))) (Nn "" rfl)
  rcases AK.mp N with q |q
  ·obtain⟨o,ho,_⟩:=(a8 b q).2.2.2.some;exact⟨(a8 b q).1,o,ho⟩
  ·exact S.F.alive b q
 have S0:XS W V z N Z (g++a::Z) s b0:=⟨F0,S.le,S.tk,λ b N hz=>by
  rcases AK.mp N with q |q
  ·exact(a8 b q).2.1
  ·exact S.fr b q hz,S.fc⟩
 refine Ac (AZ (Ac (FI.av F0 (v:=.ref m) (by kernel_rfl) (Ac (EG (LK rfl z _) (Ac (AZ (Ac (Br ?_)))))))));have h7:Rp W (g++a::Z) s.heap (.ref m) (.list (Ht f)):=.list hL (λ q=>(AK.mp q).elim e7 c5) (by simpa using e5) (by
  exact PA f)
 refine Ha (.list h7) λ I b7 hI h8 c6 h9=>?_;have b5:I∉g++a::Z:=λ q=>by obtain⟨o,ho⟩:=S0.F.an I q;exact Dn hI ho
 have f2:N.get? I=Ah:=BA.bh S.le hI;have b3:BA W s.heap b7:=.af c6;obtain⟨St,i0,a9⟩:=MX.of (h9 b5) Ad hA.handled;refine NQ ?_;rw[Oc];have c7:I∉AV z:=λ q=>b5 (AU _ (S.F.zx _ (S.F.bb _ q)));have f3:XS W V z N (I::Z) (I::(g++a::Z)) {s with heap:=b7,toks:=s.toks} b0:=
  ⟨S0.F.fresh (B.ao.trans S.le) b3 hI h8,S.le.trans b3,S.tk,λ b N hz=>S0.fr b ((Al.mp N).resolve_left λ q=>hz (q▸Ad)) λ q=>hz (Af _ q),S.fc.bg b3⟩
 have i1:m≠I:=λ q=>by simp only[q,hI] at hL;contradiction
 refine Jr λ gg kk=>?_;obtain⟨oa,f4,f5,j0⟩:=(CR.of f0).some;refine kk ?_
 let Inv (i:Nat) (h:AS):Prop:=h.get? a=Ab oa/\h.get? m=Ab (I0 (f.map BI).toArray G)/\∀r∈g,CR W h r (S8 c x (f.take i) r)
 have f6:Inv 0 b7:=⟨c6 _ _ f4,c6 _ _ hL,λ r hr=>by
  have:S8 c x (f.take 0) r=c r:=by unfold S8;rw[List.take_zero,if_neg (by exact BG)]
  exact(a8 r hr).2.2.2.bg b3⟩
 have b8:∀{i:Nat}{h h':AS},Inv i h->(∀b o,b=a\/b=m\/b∈g->h.get? b=Ab o->EJ o->h'.get? b=Ab o)->Inv i h':=λ{i h h'} v kk=>
  ⟨kk _ _ (.inl rfl) v.1 f5,kk _ _ (.inr (.inl rfl)) v.2.1 (.inl rfl),λ r hr=>(v.2.2 r hr).keep λ o e d=>kk _ _ (.inr (.inr hr)) e d⟩
 refine Kk (E? W V z N (I::Z) (I::(g++a::Z)) b0 St Inv (Ht f).length s) (λ n s' i2=>ML λ Q' E' gQ gE=>?_) (Ht f).length (.mk (AY _) rfl i0 f3 f6 (An _));induction i2 with |@mk h' tk i hi hn st S' iv l=>
 obtain⟨oI,f7,f8,f9,j1,j2⟩:=a9.cj _ _ st;have c8:∀{b},Ea V z b->b∈Z:=λ{b} q=>S0.F.wr q;have c9:∀{b},b=a\/b=m\/b∈g->b≠I:=λ{b} q q'=>by
  rcases q with q |q |q
  ·exact(λ q=>b5 (q▸AU _ Ad):a≠I) (q▸q')
  ·exact i1 (q▸q')
  ·exact b5 (A8 _ (q'▸q))
 have i3:∀{b},b=a\/b=m\/b∈g->¬Ea V z b:=λ{b} q w=>by
  have:=c8 w;rcases q with q |q |q
  ·exact e3 (q▸this)
  ·exact c5 (Af _ (q▸this))
  ·exact(a8 b q).2.2.1 (Af _ this)
 by_cases c0:i<(Ht f).length
 ·have a3:i<f.length:=by simpa[Ht] using c0
  have hx:(Ht f)[i]? =Ab (.obj (.ref f[i])):=by rw[Bk,AA a3];rfl
  refine Cy (n:=tk) (An _) (a9.item i {s with heap:=h',toks:=tk} _ _ _ st hx λ v a4 a0 rv a5 Q b9=>gQ _ _ ?_);refine ML λ Q' E' gQ gE=>?_;have a1:tk<=a0:=b9;generalize hr:f[i]=r at rv;have g0:=hr▸Dg a3;have b6:=e6 r g0;have ev:=rv.aj;subst ev;have c1:∃o,a4.get? I=Ab o:=by obtain⟨o,ho,_⟩:=a9.cj _ _ a5;exact⟨o,ho⟩
  have g3:XS W V z N (I::Z) (I::(g++a::Z)) {s with heap:=a4,toks:=a0} b0:=XS.fe (s:={s with heap:=h',toks:=tk}) S' Ad c7 f2 ⟨oI,f7,f8,f9⟩ Q c1 a1;have a2:=b8 iv λ b o q e _=>Q b o (c9 q) e;refine a9.dn (i+1) {s with heap:=a4,toks:=a0} _ _ _ _ a5 (gQ _ _ ?_);clear gQ gE Q' E';refine ML λ Q' E' gQ gE=>?_;refine XS.fg B g3 (sl:=.av (.ref r)) h6 rfl (λ d q=>(by contradiction)) λ b4 d0 H b1 g4=>gQ _ _ ?_;refine ML λ Q' E' gQ gE=>?_;have a6:=b8 a2 λ b o q e _=>b1.keep b o (i3 q) e;have g5:CR W b4 r (c r):=by
   have:=a6.2.2 r b6;have e:S8 c x (f.take i) r=c r:=by
    unfold S8;rw[if_neg];intro hm;obtain⟨j,hj,ej⟩:=Cq.mp hm;rw[HY] at ej;have g6:=Ao (Dd▸hj) (EH ..);exact GY.mp h3 j i (Cu g6 a3) a3 g6 (ej.trans hr.symm)
   rwa[e] at this
  obtain⟨y,ys,g7⟩:∃y ys,c r=y::ys:=by
   cases q:c r with
   |nil=>exact absurd q (h4 r g0)
   |cons y ys=>exact⟨y,ys,rfl⟩
  let g8:A5:=cS a m x [("seq",.own (.list ((y::ys).map .str)))]
  have e4:Bs b0 "seq" (.av (.ref r))=cS a m x [("seq",.av (.ref r))]:=by kernel_rfl
  have i4:Ft V z b4 "seq" (.ref r):=by
   obtain⟨v,hv,rr⟩:=H.F.at (x:="seq") (sl:=.av (.ref r)) (by kernel_rfl);have:=rr;exact(this)▸hv
  have d5:r∉I::Z:=λ q=>by
   rcases Al.mp q with q |q
   ·exact c9 (.inr (.inr b6)) q
   ·exact(a8 r b6).2.2.1 (Af _ q)
  have d6:r∈I::(g++a::Z):=Af _ (A8 _ b6);have g9:XS W V z N (I::Z) (I::(g++a::Z)) {s with heap:=b4,toks:=d0} g8:=⟨H.F.re H.F.bb H.F.zx H.F.alive (λ _ _=>rfl) (.same (by kernel_rfl) (.same (by kernel_rfl) (.same (by kernel_rfl) (.cons (sl:=.av (.ref r)) (by kernel_rfl) (λ v _ rr=>⟨r,rr,d6,d5,g7▸g5.own⟩) .nil)))) (Nn "seq" rfl),H.le,H.tk,H.fr,H.fc⟩;refine MN λ K1 n1 o1=>(gC (y:=y) (ys:=ys) (x:=x) Gk hA B g9 (by kernel_rfl) (by kernel_rfl) i4 d6 d5 λ c3 i5 c4 c2 b2 h0=>n1 _ (BL (gQ _ _ ?_)));rw[(by kernel_rfl:Bs g8 "seq" (.own (.list ((IS x (y::ys)).map .str)))=cS a m x [("seq",.own (.list ((IS x (y::ys)).map .str)))])] at c4;have h1:=(show b0=Ei ["result","sequences","candidate"] (cS a m x [("seq",.own (.list ((IS x (y::ys)).map .str)))]) by kernel_rfl)▸c4.aw EL;obtain⟨oJ,h2,d1,d2,d3,d4⟩:=a9.cj _ _ a5;have a7:=b1.keep I oJ (λ q=>by
   have:=c8 q;exact b5 (AU _ (Af _ this))) h2
  have d7:=a9.frame _ _ _ a5 (λ o ho=>by obtain rfl:=A4 h2 ho;exact a7) λ b o d8 ho hd=>b1.keep b o (λ q=>d8 (Af _ (AU _ (Af _ (c8 q))))) ho;have d9:=a9.frame _ _ _ d7 (λ o ho=>by obtain rfl:=A4 a7 ho;exact b2 I _ (λ q=>d5 (q▸Ad)) a7 d3 d1) λ b o d8 ho hd=>b2 b o (λ q=>d8 (q▸d6)) ho (by rcases hd with hd |hd |hd<;>rw[hd]<;>simp) (by rcases hd with hd |hd |hd<;>rw[hd]<;>simp);have e0:Inv (i+1) c3:=by
   have kd:∀b o,b≠r->b4.get? b=Ab o->EJ o->c3.get? b=Ab o:=λ b o i6 e hd=>b2 b o i6 e (by rcases hd with hd |hd |hd<;>rw[hd]<;>simp) (by rcases hd with hd |hd |hd<;>rw[hd]<;>simp);refine⟨kd _ _ (λ q=>f1 (q▸b6)) a6.1 f5,kd _ _ (λ q=>e7 (q▸b6)) a6.2.1 (.inl rfl),λ r' i7=>?_⟩;by_cases q:r'=r
   ·subst q;have:S8 c x (f.take (i+1)) r'=IS x (y::ys):=by
     unfold S8;rw[if_pos,g7];rw[List.take_succ_eq_append_getElem a3];exact AU _ (by rw[hr];exact Ce.mpr rfl)
    rw[this];exact c2
   ·have:S8 c x (f.take (i+1)) r'=S8 c x (f.take i) r':=by
     unfold S8;rw[List.take_succ_eq_append_getElem a3,hr];by_cases e2:r'∈f.take i
     ·rw[if_pos e2,if_pos (A8 _ e2)]
     ·rw[if_neg e2,if_neg (λ z'=>(AK.mp z').elim e2 λ z'=>q (Ce.mp z'))]
    rw[this];exact(a6.2.2 r' i7).keep λ o e d=>kd _ _ q e d
  exact⟨n-1,xX hn c0,.mk c0 (qS hn) d9 h1 e0 (Aa l (Aa a1 (Aa g4 h0)))⟩
 ·have i8:=qX hi c0;subst i8;refine Cy (An _) (a9.done {s with heap:=h',toks:=tk} _ _ st λ a4 a0 Q b9=>gQ _ _ (BL ?_));have a1:=b9;have a2:=b8 iv λ b o q e _=>Q b o (c9 q) e;have e1:∀r∈g,CR W a4 r (S8 c x f r):=λ r hr=>by
   have:=a2.2.2 r hr;rwa[show f.take (Ht f).length=f by rw[Aj,List.take_length]] at this
  refine hQ a4 a0 ?_ e1 (Aa l a1);obtain⟨vs,n,e,e2,l⟩:=CR.of f0;have:oa=I0 vs n:=by rw[f4] at e;injection e
  refine⟨S'.F.re S.F.bb e8 (λ b N=>⟨(S.F.alive b N).1,?_⟩) (VZ S'.F S'.fc (λ b o e q=>Q b o q e) λ b N q=>c7 (q▸N)) (.cons (sl:=.av (.ref a)) (by kernel_rfl) (λ v _ rr=>⟨a,rr,Ad,e3,vs,n,by rw[a2.1,this],e2,K4 l⟩) (.cons (sl:=.av (.ref m)) (by kernel_rfl) (λ v _ rr=>rr▸.list a2.2.1 c5 (by simpa using e5) (PA f)) .nil)) (Nn "result" rfl),S'.le.ext f2 (λ o vs ho hd=>?_) Q,Aa S'.tk a1,S.fr,S'.fc.at λ o ho=>Q _ o (λ q=>c7 (q▸Ad)) ho⟩
  ·obtain⟨o,ho⟩:=(S'.F.alive b (Af _ (AU _ N))).2;exact⟨o,Q b o (λ q=>b5 (q▸AU _ N)) ho⟩
  ·obtain rfl:=A4 f7 ho;exact⟨f8,f9⟩
end
theorem TN (h:List PV)(lo k st:Option Int)(o:KU (Cc lo k st h.length).1 (Cc lo k st h.length).2.1 (Cc lo k st h.length).2.2=js):Jd h lo k st=js.filterMap (h[·]?):=by
 unfold Jd;rw[o]
theorem Ro {b:Type}(h:List b)(a k:Nat):((Ap k).map (a+·)).filterMap (h[·]?)=(h.drop a).take k:=by
 have:=pick_run h.toArray a k;simpa using this
theorem Vs (h:List PV)(a:Nat):Jd h (Ab (a:Int)) Ah Ah=h.drop a:=by
 have e:Cc (Ab a) Ah Ah h.length=(((min a h.length:Nat):Int),(h.length:Int),1):=by
  simp only[Cc,Option.getD_none];simp only[qY,if_false,show(1:Int)>0 by decide,if_true];congr 1;exact UF ..
 rw[TN h _ _ _ (js:=(Ap (h.length-min a h.length)).map (min a h.length+·)) (by rw[e];exact sliceRange_one _ _),Ro]
 by_cases q:a<=h.length
 ·rw[Dz q,EO (by rw[GT];exact An _)]
 ·have q:=GX q;rw[GV q,CP (An _),CP q,KJ]
theorem Oq (h:List PV)(a:Nat)(k:h.length<=BX):En (.list h) (Ab (a:Int)) Ah Ah=Ab (.list (h.drop a)):=by
 show SR (Ah≠Ab 0/\(Jd h (Ab ↑a) Ah Ah).length<=BX) (PV.list (Jd h (Ab ↑a) Ah Ah))=_;rw[Vs];rw[Pe ⟨by simp,GT▸Aa (JY ..) k⟩]
theorem Yo:∀(l:List Str)(n:Nat),lvlL n (l.map .str)=Ag:=by
 intro l;induction l with
 |nil=>
  intro n;cases n<;>rfl
 |cons x l h=>
  intro n;have:=h n;cases n<;>(exact this)
theorem nF (a b:Str):C7 (.str a) (.str b)=decide (a=b):=rfl
theorem U8:∀l:List Str,toPyL (l.map .str)=l.map PyData.str:=by
 intro l;induction l with
 |nil=>
  exact rfl
 |cons x l h=>
  exact congrArg (_::·) h
theorem hU (x:Str):∀l:List Str,((l.map PyData.str).any λ y=>C7 y (.str x))=l.contains x:=by
 intro l;induction l with
 |nil=>
  exact rfl
 |cons y l h=>
  rw[Bu,List.any_cons,h,nF,Hm];congr 1;by_cases q:y=x
  ·subst q;simp
  ·rw[decide_eq_false q]
   symm;simpa using λ e:x=y=>q e.symm
theorem dX (x:Str)(l:List Str):ZD (.str x) (.list (l.map .str))=Ab (l.contains x):=by
 unfold ZD;have:(SM 6 (.str x)&&lvlL 6 (l.map .str))=Ag:=by rw[Yo];rfl
 simp only[this,if_true,U8];rw[hU]
noncomputable def vZ (P:Nat->Pos)(K:Nat->Nat):Bq:=.If (.Compare (.Name "candidate" (P 9)) [.In] [.Subscript (.Name "s2" (P 10)) (.Slice (Ab (.Constant (.int 1) (K 1) (P 11))) Ah Ah (P 12)) (P 13)] (P 14)) [.Assign [.Name "candidate" (P 15)] (.Constant .none (K 2) (P 16)) (P 17),.Break (P 18)] [] (P 19)
noncomputable def pL (P:Nat->Pos)(K:Nat->Nat):Bq:=.Assign [.Name "candidate" (P 2)] (.Subscript (.Name "s1" (P 3)) (.Constant (.int 0) (K 0) (P 4)) (P 5)) (P 6)
noncomputable def vY (P:Nat->Pos)(K:Nat->Nat):Bq:=.For (.Name "s2" (P 7)) (.Name "sequences" (P 8)) [vZ P K] [.Break (P 20)] (P 21)
noncomputable def sX (P:Nat->Pos)(K:Nat->Nat):Bq:=.For (.Name "s1" (P 0)) (.Name "sequences" (P 1)) [pL P K,vY P K] [] (P 22)
structure tO (sc:Bf):Prop where
 s1:A3 sc "s1"=Ag
 s2:A3 sc "s2"=Ag
 l4:A3 sc "candidate"=Ag
 seq:A3 sc "sequences"=Ag
noncomputable def PT (b:Bool)(R:PV)(q:Ae)(L:PV)(h k:PV):A5:=
 if b then[("result",.own R),("sequences",.cg q L),("s1",.aa k),("candidate",.aa h)] else[("result",.own R),("sequences",.cg q L),("candidate",.aa h),("s1",.aa k)]
noncomputable def Jb (h:List (List Str)):List PV:=h.map λ c=>.list (c.map .str)
noncomputable def IV (h:List (List Str))(x:Str):Bool:=h.all λ t=>!(t.tail.contains x)
section
theorem Va {t:List Str}(h:t.length<=BX):En (.list (t.map .str)) (Ab 1) Ah Ah=Ab (.list (t.tail.map .str)):=by
 rw[Oq _ 1 (by rw[Aj];exact h),<-List.map_drop,List.drop_one]
theorem Us {t:List Str}:IV (t::a) x=(!(t.tail.contains x)&&IV a x):=by unfold IV;rw[Du]
variable {R L:PV}{q:Ae}{P:Nat->Pos}{K:Nat->Nat} in
theorem uI (s:EY W C k mg mb)(w:CX k A)(B:XB W V z N)(T:tO V)(b:Bool){d1:PV}{x:Str}(h:List (List Str))(O:∀t∈h,t.length<=BX):
 H7 W A V z N (.Name "s2" (P 7)) [vZ P K] [.Break (P 20)] (Jb h) (PT b R q L (.str x) d1) (if IV h x then .brk (PT b R q L (.str x) d1) else .next (PT b R q L .none d1)):=by
 induction h with
 |nil=>exact .nil (DY Nb)
 |cons t h E=>
  obtain⟨o,N,Q,Z,a,c⟩:∃o,GB V (.Name "s2" (P 7)) (.list (t.map .str)) (PT b R q L (.str x) d1)=Ab o/\o.lookup ("candidate":Str)=Ab (.aa (.str x))/\o.lookup ("s2":Str)=Ab (.aa (.list (t.map .str)))/\
   Ei ((PT b R q L (.str x) d1).map (·.1)) o=PT b R q L (.str x) d1/\Ei ((PT b R q L (.str x) d1).map (·.1)) (Bs o "candidate" (.aa .none))=PT b R q L .none d1:=
   ⟨_,HB T.s2,by cases b<;>rfl,by cases b<;>rfl,by cases b<;>rfl,by cases b<;>rfl⟩
  have H:KW C V o (.Compare (.Name "candidate" (P 9)) [.In] [.Subscript (.Name "s2" (P 10)) (.Slice (Ab (.Constant (.int 1) (K 1) (P 11))) Ah Ah (P 12)) (P 13)] (P 14)) (t.tail.contains x):=
   .cq (.aa Q) (.bn (.slice (.bn (.aa Z)) (.int .int) .no .no (Va (O t Ad)))) rfl (.inl rfl) (dX x t.tail)
  rw[Us];cases hc:t.tail.contains x with
  |false=>exact .next N ((DY (Gu s w B (hc▸H) FO)).keep a) (E λ t d=>O t (Af _ d))
  |true=>
   rw[hc] at H;exact .brk N ((DY (Gu s w B H (Fg (Bw s w B (.ag rfl) T.l4 (by rfl)) (DY Nb)))).fq c)
variable {r:List Bq} in
noncomputable def Ej (all:List (List Str)):List (List Str)->Option Str
 |[]=>Ah
 |[]::r=>Ej all r
 |(x::_)::r=>if IV all x then Ab x else Ej all r
noncomputable def Xs:Option Str->PV
 |some x=>.str x
 |none=>.none
noncomputable def VK (R:PV)(q:Ae)(L:PV):Option PV->A5
 |none=>[("result",.own R),("sequences",.cg q L)]
 |some h=>[("result",.own R),("sequences",.cg q L),("candidate",.aa h)]
noncomputable def pC:List Str:=["result","sequences","candidate"]
theorem uJ {R:PV}{q:Ae}{P:Nat->Pos}{K:Nat->Nat}(H:EY W C k mg mb)(O:CX k A)(B:XB W V z N)(T:tO V){all:List (List Str)}(a:∀t∈all,t.length<=BX)(o:Option PV)(h:List (List Str))(s:∀t∈h,t≠[])(Z:h=[]->o=Ab .none):
 H7 W A V z N (.Name "s1" (P 0)) [pL P K,vY P K] [] (Jb h) (VK R q (.list (Jb all)) o) (.next (VK R q (.list (Jb all)) (Ab (Xs (Ej all h))))):=by
 induction h generalizing o with
 |nil=>rw[Z rfl];exact .nil FO
 |cons r h c=>
  obtain⟨x,t,rfl⟩:=List.exists_cons_of_ne_nil (s r Ad);clear Z;obtain⟨b,w,N,d,f⟩:∃b w,GB V (.Name "s1" (P 0)) (.list ((x::t).map .str)) (VK R q (.list (Jb all)) o)=Ab w/\Bs w "candidate" (.aa (.str x))=PT b R q (.list (Jb all)) (.str x) (.list ((x::t).map .str))/\w.lookup ("s1":Str)=Ab (.aa (.list ((x::t).map .str))):=by
   cases o with
   |none=>exact⟨Ag,_,HB T.s1,rfl,rfl⟩
   |some i=>exact⟨Au,_,HB T.s1,rfl,rfl⟩
  have Q:=Bw (q:=P 2) (pos:=P 6) H O B (.sub (p:=P 5) (.bn (.aa (p:=P 3) f)) (.int (kk:=K 0) (p:=P 4)) (λ _ _=>rfl) uE) T.l4 (by rfl);rw[d] at Q;have E:=J4 (pos:=P 21) H O B (.list (.name (p:=P 8) (x:="sequences") (PG (v:=q) (by cases b<;>rfl))) rfl) (uI (P:=P) (K:=K) (R:=R) (d1:=.list ((x::t).map .str)) H O B T b (x:=x) all a);cases e:IV all x with
  |true=>
   rw[e] at E;rw[show Ej all ((x::t)::h)=Ab x from if_pos e];exact .brk N ((Fg Q (DY E)).fq (show Ei pC (PT b R q (.list (Jb all)) (.str x) (.list ((x::t).map .str)))=_ by cases b<;>rfl))
  |false=>
   rw[e] at E;rw[show Ej all ((x::t)::h)=Ej all h from if_neg (by rw[e];exact CQ)];exact .next N ((Fg Q (DY E)).keep (show Ei pC (PT b R q (.list (Jb all)) .none (.list ((x::t).map .str)))=_ by cases b<;>rfl)) (c (Ab .none) (λ t g=>s t (Af _ g)) λ _=>rfl)
end
theorem Uk (h:∀x,a.names.lookup x≠Ab .free)(k:A5):Bp a k=[]:=by
 unfold Bp;rw[DL];intro q _ e;exact h q.1 (BO e)
noncomputable def HO (h:List (List Str)):List (List Str):=h.filter λ c=>!c.isEmpty
variable {n:Nat}{a:List (List Str)} in
noncomputable def Qs:Nat->List (List Str)->List Str->Option (Option (List Str)×List (List Str))
 |0,_,_=>Ah
 |n+1,a,h=>if(HO a).isEmpty then Ab (Ab h,a) else match Ej (HO a) (HO a) with
  |none=>Ab (Ah,a)
  |some x=>Qs n (a.map (IS x)) (h++[x])
theorem RT (n:Nat)(h:List (List Str))(k:List Str):Qs (n+1) h k=if(HO h).isEmpty then Ab (Ab k,h) else(match Ej (HO h) (HO h) with |none=>Ab (Ah,h) |some x=>Qs n (h.map (IS x)) (k++[x])):=rfl
noncomputable def gS:Str:="Inconsistent hierarchy"
noncomputable def nZ (h:Bf)(P:Nat->Pos):Bq:=.Assign [.Name "sequences" (P 23)] (.ListComp (.Name "s" (P 24)) [⟨.Name "s" (P 25),.Name "sequences" (P 26),[.Name "s" (P 27)],0⟩] h (P 28)) (P 29)
noncomputable def vX (P:Nat->Pos):Bq:=.If (.UnaryOp .Not (.Name "sequences" (P 30)) (P 31)) [.Return (Ab (.Name "result" (P 32))) (P 33)] [] (P 34)
noncomputable def nV (P:Nat->Pos)(K:Nat->Nat):Bq:=.If (.Compare (.Name "candidate" (P 35)) [.Is] [.Constant .none (K 3) (P 36)] (P 37)) [.Raise (Ab (.Call (.Name "RuntimeError" (P 38)) [.Constant (.str "Inconsistent hierarchy") (K 4) (P 39)] [] (P 40))) Ah (P 41)] [] (P 42)
noncomputable def wB (P:Nat->Pos):Bq:=.Expr (.Call (.Attribute (.Name "result" (P 43)) "append" (P 44)) [.Name "candidate" (P 45)] [] (P 46)) (P 47)
noncomputable def wA (P:Nat->Pos)(K:Nat->Nat):Bq:=.For (.Name "seq" (P 48)) (.Name "sequences" (P 49)) [.If (.Compare (.Subscript (.Name "seq" (P 50)) (.Constant (.int 0) (K 5) (P 51)) (P 52)) [.Eq] [.Name "candidate" (P 53)] (P 54)) [.Delete [.Subscript (.Name "seq" (P 55)) (.Constant (.int 0) (K 6) (P 56)) (P 57)] (P 58)] [] (P 59)] [] (P 60)
noncomputable def gT (h:Bf)(P:Nat->Pos)(K:Nat->Nat):Bq:=.While (.Constant (.bool Ag) (K 7) (P 61)) [nZ h P,vX P,sX P K,nV P K,wB P,wA P K] [] (P 62)
noncomputable def Qt (h:Bf)(P:Nat->Pos)(K:Nat->Nat):List Bq:=[.Assign [.Name "result" (P 63)] (.List [] (P 64)) (P 65),gT h P K]
variable {S:Nat} in
structure XI (sc sp:Bf)(P:Nat->Pos):Prop where
 S:tO sc
 seq:sc.names.lookup ("seq":Str)=Ab .local
 nc:A3 sc "result"=Ag
 na:CW sc "RuntimeError"=Ag
 m9:Eg sc sp=Ag
 m7:∀x,sp.names.lookup x≠Ab .free
 m6:A3 sp "s"=Ag
 nk:((P 44).endLine==(P 46).line)=Ag
section
noncomputable def LZ (c:Ai->List Str)(r:Ai):Bool:=!(c r).isEmpty
noncomputable def Tn (o:BV)(s:AS)(k:List Ai)(h:List (List Str)):Prop:=∃c:Ai->List Str,k.map c=h/\∀r∈k,CR o s r (c r)
noncomputable abbrev Yv (h:List Str)(k:List Ai):A5:=u7 h (Ht k)
theorem WI {l:List Ai}(r:RpL W X h b (Ht l)):b=l.map BI:=by
 induction l generalizing b with
 |nil=>exact r.aj
 |cons a l k=>
  obtain⟨v,b,rfl,x,y⟩:=r.aj;exact(congr (congrArg List.cons x.aj) (k y):v::b=.ref a::l.map BI)
theorem bO {l:List Ai}(r:Rp W X h v (.list (Ht l))):∃a n,v=.ref a/\h.get? a=Ab (I0 (l.map BI).toArray n)/\a∉X/\(l.map BI).toArray.size<=BX:=by
 obtain⟨a,k,n,e,o,s,w,z⟩:=r.aj;have q:k=(l.map BI).toArray:=by rw[<-WI z]
 exact⟨a,n,e,q▸o,s,q▸w⟩
theorem jR {l:List Ai}(k:l≠[])(e:h.get? a=Ab (I0 (l.map BI).toArray n))(x:CR W h a c):False:=by
 obtain⟨r,l,rfl⟩:=List.exists_cons_of_ne_nil k;obtain⟨z,A,o,_,l⟩:=x;cases A4 e o;cases c with
 |nil=>cases l.aj
 |cons y C=>
  obtain⟨v,r,q,s,_⟩:=l.aj;obtain⟨t,w,_⟩:=s.aj;rw[w] at q;exact nomatch (HZ q).1
theorem qE (c:Ai->List Str):∀(l:List Ai),(∀r∈l,r∉X/\CR W h r (c r))->RpL W X h (l.map BI) (Jb (l.map c)):=by
 intro l;induction l with
 |nil=>
  intro _;exact .nil
 |cons r l k=>
  intro H;exact .cons ((H r Ad).2.rp (H r Ad).1) (k λ x o=>H x (Af _ o))
theorem gP {a:List (List Str)}(e:Qs n a c=Ab (d,b))(k:HO a=l):
 (l=[]/\d=Ab c/\b=a)\/l≠[]/\((Ej l l=Ah/\d=Ah/\b=a)\/∃m x,n=m+1/\Ej l l=Ab x/\Qs m (a.map (IS x)) (c++[x])=Ab (d,b)):=by
 subst k;cases n with
 |zero=>contradiction
 |succ n=>
  by_cases h:(HO a).isEmpty
  ·have e:=(if_pos h).symm.trans e;have e:=AN e;exact .inl ⟨De.mp h,(congrArg Prod.fst e).symm,(congrArg Prod.snd e).symm⟩
  ·refine .inr ⟨λ q=>h (De.mpr q),?_⟩;have e:=(if_neg h).symm.trans e;cases q:Ej (HO a) (HO a) with
   |none=>
    replace e:=(q)▸e
    have e:=AN e;exact .inl ⟨rfl,(congrArg Prod.fst e).symm,(congrArg Prod.snd e).symm⟩
   |some x=>
    rw[q] at e;exact .inr ⟨n,x,rfl,rfl,e⟩
theorem U6 (l:List Ai):Pm (.list (Ht l))=Ab (!l.isEmpty):=by cases l<;>rfl
theorem cL (c:Ai->List Str):∀h:List Ai,HO (h.map c)=(h.filter (LZ c)).map c:=by
 intro h;induction h with
 |nil=>
  exact rfl
 |cons r h k=>
  have:=k;unfold HO at this ⊢;rw[Bu,FH,FH,this];unfold LZ;cases (c r).isEmpty<;>rfl
theorem nP {d:List Ai}{c:Ai->List Str}{x:Str}:∀l:List Ai,(∀r∈l,r∈d)->l.map (S8 c x (d.filter (LZ c)))=(l.map c).map (IS x):=by
 intro l;induction l with
 |nil=>
  intro _;exact rfl
 |cons r l k=>
  intro h;simp only[Bu,Bu,Bu,k λ y o=>h y (Af _ o)];congr 1;unfold S8;by_cases q:r∈d.filter (LZ c)
  ·exact(if_pos q)
  ·rw[if_neg q];have:LZ c r=Au:=by
    cases e:LZ c r with
    |false=>rfl
    |true=>exact absurd (Aw.mpr ⟨h r Ad,e⟩) q
   unfold LZ at this;have:c r=[]:=by
    cases e:c r with
    |nil=>rfl
    |cons a b=>(first |exact Dn e this |obtain rfl:=A4 e this |cases e.symm.trans this |(rw[e] at this;exact Bv this))
   rw[this];rfl
theorem Yq {a:List Ai}{c:Ai->List Str}{x:Str}:(a.filter (LZ c)).filter (LZ (S8 c x (a.filter (LZ c))))=a.filter (LZ (S8 c x (a.filter (LZ c)))):=by
 refine List.filter_filter.trans ?_;apply Cr;intro r h;by_cases q:LZ c r=Ag
 ·rw[q,ES]
 ·have:LZ c r=Au:=eq_false_of_ne_true (q);rw[this,H8];have e:LZ (S8 c x (a.filter (LZ c))) r=LZ c r:=by
   show(!(S8 c x (a.filter (LZ c)) r).isEmpty)=_;rw[show S8 c x (a.filter (LZ c)) r=c r from if_neg (λ z=>q (Aw.mp z).2)];rfl
  rw[e,this]
end
variable {n:Nat}{t:Expr}{g:Array CB}{fl:Fl} in
inductive UU (W:BV)(hs h:AS)(e:Ai)(C v:Ae)(f:Ai):Prop
 |mk (le:BA W hs h) (no:hs.get? e=Ah) (t:Ai) (n:Nat) (T:Ai) (g:h.get? t=Ab (M1 #[v] n)) (fl:Zx h e C (.ref t) (Ab T) (BS f)) (k:hs.get? T=Ah)
section
variable {C:Ae}
theorem cJ {M:Dq}(D:C≠.none/\C≠.type "code")(u:A.frames=Ab (z::a))(St:Ba W s.heap (z::a))(F:KN W c s.heap e C v)
 (R:∀x,UU W c x e C v z.locals->Ba W x (z::a)->E (.ref e) {s with heap:=x}):notedBy M A z (λ e S=>cameBackBy M A z E e S) (.ref e) s:=by
 simp only[notedBy];refine F.gk D u St λ k t n T Z G h U d=>?_;obtain⟨y,I,p,g,H,J,r,N,Y,ts,O,i,Q,L⟩:=d;have hf:=h.2.1;dsimp only[cameBackBy];refine Ac (CS p H r ?_);rw[hf];refine Ac (CS p H r ?_);have j:=(C8.mp L).1;have l:=Ek Q (·.setIfInBounds 3 ((Ab z.locals:Option Ai).elim E0 λ f=>BS f))
 have w:Zx k e C (.ref t) (Ab T) (BS z.locals):=⟨y,I,p,g,H,J,r,N,Y,ts,O,i,Q,L⟩;have m:∀b o,k.get? b=Ab o->b≠T->(k.update T (Er (·.setIfInBounds 3 ((Ab z.locals:Option Ai).elim E0 λ f=>BS f)))).get? b=Ab o:=λ b o B V=>by refine Eq.trans (Dh _ _ (Ne.symm V)) ?_;exact B
 have K:UW (GG (z::a)) e (Ab T) k (k.update T (Er (·.setIfInBounds 3 ((Ab z.locals:Option Ai).elim E0 λ f=>BS f)))):=λ b o B _ V=>.inl (m b o B λ q=>V (congrArg _ (q)))
 refine IF O Q j (R _ ⟨Z.gq h K w D F.il λ T' q=>by cases q;exact G,F.il,t,n,T,K.seq h w U rfl,⟨y,I,m e y p N.symm,g,H,J,r,N,_,_,B1 _ O (D9 l),(KG _ _).trans i,l,by simp[j]⟩,G⟩ (K.stack h w))
theorem UU.bp {M:Dq}(f:C≠.none/\C≠.type "code")(St:Ba W s.heap (z::a))(F:UU W c s.heap e C v z.locals){b:Unit->Aq->Prop}(g:∀N,KN W c N e C v->Ba W N (z::a)->b () {s with heap:=N}):Av M A (leaving z (.ref e)) b E s:=by
 obtain⟨H,i,t,n,T,j,l,m⟩:=F;refine Ac ?_;obtain⟨p,q,k,O,h,r,Z,Q,u,x,o,V,w,d⟩:=l;have y:=St.2.1;unfold noteFrame;rw[y];refine Ac (CS k h Z ?_);refine Ac (CS o w d ?_);rw[if_pos (by exact beq_self_eq_true _)];exact Ar (KN.land f St H i m j (⟨p,q,k,O,h,r,Z,Q,u,x,o,V,w,d⟩) g)
end
section
theorem CR.ap (x:CR W h r c)(k:D7 V z Z X h H)(s:r∉X):CR W H r c:=x.keep λ o e d=>k r o (.inl ⟨s,d⟩) e
theorem SQ {c:Ai->List Str}:(λ r=>!((λ r=>(c r).map PV.str) r).isEmpty)=LZ c:=by
 funext r
 show(!((c r).map PV.str).isEmpty)= !(c r).isEmpty;cases c r<;>rfl
variable {S n tk:Nat}{l:List Env} in
inductive F' (W:BV)(sc:Bf)(ah:Env)(hb:AS)(Z:List Ai)(a:Ai)(s:Aq)(rs:List Ai)(o:Option (List Str))(rows':List (List Str)):Nat->Aq->Prop
 |mk {H:AS} {tk:Nat} {c':Ai->List Str} {out':List Str} {act':List Ai} {n:Nat} (S:XS W sc ah hb Z (a::Z) {s with heap:=H,toks:=tk} (Yv out' act')) (l:s.toks<=tk) (hrow:∀r0∈rs,CR W H r0 (c' r0)) (hsub:∀r0∈act',r0∈rs) (hact:act'.filter (LZ c')=rs.filter (LZ c')) (hsz:out'.length+n<=BX) (hza:act'.length<=BX) (e:Qs n (rs.map c') out'=Ab (o,rows')):F' W sc ah hb Z a s rs o rows' n {s with heap:=H,toks:=tk}
theorem nQ {a:Ai}{b:List Ai}{i:List Env}{u:Bf}{P:Nat->Pos}{K:Nat->Nat}(Gk:EY W C k mg mb)(hA:CX k A)(B:XB W V z N)(T:XI V u P)(g7:a∉Z)(g8:b.Nodup)(c3:∀r∈b,W.h0.get? r=Ah/\N.get? r=Ah/\r∉a::Z)(a8:b.length<=BX)
 (i0:Zw W A z N i) (g9:mg "RuntimeError"=Ah/\mb "RuntimeError"=Ab (.type "RuntimeError")) (h0:Dk [.Name "sequences" (P 23)] (.ListComp (.Name "s" (P 24)) [⟨.Name "s" (P 25),.Name "sequences" (P 26),[.Name "s" (P 27)],0⟩] u (P 28)) (P 29).line z=pure Ag)
 {f:Nat} {c:Ai->List Str} {j:List Str} {g:List Ai} {p:Option (List Str)} {d:List (List Str)} (S:XS W V z N Z (a::Z) s (Yv j g)) (e4:∀r∈b,CR W s.heap r (c r)) (e5:∀r∈g,r∈b) (e6:g.filter (LZ c)=b.filter (LZ c)) (h1:j.length+f<=BX) (h2:g.length<=BX)
 (e:Qs f (b.map c) j=Ab (p,d)) {y:FB->Aq->Prop}
 (hQ:∀e9,p=Ab e9->∀h' tk,BA W N h'->s.toks<=tk->CR W h' a e9->Tn W h' b d->y (.ret (.ref a)) {s with heap:=h',toks:=tk})
 (hE:p=Ah->∀J h' tk e t,s.toks<=tk->BA W N J->Tn W J b d->UU W J h' e (.type "RuntimeError") (.str gS t) z.locals->Ba W h' (z::i)->E (.ref e) {s with heap:=h',toks:=tk}):
 Av W.M A (exec (gT u P K) z) y E s:=by
 refine wpAny_While (codeAny_whileLoop (F' W V z N Z a s b p d) (λ n s' hI=>vH λ Q' gQ=>?_) f
  ⟨S,An _,e4,e5,e6,h1,h2,e⟩)
 induction hI with |@mk i1 h3 Q O a9 n b0 f0 b1 L M a4 d4 R=>
 ·refine wpAny_isTrue_value ((Dc.ag rfl).at Gk hA b0.F (b0.gd B) _ _ λ v J h4 c6 c7 rv=>?_);obtain rfl:v=.bool Ag:=rv.aj;refine CA (gQ _ _ (P3 ?_));refine vH λ Q' gQ=>?_;have U:∀r∈b,CR W J r (Q r):=λ r o=>(b1 r o).bg c6;have b2:∀r∈b,r∉a::Z:=λ r o=>(c3 r o).2.2;have i2:(Ht (a9.filter (LZ Q))).length<=BX:=by
   rw[M];have:=AW (LZ Q) b;unfold Ht;rw[Aj];exact Aa (AW (LZ Q) b) a8
  refine MN λ K1 n1 o1=>(uR (Q:=_) Gk hA B (b0.ae c6 c7) (rs:=a9) (c:=λ r=>(Q r).map .str) (λ r o=>?_) (x:="sequences") (y:="s") rfl T.S.seq T.m9 h0 T.m6 (by rw[Uk T.m7];rfl) d4 λ f1 b3 I d5 f2=>n1 _ ?_)
  ·exact⟨b2 r (L r o),(U r (L r o)).ex⟩
  simp only[SQ,M] at I;have e2:Bs (Yv O a9) "sequences" (.aa (.list ((b.filter (LZ Q)).map λ r=>.obj (.ref r))))=Yv O (b.filter (LZ Q)):=rfl;simp only[e2] at I;have d6:s.toks<=b3:=Aa f0 (Aa c7 f2);generalize Y:b.filter (LZ Q)=h at I e2;have G:∀r∈h,r∈b:=λ r o=>by rw[<-Y] at o;exact(Aw.mp o).1
  have c8:∀r∈h,Q r≠[]:=λ r o q=>by
   rw[<-Y] at o;have:=(Aw.mp o).2;unfold LZ at this;(first |exact Dn q this |obtain rfl:=A4 q this |cases Eq.trans (Eq.symm q) this |(replace this:=(q)▸this;exact Bv this))
  have f3:h.Nodup:=by rw[<-Y];exact g8.filter _
  have f4:HO (b.map Q)=h.map Q:=by rw[cL,Y]
  have t2:KW C V (Yv O h) (.UnaryOp .Not (.Name "sequences" (P 30)) (P 31)) h.isEmpty:=by
   rw[<-Mc h.isEmpty];exact .not (.name (Yg (d:=.list (Ht h)) rfl) (U6 h))
  refine MN λ K1 n1 o1=>(KR (t2.at (s:={s with heap:=f1,toks:=b3}) Gk hA I.F (I.gd B) _ _ λ b' a5 a1 c9 d0 d7=>?_));subst d7;have w:=I.ae c9 d0;have H:∀r∈b,CR W a5 r (Q r):=λ r o=>((λ r o=>(U r o).ap d5 (b2 r o)) r o).bg c9;have b4:=Aa d6 d0;have hq:=w.fj (x:="result") rfl;rcases gP R f4 with⟨a2,ho,d8⟩ |⟨a2,R⟩
  ·rw[De.mpr (List.map_eq_nil_iff.mp a2)];exact P3 (Ax (EM (FI.bv w.F rfl hq.1 (o1 _ _ (λ q=>nomatch q) (gQ _ _ (hQ O ho a5 a1 w.le b4 (CR.of hq.2) ⟨Q,d8.symm,H⟩))))))
  ·have a2:h≠[]:=λ q=>a2 (by rw[q];rfl);rw[List.isEmpty_eq_false_iff.mpr a2];refine VO (BL (n1 _ ?_));refine Jr λ gg kk=>?_;obtain⟨vq,f5,rq⟩:=w.F.at (x:="sequences") rfl;obtain⟨Lq,nq,rfl,d9,c4,h5⟩:=bO rq;refine kk ?_;have h6:Lq∉b:=λ q=>jR a2 d9 (H Lq q);have f6:XS W V z N Z (a::Z) {s with heap:=a5,toks:=a1} (VK (.list (O.map .str)) (.ref Lq) (.list (Jb (h.map Q))) Ah):=by
    refine⟨w.F.re w.F.bb w.F.zx w.F.alive (λ _ _=>rfl) (.same rfl (.cons rfl (λ v hv r=>?_) .nil)) (Nn "result" rfl),w.le,w.tk,w.fr,w.fc⟩;have h7:=hv.eh f5;subst h7;exact⟨rfl,.list d9 c4 h5 (qE Q h λ r o=>⟨b2 r (G r o),H r (G r o)⟩)⟩
   have h8:∀t∈h.map Q,t.length<=BX:=λ t ht=>by
    obtain⟨r,o,rfl⟩:=AF.mp ht;obtain⟨vs,n',_,i3,l⟩:=H r (G r o);have:=l.length;simp only[Aj] at this;exact this▸(show vs.toList.length<=BX from i3)
   have f7:∀t∈h.map Q,t≠[]:=λ t ht=>by
    obtain⟨r,o,rfl⟩:=AF.mp ht;exact c8 r o
   refine MN λ K1 n1 o1=>((J4 Gk hA B (.list (.name (PG rfl)) rfl) (uJ Gk hA B T.S h8 Ah (h.map Q) f7 (λ q=>absurd (List.map_eq_nil_iff.mp q) a2))).go Z (a::Z) {s with heap:=a5,toks:=a1} _ _ f6 λ f8 e0 b5 b6 f9=>n1 _ ?_);have c5:=b6 Lq _ (.inl ⟨c4,.inl rfl⟩) d9;have t5:∀oc:Option Str,KW C V (VK (.list (O.map .str)) (.ref Lq) (.list (Jb (h.map Q))) (Ab (Xs oc))) (.Compare (.Name "candidate" (P 35)) [.Is] [.Constant .none (K 3) (P 36)] (P 37)) oc.isNone:=λ oc=>
    .au (.aa (d:=Xs oc) rfl) (.ag rfl) rfl (by cases oc<;>rfl)
   refine MN λ K1 n1 o1=>(KR ((t5 _).at (s:={s with heap:=f8,toks:=e0}) Gk hA b5.F (b5.gd B) _ _ λ b' b7 a3 b8 d1 d7=>?_));subst d7;have D:=b5.ae b8 d1;have a0:∀r∈b,CR W b7 r (Q r):=λ r o=>((λ r o=>(H r o).ap b6 (b2 r o)) r o).bg b8;have b9:s.toks<=a3:=Aa (Aa b4 f9) d1;rcases R with⟨e1,ho,d8⟩ |⟨m,x,hn,e1,R⟩
   ·rw[e1];refine P3 ?_;refine Ax (wpAny_Raise_call F.excCall_RuntimeError F.excRaise_RuntimeError hA.handled (by rfl) (CF Gk D.F (D.gd B) T.na (.inr g9) ⟨rfl,?_⟩));rw[Bj (P 40) z _ rfl];refine Be (AE ((Dc.ag (d:=.str gS) (by kernel_rfl)).at (s:={s with heap:=b7,toks:=a3}) Gk hA D.F (D.gd B) _ _ λ v d2 c0 a6 a7 rv=>A6 ⟨rfl,by simp[HG],λ g0 e8 m8=>?_⟩));obtain⟨t,rfl,o1,z1⟩:=rv.aj;have kk:=a6.trans (.af m8.keeps);refine cJ (by decide) i0.fr ((i0.stack (D.ae a6 a7)).bg (.af m8.keeps)) (KN.jk m8.of) λ g3 g4 e3=>?_;exact hE ho d2 g3 c0 e8 t (Aa b9 a7) (D.le.trans a6) ⟨Q,d8.symm,λ r o=>(a0 r o).bg a6⟩ g4 e3
   ·simp only[e1] at D ⊢;refine VO (BL (n1 _ ?_));refine MN λ K1 n1 o1=>((N2 (d:=.str x) Gk hA B (by refine T.nk.trans ?_;rfl) rfl (.aa rfl) (by rw[Aj];exact Aa (A0 (hn▸Ak 1 m) _) a4)).go _ _ {s with heap:=b7,toks:=a3} _ _ D λ d2 c0 d3 c1 a7=>n1 _ ?_);have e7:Bs (VK (.list (O.map .str)) (.ref Lq) (.list (Jb (h.map Q))) (Ab (Xs (Ab x)))) "result" (.own (.list (O.map .str++[.str x])))=VK (.list ((O++[x]).map .str)) (.ref Lq) (.list (Jb (h.map Q))) (Ab (.str x)):=by rw[Dx];rfl
    simp only[e7] at d3;refine MN λ K1 n1 o1=>(gD (x:=x) (out:=O++[x]) (d:=.list (Jb (h.map Q))) Gk hA B d3 g7 rfl rfl rfl (c1 Lq _ (.inl ⟨c4,.inl rfl⟩) (b8.keep c5 (by simp) (by simp))) (by rw[<-Y];exact Aa (AW (LZ Q) b) a8) (λ r o=>⟨(c3 r o).1,(c3 r o).2.1,(c3 r o).2.2,(λ r o=>(a0 r o).ap c1 (b2 r o)) r o⟩) G f3 h6 c4 c8 T.seq λ g0 h9 g5 c2 g6=>n1 _ (BL (gQ _ _ ?_)));refine⟨m,hn▸CH _,g5,Aa b9 (Aa a7 g6),c2,G,?_,by rw[AP,MU,Et,DQ 1 m,<-hn];exact a4,by rw[<-Y];exact Aa (AW (LZ Q) b) a8,?_⟩
    ·rw[<-Y];exact Yq
    ·rw[<-Y,nP b λ r o=>o];exact R
end
section
theorem PM (k:h.get? b=Ah)(Y:List Ai):(FT h Y).get? b=Ah:=by
 by_cases q:b∈Y
 ·exact JL q
 ·rw[DG q];exact k
theorem Rx (e:(FT h Y).get? b=Ab o):h.get? b=Ab o:=by
 by_cases q:b∈Y
 ·rw[JL q] at e;cases e
 ·rw[DG q] at e;exact e
theorem cD:∀Y:List Ai,BA W (FT h Y) h:=by
 intro Y;induction Y with
 |nil=>
  exact .refl _
 |cons b r k=>
  exact BA.trans (SL) (k)
theorem VF (R:BA W W.h0 h):∀Y:List Ai,(∀b∈Y,W.h0.get? b=Ah/\∀o k,h.get? b=Ab o->o.data≠.fields k)->BA W W.h0 (FT h Y):=by
 intro Y;induction Y with
 |nil=>
  intro _;exact R
 |cons b r s=>
  intro H;exact Ru (s λ x w=>H x (Af _ w)) (H b Ad).1 λ o k e=>(H b Ad).2 o k (Rx e)
theorem Rw (T:W.di h):∀Y:List Ai,(∀b∈Y,∀o k,h.get? b=Ab o->o.data≠.fields k)->W.di (FT h Y):=by
 intro Y;induction Y with
 |nil=>
  intro _;exact T
 |cons b r s=>
  intro H;exact Nt (s λ x w=>H x (Af _ w)) λ o k e=>H b Ad o k (Rx e)
theorem nR {f:List Ai}{l:List Env}{u:Bf}{P:Nat->Pos}{K:Nat->Nat}(Gk:EY W C k mg mb){p:Ai}(fo:Gm W p fd ["sequences"] (Qt u P K))(T:XI fd.scope u P)(c3:∀n,Dk [.Name "sequences" (P 23)] (.ListComp (.Name "s" (P 24)) [⟨.Name "s" (P 25),.Name "sequences" (P 26),[.Name "s" (P 27)],0⟩] u (P 28)) (P 29).line (B4 fd n p)=pure Ag)
 (c4:mg "RuntimeError"=Ah/\mb "RuntimeError"=Ab (.type "RuntimeError")) (hA:CX (k+1) A) (c5:A.frames=Ab l) (St:Ba W s.heap l) (G:Gd W s) {c:Ai->List Str} {j x:Nat} (hL:s.heap.get? j=Ab (I0 (f.map BI).toArray x)) (d7:j∉f)
 (c6:f.Nodup) (I:f.length<=BX) (H:∀r∈f,W.h0.get? r=Ah/\CR W s.heap r (c r)) {m:Nat} (hf:m<=BX) {i:Option (List Str)} {g:List (List Str)} (e:Qs m (f.map c) []=Ab (i,g))
 (hQ:∀M,i=Ab M->∀a R tk,s.heap.get? a=Ah->BA W (FT s.heap f) R->s.toks<=tk->CR W R a M->Tn W R f g->Q (.ref a) {s with heap:=R,toks:=tk})
 (hE:i=Ah->∀N R tk e t,s.toks<=tk->BA W (FT s.heap f) N->Tn W N f g->KN W N R e (.type "RuntimeError") (.str gS t)->Ba W R l->E (.ref e) {s with heap:=R,toks:=tk}):
 Av W.M A (call (.ref p) [.ref j]) Q E s:=by
 refine F8 fo hA G (X:=[]) (λ b S=>nomatch S) (.av .nil) rfl λ o N c7 he B d3 U w=>?_;have a4:=hA.down o;rw[DV] at w;have b2:∀b∈f,∀i vs,s.heap.get? b=Ab i->i.data≠.fields vs:=λ b S i vs e=>by
  obtain⟨us,n,e1,_⟩:=(H b S).2;obtain rfl:=A4 e1 e;simp
 have Y:∀a∈AV o,s.heap.get? a=Ah:=λ a ha=>by rw[he] at ha;exact OB a ha
 have Bm:XB W fd.scope o (FT s.heap f):=⟨VF G.ao f λ b S=>⟨(H b S).1,b2 b S⟩,Rw G.dl f b2,λ a ha=>PM (B.wr a ha) f⟩;have c8:∀r∈f,r∉AV o:=λ r D q=>by
  obtain⟨i,Z,_⟩:=(H r D).2.some;rw[Y r q] at Z;cases Z
 have b3:∀r∈f,CR W N r (c r):=λ r D=>(H r D).2.bg w.le;unfold Qt;refine Ax (Cz rfl rfl rfl (iG.list .nil (AY _) ⟨W,_,o,_,_,_,mg,mb,Gk,a4⟩ _ w.F (w.gd B) _ _ λ a d4 c9 ha b4 b5 ro=>?_));refine Rr B w T.nc (λ y d hy=>?_) ha b4 b5 ro λ a1 a5 h a2=>?_
 ·have hy:C9 y [(("sequences":Str),Ds.av (.ref j))]=Ab (.own d):=hy;by_cases z:y="sequences"
  ·subst z;cases AC.symm.trans hy
  ·rw[AI z] at hy;cases hy
 have d0:a∉AV o:=λ q=>by obtain⟨i,Z⟩:=w.F.an a q;exact Dn ha Z
 have a6:s.heap.get? a=Ah:=BA.bh w.le ha;have d1:a∉f:=λ q=>by obtain⟨i,Z,_⟩:=(H a q).2.some;exact Dn a6 Z
 have J:∀r∈f,CR W a1 r (c r):=λ r D=>(H r D).2.bg h.le;have d2:j∉a::AV o:=λ q=>by
  rcases Al.mp q with q |q
  ·rw[q,a6] at hL;cases hL
  ·rw[Y _ q] at hL;cases hL
 have e3:Bs ((["sequences"]:List Str).zip [Ds.av (.ref j)]) "result" (.own (.list []))=([("sequences",.av (.ref j)),("result",.own (.list []))]:A5):=rfl;rw[e3] at h;have a3:XS W fd.scope o (FT s.heap f) (AV o) (a::AV o) {s with heap:=a1,toks:=a5} (Yv [] f):=by
  exact⟨h.F.re h.F.bb h.F.zx h.F.alive (λ _ _=>rfl) (.same rfl (.cons (sl:=.av (.ref j)) rfl (λ v _(r:v=.ref j)=>r▸.list (h.le.keep hL (by simp) (by simp)) d2 (by simpa using I) (PA f)) .nil)) (Nn "result" rfl),(cD f).trans h.le,h.tk,λ b S hz=>PM (h.fr b S hz) f,h.fc⟩
 have b6:Ba W (FT s.heap f) l:=St.imp λ d5 fc=>by
  obtain⟨i,es,ep,Z,hc,hd⟩:=fc;refine⟨i,es,ep,?_,hc,hd⟩;rw[DG];· exact Z
  intro q;obtain⟨vs,n,e1,_⟩:=(H _ q).2;rw[Z] at e1;injection e1 with e1;rw[e1] at hc;simp at hc
 have O:Zw W (A.deeper o) o (FT s.heap f) l:=⟨by show A.frames.map (o::·)=_;rw[c5];rfl,by rw[a3.F.kind];simp,by rw[he];rfl,b6,a4.handled⟩
 refine Ax (nQ Gk a4 Bm T d0 c6 (λ r D=>⟨(H r D).1,JL D,λ q=>?_⟩) I O c4 (by rw[he];exact c3 _) a3 J (λ r D=>D) rfl (by rw[List.length_nil];omega) I e (λ M Z L a7 a8 b7 b8 V=>?_) λ Z L d6 a9 e6 t b9 a8 V c0 b0=>?_)
 ·rcases Al.mp q with q |q
  ·exact d1 (q▸D)
  ·exact c8 r D q
 ·exact hQ M Z a L a7 a6 a8 (Aa U (Aa a2 b7)) b8 V
 ·refine UU.bp (by simp) b0 c0 λ c1 c2 b1=>?_;exact hE Z L c1 a9 e6 t (Aa U (Aa a2 b9)) a8 V c2 b1.2.2.2.2
end
noncomputable def HE (A:GE)(o:Bf)(w:A5)(h:Expr)(C:List Str):Prop:=
 ∀(c:Pt A o w)(s:Aq),FI c.W o c.ah c.Z c.X s.heap w->Gd c.W s->∀(Q:I9)(E:I9),
  (∀a k z,s.heap.get? a=Ah->BA c.W s.heap k->s.toks<=z->CR c.W k a C->Q (.ref a) {s with heap:=k,toks:=z})->Av c.W.M c.A (eval h c.ah) Q E s
theorem HE.own {d:List Str}(h:iG C V O b (.list (d.map .str))):HE C V O b d:=λ c s F G Q E o=>h c s F G Q E λ a w z A k l r=>o a w z A k l (CR.of r)
variable {a c:Ai}{vs:List Ae}{r:List Bq}{t:Expr}{l:List Env} in
class inductive FD (W:BV) (X:List Ai) (h:AS):List Ai->List (List Str)->Prop
 |nil:FD W X h [] []
 |cons {r:Ai} {vs:List Ai} {c:List Str} {l:List (List Str)} (a:W.h0.get? r=Ah) (b:r∉X) (x:CR W h r c) (t:FD W X h vs l):FD W X h (r::vs) (c::l)
noncomputable def tP (o:BV)(D:Ai)(X:List Ai)(k:AS)(l:List (List Str)):Prop:=∃h n,k.get? D=Ab (I0 (h.map BI).toArray n)/\h.Nodup/\FD o X k h l
theorem FD.bi (hk:∀b o,h.get? b=Ab o->b∉X->EJ o->H.get? b=Ab o/\b∉Y)(x:FD W X h c l):FD W Y H c l:=by
 induction x with
 |nil=>exact .nil
 |@cons r _ _ _ a b x _ k=>
  obtain⟨o,s,w,_⟩:=x.some;exact .cons a (hk r o s b w).2 (x.keep λ o e d=>(hk r o e b d).1) k
theorem FD.len {a:List Ai}{l:List (List Str)}(x:FD W X h a l):a.length=l.length:=by
 induction x with
 |nil=>rfl
 |cons _ _ _ _ k=>exact congrArg BZ k
theorem FD.append (x:FD W X h c l)(y:FD W X h d m):FD W X h (c++d) (l++m):=by
 induction x with
 |nil=>exact y
 |cons a b x _ k=>exact .cons a b x k
theorem FD.mem (x:FD W X h d l):∀r∈d,W.h0.get? r=Ah/\r∉X/\∃c,CR W h r c:=by
 induction x with
 |nil=>exact λ _ q=>absurd q BG
 |cons a b x _ k=>exact List.forall_mem_cons.mpr ⟨⟨a,b,_,x⟩,k⟩
theorem FD.bc (x:FD (W.bc a Y) X h b l)(r:Ai)(q:r∈b):(FT a Y).get? r=Ah/\r∉X:=
 have z:=x.mem r q
 ⟨z.1,z.2.1⟩
theorem FD.fn {d:List Ai}(k:d.Nodup)(x:FD f X h d l):∃c:Ai->List Str,d.map c=l/\∀r∈d,CR f h r (c r):=by
 induction x with
 |nil=>exact⟨λ _=>[],rfl,λ _ q=>absurd q BG⟩
 |@cons r d x l a b t _ s=>
  have k:=Bz.mp k;obtain⟨c,hc,w⟩:=s k.2;have e:∀y∈d,(if y=r then x else c y)=c y:=λ y o=>if_neg λ q:y=r=>k.1 (q▸o);refine⟨λ y=>if y=r then x else c y,congr (congrArg List.cons (if_pos rfl)) ((EK e).trans hc),List.forall_mem_cons.mpr ⟨?_,λ y o=>?_⟩⟩
  ·show CR f h r (if r=r then x else c r);exact(if_pos rfl).symm▸t
  ·show CR f h y (if y=r then x else c y);exact(e y o).symm▸w y o
theorem FD.un {d c:AS}(x:FD (W.bc d X) (D::X) h e l)(k:∀x∈e,d.get? x=Ah)(G:BA W W.h0 d)(o:∀b,b≠D->c.get? b=h.get? b):FD W X c e l:=by
 induction x with
 |nil=>exact .nil
 |@cons y _ _ _ a b x _ s=>
  refine .cons (DC G (k y Ad)) (λ q=>b (Af _ q)) ?_ (s λ z w=>k z (Af _ w));obtain⟨A,C,E,z,H⟩:=x;exact⟨A,C,(o y λ q=>b (q▸Ad)).trans E,z,K4 H⟩
theorem zM (D:Ai):ZA D (tP W D) where
 bi:=λ x hk k=>by obtain⟨h,n,e,s,r⟩:=x;exact⟨h,n,k _ e,s,r.bi λ b o e n d=>hk b o e n (EJ.cls d)⟩
 obj:=λ x=>by obtain⟨h,n,e,_⟩:=x;exact⟨_,e,.inl rfl⟩
theorem iJ.row (G:HE C V O f d):iJ tP C V (NG f) O d:=λ L g Y i ds s c hz Q E k=>
 Ac (G (L.pt O) s c.F c.gd _ _ λ a t j l A N I=>by
  have u:=c.dq A N;have W:=u.ck;simp only[g] at W;obtain⟨v,n,h,J,B⟩:=W;refine Ac (Kn h (by have:=B.len;simp;omega) λ D Z w z=>Ar (k _ (u.own z ⟨_,w⟩ (An _) ?_)));rw[g];refine⟨v++[a],Z,by rw[w];simp,HW.mpr ⟨J,by simp,λ x M y R q=>?_⟩,?_⟩
  ·have H:=c.ck;rw[g] at H;obtain⟨m,n',p,_,r⟩:=H;have S:m=v:=by
    have:=(A.keep p (by simp) (by simp)).symm.trans h;injection this with this;injection this with _ _ this;injection this with this;exact(List.map_inj_right λ _ _ q=>Value.ref.inj q).mp (by simpa using this)
   rw[Ce.mp R] at q;obtain⟨_,_,cc,T⟩:=r.mem x (S▸M);obtain⟨o,U,_⟩:=T.some;exact DJ l ⟨o,U⟩ q
  ·exact(B.append (.cons (DC c.gd.ao l) (λ q=>DJ l (c.F.an a q) rfl) I .nil)).bi λ b o e n hd=>⟨(z.2 b λ q=>n (q▸Af _ (L.ZX _ L.DZ))).trans e,n⟩)
noncomputable def t4 (s:GE)(C:Bf)(w:A5)(h:Bf)(z t E:Expr)(A:List Expr)(H:List (List Str)):Prop:=∃(o:Type)(l:List o)(g:o->PV)(q:o->Bool)(f:o->List Str),H=(l.filter q).map f/\Eg C h=Ag/\OK s C w E (l.map g)/\(FN t).all (λ x=>((Bp h w).lookup x).isNone)=Ag/\
 (∀a∈l,∃k,Hf h t (g a) (Bp h w)=Ab k/\NN s h k A (q a)/\(q a=Ag->HE s h k z (f a)))/\l.length<=BX
theorem QU (Gk:EY W C k mg mb)(hA:CX k A){u:List (List Str)}(hc:t4 WO V O d i t B v u)(F:FI W V z Z X s.heap O)(G:Gd W s){j:Option (Ae->Sem Unit)}
 (hQ:∀D H o I m w n,s.heap.get? D=Ah->s.heap.get? H=Ah->D≠H->BA W s.heap o->s.toks<=I->o.Ns H m->o.get? D=Ab (I0 (w.map BI).toArray n)->w.Nodup->(∀r∈w,s.heap.get? r=Ah)->FD (W.bc s.heap X) (H::X) o w u->u.length<=BX->Jz W.M A E j Q (.ref D) H (.ok .next) {s with heap:=o,toks:=I}):
 Av W.M A (Mk (.ListComp i [⟨t,B,v,0⟩] d y) d z p (newList []) Au (eval B z) j) Q E s:=by
 obtain⟨α,l,g,q,f,rfl,J,S,hf,h,hz⟩:=hc;have hX:∀b∈X,W.h0.get? b=Ah:=λ b hb=>(F.alive b hb).1;have Gr:=Gk.bc G.ao hX (rw:=λ _=>Ah) λ _ _ q=>nomatch q
 have N:((l.filter q).map f).length<=BX:=Aj (as:=l.filter q) f▸Aa (AW q l) hz;refine Ln ⟨W.bc s.heap X,A,z,Z,X,_,mg,mb,Gr,hA⟩ (GP i _ d y) rfl (Acc:=tP) (λ W D=>zM D) (oN:=I0 #[] 0) rfl (λ M A s Q E hq=>B2 hq) (λ W D X h e=>⟨[],0,e,.nil,.nil⟩) J S
  (λ L hL T _ s R c hR=>L.ew hL (GP ..) rfl rfl (T▸.of hf λ a U=>by obtain⟨Y,a,b,e⟩:=h a U;exact⟨Y,a,b,λ q=>.row (e q)⟩) c (Aa (Az (Cs _)) N) hR) (F.bc λ a U=>.inl U) G.bc λ D C' o I mm hD hC a0 a2 a1 l hn x=>?_
 obtain⟨w,n,e,nd,r⟩:=x;refine hQ D C' o I mm w n hD hC a0 (BA.cs G.ao hX a1) l hn e nd (λ x T=>?_) r N;obtain⟨r1,r2⟩:=r.bc x T;exact(DG λ q=>r2 (Af _ q)).symm.trans r1
theorem Qb (x:EY W C k mg mb)(y:CX k A)(hc:t4 WO V O a b t f c d)(F:FI W V z Z X s.heap O)(G:Gd W s)
 (B:∀D H i w n,s.heap.get? D=Ah->BA W s.heap H->s.toks<=i->H.get? D=Ab (I0 (w.map BI).toArray n)->w.Nodup->(∀r∈w,s.heap.get? r=Ah)->FD W X H w d->Q (.ref D) {s with heap:=H,toks:=i}):
 Av W.M A (eval (.ListComp b [⟨t,f,c,0⟩] a g) z) Q E s:=by
 refine QU x y hc F G λ D T H i I w n J L j N l v e M h r _=>?_;refine⟨I,v,λ m p=>?_⟩;refine B D m i w n J (N.az L (λ o w R S=>?_) p) l ((p.2 D j).trans e) M h ?_
 ·obtain⟨U,Y,ep,q,u,_⟩:=v;obtain rfl:=A4 R q;cases S.symm.trans u
 ·exact r.un h G.ao p.2
theorem FI.ee (F:FI W V z Z X h O)(R:BA W W.h0 h)(s:BA W h H)(w:∀a∈Y,h.get? a=Ah/\∃o,H.get? a=Ab o):FI W V z (Y++Z) (Y++X) H O:=
 F.same (λ b k=>AU _ (F.bb b k)) (λ b k=>(AK.mp k).elim (λ q=>A8 _ q) λ q=>AU _ (F.zx b q)) (λ _=>Dl s) (λ _ _ _ _=>GU s) (λ _ _ _ _ r=>(r.ay λ a A=>(w a A).1).ae s)
   λ b k=>(AK.mp k).elim (λ q=>⟨DC R (w b q).1,(w b q).2⟩) λ q=>⟨(F.alive b q).1,BJ s (F.alive b q).2⟩
theorem HE.slice {g:List PV}{i:Pos}{v:Expr}{lo b st:Option Expr}{d:Pos}{l u t:Option Int}{f:List Str}(U:iO C V O v (.list g))(Y:Zs C V O lo l)(hu:Zs C V O b u)(ht:Zs C V O st t)
 (e:En (.list g) l u t=Ab (.list (f.map .str))):HE C V O (.Subscript v (.Slice lo b st d) i) f:=λ c s F G Q E hQ=>by
 refine Subscript_ (U c s F G _ _ λ ov x m h z rv=>wpAny_Slice ?_);have A:=F.ae h;have H:=G.step h z;refine Y c {s with heap:=x,toks:=m} A H _ _ λ vl y p k N p1=>?_;have W:=A.ae k;have Z:=H.step k N;refine hu c {s with heap:=y,toks:=p} W Z _ _ λ vu B r o j p2=>?_;refine ht c {s with heap:=B,toks:=r} (W.ae o) (Z.step o j) _ _ λ vt w L D I p3=>?_;have k5:BA c.W w (w.push {cls:=.type "slice",data:=.fields #[vl,vu,vt]}):=.push _ _;have M:=((k.trans o).trans D).trans k5;obtain⟨a0,J⟩:=N3 lo b st d ov w.objs.size;obtain⟨a,rfl,ws,n,S,z1,r1⟩:=(rv.at M).list;have q:=Fk e;have T:=PV.list.inj q.2;have R:=Py r1 l u t;rw[T] at R;refine DI ⟨_,S,rfl⟩ slot_list_getitem.lookup ?_ J;exact wpAny_getItem_list_slice ⟨_,S,rfl,_,rfl⟩ ⟨_,AD _ rfl,rfl,rfl⟩ p1 p2 p3 q.1.1 (hQ _ _ _ (Hp (h.trans M) (Ch _)) ((h.trans M).trans (.push _ _)) (Aa z (Aa N (Aa j I))) ⟨_,_,AD _ rfl,by have:=R.length;have:=q.1.2;rw[T] at this;simp at*;omega,K4 R⟩) (Aa z1 FR)
theorem TT (a b:List Ai):Ht (a++b)=Ht a++Ht b:=Dx
theorem FI.over (F:FI W V z Z X h O)(k:∀r∈rs,r∈X/\r∉AV z)(A:BA W (FT h rs) H)(E:∀r∈rs,∃o,H.get? r=Ab o)(s:∀y d,O.lookup y≠Ab (.own d)):FI W V z Z X H O:=
 have g:∀{v d},Rp W X h v d->Rp W X H v d:=λ r=>Rp.ae A (r.bi λ b o e n _=>⟨(DG λ q=>n (k b q).1).trans e,n⟩)
 F.same F.bb F.zx (λ m n=>Dl A (by
  obtain⟨o,N,Q,w,r⟩:=n;exact⟨o,N,Q,(DG λ q=>(k _ q).2 Ad).trans w,r⟩)) (λ _ _ _ e i=>GU A (by
  obtain⟨o,w,a⟩:=i;exact⟨o,(DG λ q=>(k _ q).2 (Di e)).trans w,a⟩)) (λ y _ c f r=>by
   cases c with
   |aa e=>exact g r
   |av u=>exact r
   |cg u d=>exact⟨r.1,g r.2⟩
   |own e=>exact absurd f (s y e)) λ b C=>⟨(F.alive b C).1,by
    by_cases q:b∈rs
    ·exact E b q
    ·obtain⟨o,w⟩:=(F.alive b C).2;exact BJ A ⟨o,(DG q).trans w⟩⟩
theorem T3 (k:BA W N h)(s:∀r∈a,N.get? r=Ah)(w:∀r∈a,∀o z,h.get? r=Ab o->o.data≠.fields z):BA W N (FT h a):=by
 refine⟨λ b o e=>?_,λ t=>Rw (k.2 t) a w⟩;have q:b∉a:=λ q=>by replace e:=Eq.trans (Eq.symm (s b q)) e;contradiction
 rw[DG q];exact k.1 b o e
theorem DW.jx (f:DW z h)(k:∀r∈a,r∉AV z):DW z (FT h a):=f.at λ o s=>(DG λ q=>k _ q Ad).trans s
theorem XS.over (S:XS W V z N Z X s O)(h:∀r∈rs,r∈X/\r∉AV z/\N.get? r=Ah/\∀o C,s.heap.get? r=Ab o->o.data≠.fields C)(A:BA W (FT s.heap rs) H)(E:∀r∈rs,∃o,H.get? r=Ab o)(w:∀y d,O.lookup y≠Ab (.own d))(l:s.toks<=a):XS W V z N Z X {s with heap:=H,toks:=a} O:=
 ⟨S.F.over (λ r k=>⟨(h r k).1,(h r k).2.1⟩) A E w,(T3 S.le (λ r k=>(h r k).2.2.1) λ r k=>(h r k).2.2.2).trans A,Aa S.tk l,S.fr,(S.fc.jx λ r k=>(h r k).2.1).bg A⟩
section
theorem iA (f:Dp W A (eval x z) s (λ v Z=>v=.bool b))(g:b=Ag->∀k h,BA W s.heap k->s.toks<=h->Dp W A (boolOp c .And (evalEach (y::a) z)) {s with heap:=k,toks:=h} (λ v Z=>v=.bool d)):
 Dp W A (boolOp c .And (evalEach (x::y::a) z)) s (λ v Z=>v=.bool (b&&d)):=λ Q E e=>by
 refine Ac (f _ _ λ v k h o w i=>?_);subst i;refine Ac (AZ (Ac (Br (CA ?_))));cases b with
 |false=>exact Ar (e _ k h o w rfl)
 |true=>exact g rfl k h o w _ _ λ v2 H C N O V=>e v2 H C (o.trans N) (Aa w O) V
end
section
theorem X4 (S:XS W V z N Z X s O)(w:s.heap.get? a=Ab o)(A:o.data=.seq b n):¬Ea V z a:=λ q=>by
 rcases q with q |⟨x,C,q⟩
 ·obtain⟨E,H,Q,h,_,k⟩:=S.fc;rw[<-q,w] at h;cases h;cases Eq.trans (Eq.symm A) k
 ·obtain⟨c,d,e,⟨E,h,k⟩,_⟩:=S.F.cell x (.inl C);obtain rfl:=A4 q e;obtain rfl:=A4 w h;cases Eq.trans (Eq.symm A) k
theorem V4 (L:EY W C k mg mb)(M:CX k A)(F:FI W V z Z X s.heap O)(G:Gd W s)
 (hQ:∀v S D t n v1 v2,BA W s.heap v->s.toks<=S->s.heap.get? D=Ah->s.heap.get? t=Ah->t≠D->v.get? t=Ab (M1 #[.ref D,v1,v2] n)->BY W (D::X) v D (.dict [])->Rp W (D::X) v v1 (.list [])->Rp W (D::X) v v2 (.list [])->Q (.ref t) {s with heap:=v,toks:=S}):
 Av W.M A (eval (.Tuple [.Dict [] [] b,.List [] c,.List [] d] e a) z) Q E s:=by
 rw[KV,Bj a z _ rfl];refine Ac (AZ (Ac ?_));refine AE (iG.dict ⟨W,A,z,Z,X,_,mg,mb,L,M⟩ s F G _ _ λ D i r T H j g=>?_);have U:=F.ae H;have l:=G.step H j;have Y:FI W V z (D::Z) (D::X) i O:=F.fresh G.ao H T g.alive;refine AE (Dc.list .nil (AY _) ⟨W,A,z,D::Z,D::X,_,mg,mb,L,M⟩ {s with heap:=i,toks:=r} Y l _ _ λ v1 m w h p x=>?_);have y:Gd W {s with heap:=m,toks:=w}:=l.step (tk:=w) h p;refine AE (Dc.list .nil (AY _) ⟨W,A,z,D::Z,D::X,_,mg,mb,L,M⟩ {s with heap:=m,toks:=w} (Y.ae h) y _ _ λ v2 N u f B I=>?_);refine A6 ?_;have J:BA W s.heap N:=H.trans (h.trans f);have fr:s.heap.get? N.objs.size=Ah:=Hp J (Ch _);have R:N.objs.size≠D:=λ q=>by
  obtain⟨o,ho⟩:=BJ (h.trans f) g.alive;rw[<-q,Ch] at ho;cases ho
 refine B2 (hQ _ u D N.objs.size 0 v1 v2 (J.trans (.push _ _)) (Aa j (Aa p B)) T fr R (AD _ rfl) (((g.ae h).ae f).ae (.push _ _)) (((x.ae f)).ae (.push _ _)) (I.ae (.push _ _))) (by show 3<=HG;simp[HG])
theorem XT {kk:Nat}{P:Nat->Pos}{K:Nat->Nat}(Gk:EY W C k mg mb)(B:XB W V z N)(e6:Zw W A z N I)(S:XS W V z N Z X s O)(b6:∀y d,O.lookup y≠Ab (.own d))(c9:∀b∈X,Ea V z b)(R:XA W mg mb U)(d0:mg "reduce"=Ab (.ref U)){j:Fz}(fo:Gm W Y j ["state","reply"] (IM x3 c g l P K))(T:Lx j.scope x3 c g)(d1:mg "_law_heard"=Ab (.ref Y))
 (x1:Gf W mg "error_reply" C1 M) (x2:Gf W mg "error_proto" L m) (d2:(BI L::m).contains (.ref C1)=Au) (hA:CX (k+2) A) (ht:Dc C V O f (.list n)) (d3:Ck f=Ag)
 {p:Nat->List (Str×PV)} {u G:Nat->List PV} (e0:p 0=[]) (h0:u 0=[]) (s0:G 0=[]) (hR:∀i x,n[i]? =Ab x->∃r,x=.str r/\UT W C k j.scope P K c g l C1 L r (p i) (u i) (G i) (p (i+1)) (u (i+1)) (G (i+1)))
  (hx:A3 V x=Ag) (g1:CW V "reduce"=Ag) (g2:CW V "_law_heard"=Ag) {a0:FB->Aq->Prop}
 (hQ:∀h' tk D t nt v1 v2,XS W V z N (D::Z) (D::X) {s with heap:=h',toks:=tk} (Bs O x (.av (.ref t)))->s.heap.get? D=Ah->t∉D::X->h'.get? t=Ab (M1 #[.ref D,v1,v2] nt)->Rp W (D::X) h' v1 (.list (u n.length))->Rp W (D::X) h' v2 (.list (G n.length))->BY W (D::X) h' D (.dict (p n.length))->s.toks<=tk->a0 .next {s with heap:=h',toks:=tk}):
 Av W.M A (exec (.Assign [.Name x q1] (.Call (.Name "reduce" q2) [.Name "_law_heard" q3,f,.Tuple [.Dict [] [] q4,.List [] q5,.List [] q6] kk q7] [] q8) a1) z) a0 E s:=by
 have b7:=hA.ai (AR k 2);have R0:=R;obtain⟨d4,_,_,b8⟩:=R0;obtain⟨d5,b9,d6,c0,c1⟩:=b8.obj;obtain⟨oh,f1,f2,e7,e8⟩:=fo.obj;refine Cz rfl rfl rfl (B3 (CF Gk S.F (S.gd B) g1 (.inl d0) ?_));refine Dm (by show(Ag&&(Ck f&&(Ag&&Ag)))=Ag;rw[d3];rfl) ?_;refine Ci (o:=d5) (fd:=d4) (Be (AE (CF Gk S.F (S.gd B) g2 (.inl d1) ?_)));refine AE (ht ⟨W,A,z,Z,X,_,mg,mb,Gk,b7⟩ s S.F (S.gd B) _ _ λ tv e9 d7 a6 a7 rt=>?_);have h:=S.ae a6 a7;refine AE (V4 Gk b7 h.F (h.gd B) λ H a3 D t nt v1 v2 Q a8 hD c2 d8 eT oD r1 r2=>?_);refine A6 ⟨⟨((B.ao.trans h.le).trans Q).keep b9 c0 c1,d6⟩,?_⟩;have a2:XS W V z N ([D]++Z) ([D]++X) {s with heap:=H,toks:=a3} O:=
  ⟨h.F.ee (h.gd B).ao Q (λ a ha=>by rw[Ce.mp ha];exact⟨hD,oD.alive⟩),h.le.trans Q,Aa h.tk a8,λ a ha hz=>by
    rcases AK.mp ha with q |q
    ·exact absurd (A8 _ q) hz
    ·exact h.fr a q λ q'=>hz (AU _ q'),h.fc.bg Q⟩
 have c3:=Hp a6 hD;have b2:=N7 oD;have a9:=a2.gd B;have a4:∀b∈D::X,W.h0.get? b=Ah/\∃o,H.get? b=Ab o:=λ b N=>a2.F.alive b N;have b3:BA W W.h0 (Ir H (Ab D)):=PL a9.ao (λ B q=>by cases q;exact((a4 D Ad).1)) λ B q o vs e=>by cases q;exact(b2 o e).1 vs
 have t0:=DC (h.gd B).ao c2;have f3:t∉D::X:=λ q=>by
  rcases Al.mp q with q |q
  ·exact d8 q
  ·obtain⟨o,ho⟩:=h.F.an t q;have d9:=c2;exact Dn d9 ho
 have St:=Uo Gk fo T x1 x2 d2 (D:=D) (X:=D::X) Ad (N:=Ir H (Ab D)) b3 (λ b N=>⟨(a4 b N).1,by
  by_cases q:b=D
  ·exact .inl q
  ·right;obtain⟨o,ho⟩:=(a4 b N).2;exact⟨o,(JK λ B' q'=>by cases q';exact q).trans ho⟩⟩) hR
 have e1:CX (k+1+1) A:=hA;refine Ou (s:={s with heap:=H,toks:=a3}) (ob:=Ab D) (X:=D::X) Gk R e1 a9 a4 ((rt.be hD).ae Q) (λ B' q=>by cases q;exact⟨Ad,b2⟩) e6.fr (e6.stack a2) ⟨t0,_,eT⟩ St ⟨t,nt,v1,v2,rfl,eT,by rw[h0];exact r1,by rw[s0];exact r2,by rw[e0];exact oD⟩ λ f0 e2 v c4 b0 J=>?_;obtain⟨t',e3,w1,w2,rfl,b4,p1,p2,p3⟩:=J;have b1:=XS.over a2 (rs:=[D]) (λ r hr=>by
  rw[Ce.mp hr];refine⟨A8 _ Ad,λ q=>?_,?_,λ o vs e=>(b2 o e).1 vs⟩
  ·obtain⟨o,ho⟩:=h.F.an D (h.F.zx _ (h.F.bb _ q));have d9:=hD;exact Dn d9 ho
  ·exact Hp S.le c3) c4 (λ r hr=>by rw[Ce.mp hr];exact p3.alive) b6 b0
 have tX:t'∉D::X:=λ q=>by
  rcases Al.mp q with q |q
  ·obtain⟨o',e4,c5,_⟩:=TR p3;rw[<-congrArg Obj.cls (A4 (q▸b4) e4)] at c5;exact absurd (Value.type.inj c5) (by decide)
  ·exact X4 b1 b4 rfl (c9 _ q)
 refine XS.fg B b1 (sl:=.av (.ref t')) hx rfl (λ d q=>nomatch q) λ c6 b5 c7 w c8=>?_;have nW:∀b,Ea V z b->b∈X:=λ b q=>S.F.br q;have e5:¬Ea V z D:=λ q=>by obtain⟨o,ho⟩:=h.F.an D (nW D q);exact Dn hD ho
 have a5:∀a,Ea V z a->a∈D::X:=λ a q=>Af _ (nW a q);exact hQ c6 b5 D t' e3 w1 w2 c7 c3 tX (w.keep t' _ (λ q=>tX (a5 _ q)) b4) (Rp.bj a5 w p1) (Rp.bj a5 w p2) (BY.bj w a5 e5 p3) (Aa a7 (Aa a8 (Aa b0 c8)))
end
section
theorem BY.rp (x:BY W X h a d)(k:a∉Y)(o:∀b∈Y,b∈X):Rp W Y h (.ref a) d:=by
 cases d with
 |list w=>obtain⟨A,n,e,z,l⟩:=x;exact .list e k z (l.ai o)
 |dict C=>obtain⟨s,e,y,z,q,l⟩:=x;exact .dict e k y z q (l.ai o)
 |_=>exact x.elim
theorem mE (Gk:EY W C k mg mb)(hA:CX k A)(B:XB W V z N)(S:XS W V z N (D::Z) (D::X) s O)(hx:O.lookup x=Ab (.av (.ref t)))(L:∀y d,O.lookup y≠Ab (.own d))(a0:∀a∈AV z,a∈Z)(a1:∀a∈Z,a∈X)(R:D∉X)
 (ht:t∉D::X) (hT:s.heap.get? t=Ab (M1 #[.ref D,v1,v2] g)) (p1:Rp W (D::X) s.heap v1 c) (p2:Rp W (D::X) s.heap v2 m) (pD:BY W (D::X) s.heap D (.dict n))
  (hr:Dc C V O f (.ba [.dict i,j,l])) (a2:K7 f=Ag) (q1:NH n i=Ab Ag) (q2:NW c j=Ab Ag) (q3:NW m l=Ab Ag) {p:FB->Aq->Prop}
 (hQ:∀h' tk,XS W V z N Z X {s with heap:=h',toks:=tk} (Bs O x (.aa (.ba [.dict n,c,m])))->s.toks<=tk->p .next {s with heap:=h',toks:=tk}):
 Av W.M A (exec (.If (.Compare (.Name x G) [.NotEq] [f] I) b [] J) z) p E s:=by
 refine KR (DA (S.F.av hx (hr ⟨W,A,z,D::Z,D::X,_,mg,mb,Gk,hA⟩ s S.F (S.gd B) _ _ λ vb w H h M rb=>?_)) (Iz a2));have Q:w.get? t=Ab (M1 #[.ref D,v1,v2] g):=h.keep hT (by simp) (by simp);have o:=S.ae h M;refine jD (s:={s with heap:=w,toks:=H}) (X:=D::X) (Y:=D::X) (hA.u (by decide+kernel)) Q (pD.ae h) (p1.ae h) (p2.ae h) Ad rb q1 q2 q3 (CA ?_);simp only[BR,if_false];refine BL (hQ w H ?_ M);have less:∀b∈X,b∈D::X:=λ b N=>Af _ N;refine⟨o.F.re a0 a1 (λ a U=>o.F.alive a (less a U)) (λ _ _=>rfl) (λ y s' T=>?_) (λ y a3 d e Y h2=>?_),o.le,o.tk,λ a U hz=>o.fr a (less a U) λ q=>?_,o.fc⟩
 ·rw[B9] at T;split at T
  ·rename_i q;subst q;cases T;refine⟨_,hx,λ v hv r=>?_⟩;subst r;exact .ba Q (λ q=>ht (less t q)) (by simp[BX]) (.cons ((pD.ae h).rp R less) (.cons ((p1.ae h).ai less) (.cons ((p2.ae h).ai less) .nil)))
  ·refine⟨s',T,λ v hv r=>?_⟩;cases s' with
   |aa d=>exact Rp.ai less r
   |av u=>exact r
   |cg u d=>exact⟨r.1,Rp.ai less r.2⟩
   |own d=>exact absurd T (L y d)
 ·rw[B9] at Y;split at Y
  ·cases Y
  ·exact absurd Y (L y d)
 ·rcases Al.mp q with q |q
  ·exact R (q▸U)
  ·exact hz q
end
section
structure Mw (W:BV)(mg:Str->Option Ae)(sc:Bf)(ah:Env)(ρ:A5)(params:D8)(body:Expr)(lsc:Bf)(pos:Pos)(ps:List Str)(φ:A5):Prop where
 ji:∃c P ls qual,iH W c P ls/\Cd≠P/\W.h0.BuiltinsAt mg P/\ah.code=.ref c/\(pos,qual)∈ls/\ah.qual++"<lambda>"=qual
 dfl:defaultsOf params ah=([],[])
 ms:Zu params body lsc ps
 nd:(lsc.names.map (·.1)).Nodup
 free:∀p∈lsc.names,p.2=.free->sc.names.lookup p.1=Ab .cell
 gu:∀x sl,φ.lookup x=Ab sl->lsc.names.lookup x=Ab .free/\D1 x=Ag/\ρ.lookup x=Ab sl/\∃d,sl=.aa d
theorem Mw.ok {b:Bf}(L:Mw W mg V z O j g b m l n)(F:FI W V z Z X h O)(B:MW h f g b l (GQ z b.names [])):
 (∀a∈(GQ z b.names []).map (·.2),a∈X)/\∀Y:List Ai,(∀a∈Y,a∈X)->QE W h Y f g b l (GQ z b.names []) n:=by
 have k:∀p∈b.names,p.2=.free->iM W z Z X h O p.1:=λ p s E=>F.cell p.1 (.inl (L.free p s E));have w:∀p∈b.names,p.2=.free->(z.cells.lookup p.1).isSome=Ag:=λ p s E=>by obtain⟨c,t,e,_⟩:=k p s E;rw[e];rfl
 have o:∀x,(GQ z b.names []).lookup x=if b.names.lookup x=Ab .free then z.cells.lookup x else Ah:=λ x=>Lo x b.names [] L.nd w
 have H:∀a∈(GQ z b.names []).map (·.2),a∈X:=λ a A=>by
  obtain⟨p,s,rfl⟩:=AF.mp A;exact F.zx _ (F.bb _ (Di (UG b.names [] w (λ p s=>nomatch s) p s)))
 refine⟨H,λ Y D=>⟨B,λ x N e=>?_,λ x u=>?_,λ x y c C Q=>?_,λ a A=>?_⟩⟩
 ·obtain⟨G,I,_,d,rfl⟩:=L.gu x N e;exact⟨G,I,λ d q=>(by contradiction)⟩
 ·obtain⟨c,t,e,i,J⟩:=k (x,.free) (mem_of_lookup u) rfl;refine⟨c,t,by rw[o,if_pos u];exact e,i,λ N M=>?_⟩;obtain⟨_,_,R,d,rfl⟩:=L.gu x N M;obtain⟨v,C,r⟩:=J _ R;refine⟨v,C,?_⟩;refine Rp.ai (λ a A=>?_) r;rcases AK.mp A with q |q
  ·exact H a q
  ·exact D a q
 ·rw[o] at C Q;split at C
  ·split at Q
   ·exact F.inj x y c C Q
   ·contradiction
  ·contradiction
 ·exact F.alive a (H a A)
theorem W0 {d:Bf}(u:EY W C k mg mb)(L:Mw W mg V z O a b d g i j)(F:FI W V z Z X s.heap O)(G:Gd W s)
 (v:∀o m f,BA W s.heap o->s.toks<=m->s.heap.get? f=Ah->MW o f b d i (GQ z d.names [])->Q (.ref f) {s with heap:=o,toks:=m}):Av W.M A (eval (.Lambda a b d g) z) Q E s:=by
 refine Jr λ M x=>?_;obtain⟨c,P,R,w,LT,n,q,h,H,y⟩:=L.ji;refine x ?_;have r:∀p∈d.names,p.2=.free->(z.cells.lookup p.1).isSome=Ag:=λ p B t=>by obtain⟨c,S,e,_⟩:=F.cell p.1 (.inl (L.free p B t));rw[e];rfl
 exact cW u LT n q F.bx h H y L.dfl (Mo r) G λ o m f D I N l t J hc=>v o m f N l t ⟨w,a,_,D,I,J,hc,L.ms⟩
theorem Uc (l:EY W C k mg mb)(L:Mw W mg V z O c b d e g i)(F:FI W V z Z X s.heap O)(G:Gd W s)
 (m:∀H j f w,BA W s.heap H->s.toks<=j->(∀a∈w.map (·.2),a∈X)->(∀Y:List Ai,(∀a∈Y,a∈X)->QE W H Y f b d g w i)->Q (.ref f) {s with heap:=H,toks:=j}):Av W.M A (eval (.Lambda c b d e) z) Q E s:=
 W0 l L F G λ H j f h N _ o=>m H j f _ h N (L.ok (F.ae h) o).1 (L.ok (F.ae h) o).2
theorem Rb {i:Nat}{b:List Ae}{a:List Str}(r:RpL W X h b (a.map .str))(k:i<a.length):Rp W X h (b.getD i .none) (.str (a.getD i Ca)):=by
 obtain⟨v,e,o⟩:=r.get (k:=i) (d:=.str (a.getD i Ca)) (by rw[Bk,AA k,Am,AA k];rfl);rw[Am,e];exact o
theorem pY {b:List Str}(r:RpL W X h c (b.map .str)){a:Str}(k:a∈b):A9 a=Ag/\a.length<=BX:=
 r.bt (P:=λ _ o=>PV.str a∈o->A9 a=Ag/\a.length<=BX) (λ q=>absurd q BG) (λ v _ d _ s _ i q=>(Al.mp q).elim (λ e=>by
   subst e;obtain⟨_,_,x,y⟩:=s.aj;exact⟨x,y⟩) i) (DR k)
theorem Nc {n:Nat}(T:CX (n+3) A)(U:∀a∈X,∃o,s.heap.get? a=Ab o)(G:Gd W s){b:List Str}{g:Str->Str->Int}{K:Ai}(Y:EQ W n s.heap K (Mm b g))(O:W.h0.NoLimit){l:Ai}{c:Array Ae}{m:Nat}(el:s.heap.get? l=Ab (I0 c m))(x:RpL W X s.heap c.toList (b.map .str))(M:b.length<7)
 {d:Nat->Nat->Bool} (ok:KI b.length d) (y:∀i j,i<b.length->j<b.length->d i j=decide (g (b.getD i Ca) (b.getD j Ca)<0))
 (hQ:∀v B R,BA W s.heap B->s.toks<=R->(∃p,H6 b.length d p/\Rp W X B v (.list ((p.map λ i=>b.getD i Ca).map .str)))->Q v {s with heap:=B,toks:=R}):
 Av W.M A (call (.builtin "sorted") [.ref l] [(Fn "key",.ref K)]) Q E s:=by
 have k:c.toList.length=b.length:=by have:=x.length;simpa using this
 have h:∀i,i<b.length->∃t,c.toList.getD i .none=.str (b.getD i Ca) t/\A9 (b.getD i Ca)=Ag/\(b.getD i Ca).length<=BX:=λ i w=>by
  have r:=Rb x w;generalize c.toList.getD i .none=v at r;exact r.aj
 have CO:XH (Mm b g) c.toList d:=by
  have V:∀i,i<b.length->b.getD i Ca∈b:=λ i w=>by rw[Am,AA w];exact Dg w
  refine⟨λ i j w N=>?_,by rw[k];exact ok,λ v hv=>?_⟩
  ·simp only[k] at w N;obtain⟨t1,u,o1,z1⟩:=h i w;obtain⟨t2,e2,o2,z2⟩:=h j N;exact⟨_,by rw[u,e2];exact if_pos ⟨V i w,V j N⟩,y i j w N⟩
  ·obtain⟨i,w,e⟩:=Cq.mp hv;obtain⟨t1,u,_⟩:=h i (by rw[<-k];exact w);rw[Am,AA w] at u;rw[<-e];have I:c.toList[i]=_:=u;rw[I];rfl
 refine Z7 (k:=n) (by rw[k];exact M) Y T G O CO ⟨_,el,rfl,m,by rfl⟩ λ z H D c2 p Z C f hD eD=>?_
 replace Z:=(k)▸Z
 have J:D∉X:=λ q=>by obtain⟨o,ho⟩:=U D q;exact Dn hD ho
 have L:∀i∈p,i<b.length:=λ i w=>As.mp ((Z.1.mem_iff).mp w);have rp:∀q:List Nat,(∀i∈q,i<b.length)->RpL W X z (q.map λ i=>c.toList.getD i .none) ((q.map λ i=>b.getD i Ca).map .str):=by
  intro q;induction q with
  |nil=>intro _;exact .nil
  |cons i q ih=>intro S;exact .cons (Rb (x.ae C) (S i Ad)) (ih λ j N=>S j (Af _ N))
 refine hQ _ z H C f ⟨p,Z,.list (vs:=(p.map λ i=>c.toList.getD i .none).toArray) eD J ?_ (rp p L)⟩;show(p.map _).length<=BX;rw[Aj,Z.1.length_eq,CJ];exact Aa (A7 M) (by decide+kernel:(6:Nat)<=BX)
theorem Ys {U:Nat}{T J Y M q4 q6 q7 R:Pos}{u:List Str}{y:Str}{m:Bf}{d:D8}{I:A5}(Gk:EY W C k mg mb)(hA:CX (k+4) A)(B:XB W V z N)(S:XS W V z N Z X s O){q:Nat}{G:GE}(CT:UV W mg mb G U q)(b7:mg "cmp_to_key"=Ab (.ref q))(b8:∃o fd,W.h0.get? q=Ab o/\o.data=.func fd/\o.cls≠.type "frame"/\o.cls≠.none)(a1:W.h0.NoLimit)
 {c:Expr} {e:Pos} (L:Mw W mg V z O d c m e u I) (b9:u.length=2) {ns:List Str} {x:Str} (hy:O.lookup y=Ab (.aa (.list (ns.map .str)))) (hn:ns.length<7) {t:Nat->Nat->Bool} (ok:KI ns.length t) {g:Str->Str->Int}
 (c0:∀a∈ns,∀b∈ns,Dc C m (u.zip [.aa (.str a),.aa (.str b)]++I) c (.int (g a b))) (c1:∀i j,i<ns.length->j<ns.length->t i j=decide (g (ns.getD i Ca) (ns.getD j Ca)<0)) (hx:A3 V x=Ag) (g1:CW V "sorted"=Ag) (g2:CW V "cmp_to_key"=Ag)
  {D:FB->Aq->Prop} (hQ:∀p,H6 ns.length t p->Ky W V z N Z X s (.next (Bs O x (.aa (.list ((p.map λ i=>ns.getD i Ca).map .str))))) D):
 Av W.M A (exec (.Assign [.Name x J] (.Call (.Name "sorted" Y) [.Name y M] [⟨Ab "key",.Call (.Name "cmp_to_key" q4) [.Lambda d c m e] [] q6,q7⟩] R) T) z) D E s:=by
 refine Jr λ gg kk=>?_;obtain⟨o,fd,ho,hd,c2,c3⟩:=b8;refine kk ?_;refine Cz (t:=.Name x J) rfl rfl rfl (wpAny_Call_Name_kw (CF Gk S.F (S.gd B) g1 (.inr (Gk.blt .sorted)) ?_));refine callWith_kw ?_;rw[Bj R z [.Name y M] rfl];refine AE (S.F.name hy λ v rv=>A6 ?_);obtain⟨l,us,n,rfl,el,lX,lz,rl⟩:=(rv).aj;refine kws_cons (B3 (CF Gk S.F (S.gd B) g2 (.inl b7) ?_));refine Dm (es:=[.Lambda d c m e]) rfl ?_;refine Ci (o:=o) (fd:=fd) (Be (AE (Uc Gk L S.F (S.gd B) λ b1 a8 f c4 w a2 _ LO=>A6 ⟨⟨((S.gd B).ao.trans w).keep ho c2 c3,hd⟩,?_⟩)));have a3:=S.ae w a2;have cf:=SO Gk (LO [] λ a ha=>absurd ha (by exact BG)) b9 a1 (N:=ns) (λ a ha=>pY rl ha) c0;refine CT.call (s:={s with heap:=b1,toks:=a8}) (k:=k) (hA.ai (CK (AR k 3))) (a3.gd B) cf _ _ λ vK a4 h H a5 hK=>?_;obtain⟨K,rfl,_,KL⟩:=hK;refine kws_nil ?_;have Q:XS W V z N Z X {s with heap:=a4,toks:=h} O:=a3.ae (tk:=h) H a5;have kk:=w.trans H;refine Nc (s:={s with heap:=a4,toks:=h}) hA Q.F.an (Q.gd B) KL a1 (kk.keep el (by simp) (by simp)) (rl.ae kk) hn ok c1 λ v b2 a0 a6 a7 r=>?_;obtain⟨p,gp,rD⟩:=r;have b3:XS W V z N Z X {s with heap:=b2,toks:=a0} O:=Q.ae (tk:=a0) a6 a7;refine GR (hA.ai (j:=0) (by exact AY _)).handled B b3 (HB hx) rD λ b4 a9 b5 b0 b6=>?_;exact hQ p gp b4 a9 b5 ((w.trans (H.trans a6)).ap.trans (b0.ap λ a ha=>S.F.br ha)) (Aa a2 (Aa a5 (Aa a7 b6)))
end
section
theorem YY (p:EY W C k mg mb)(q:CX k A)(F:FI W V z Z X s.heap O)(G:Gd W s)(u:Ck a=Ag)(v:Ck b=Ag)(x:Dc C V O a d)(y:Dc C V O b e)
 (B:∀n r t,BA W s.heap n->s.toks<=r->s.heap.get? t=Ah->Rp W X n (.ref t) (.ba [d,e])->Q (.ref t) {s with heap:=n,toks:=r}):Av W.M A (eval (.Tuple [a,b] f c) z) Q E s:=by
 rw[KV,Bj c z _ (by show(Ck a&&(Ck b&&Ag))=Ag;rw[u,v];rfl)];refine Ac (AZ (Ac ?_));refine AE (x ⟨W,A,z,Z,X,_,mg,mb,p,q⟩ s F G _ _ λ v1 j N h o D=>?_);refine AE (y ⟨W,A,z,Z,X,_,mg,mb,p,q⟩ {s with heap:=j,toks:=N} (F.ae h) (G.step h o) _ _ λ v2 w g H l I=>A6 ?_);have i:BA W s.heap w:=h.trans H;have m:=F.ae i;refine B2 (B _ g w.objs.size (i.trans (.push _ _)) (Aa o l) (Hp i (Ch _)) (.ba (AD _ rfl) (II m.an) (by simp[BX]) (.cons ((D.ae H).ae (.push _ _)) (.cons (I.ae (.push _ _)) .nil)))) (by show 2<=HG;simp[HG])
end
theorem kC {M:Dq}{m:Str->Option Ae}(f:Str×Ae->PUnit->Sem (ForInStep PUnit))(Q:∀n v u,f (n,v) u=(do M3 z n v;pure (.yield ⟨⟩)))(hk:z.scope.kind=.function){cm:Str->Option Ae}{a:PUnit->Aq->Prop}
 (x:Mb s₀ z.locals m z.cells cm s) (V:DW z s.heap) (C:z.kindOf n=Ab .local)
 (W:∀w,Mb s₀ z.locals (Om z.kindOf [(n,v)] m) z.cells (Q2 z.kindOf [(n,v)] cm) w->DW z w.heap->1<=w.toks->a ⟨⟩ w):Av M A (forIn [(n,v)] ⟨⟩ f) a E s:=by
 obtain⟨O,d,rfl⟩:=id x.toInCall.same;rw[EF,Q];refine Ac (Ac (C4 C x.toInCall.ns (λ Z H h N=>Ar ?_) (by rw[hk];rfl)));simp only[List.forIn_nil];refine Ar (W _ ⟨⟨⟨Z,_,rfl⟩,?_,λ b o e=>?_,x.toInCall.fresh⟩,λ k c hc=>?_,x.apart,x.above⟩ (V.bo N) (Ak _ _))
 ·have e:Om z.kindOf [(n,v)] m=λ y=>if y=n then Ab v else m y:=by
   unfold bindL;simp only[C,if_true];rfl
  rw[e];exact H
 ·exact h.extBut b o (Ct (Ao (AT e) x.toInCall.fresh)) (x.toInCall.keep b o e)
 ·have e:Q2 z.kindOf [(n,v)] cm=cm:=by
   unfold bindC;simp only[C,if_true];rfl
  rw[e];exact(x.cell k c hc).sameBut h (Dy (x.above k c (mem_of_lookup hc)))
theorem kO {M:Dq}{v:Ae}{a:Bf}{globals:Ai}{n:Str}{f:Str}{g:Option Ai}{code:Ae}{d:Ai}{i:Env->Aq->Prop}(hk:a.kind=.function)(O:a.names.lookup n=Ab .local)
 (Q:∀h,h=newEnv a s.heap.objs.size globals (CD (s.heap.objs.size+1) a.names []) f g code Ah d->
  ∀k,Mb s h.locals (Om h.kindOf [(n,v)] λ _=>Ah) h.cells (Q2 h.kindOf [(n,v)] λ _=>Ah) k->DW h k.heap->1<=k.toks->i h k):
 Av M A (F3 a globals [] [(n,v)] f g code Ah d) i E s:=by
 simp only[F3,Option.isSome_none,BR,if_false];refine Ac (OY ?_);refine Ac (wpAny_layCells _ (λ name w C=>by cases H:w==Co<;>simp[H]) _ _ _ _ ?_);have z:=cellsFrom_ok a.names (s.heap.push {cls:=.type "frame",data:=.dict #[]}) (s.heap.objs.size+1) [] ⟨λ _ _ N=>(nomatch N),GZ⟩ (by rw[CU];exact An _);rw[CU] at z;rw[show({s with heap:=s.heap.push {cls:=.type "frame",data:=.dict #[]}}:Aq).heap.objs.size=s.heap.objs.size+1 from CU ..];refine Ac (kC (s₀:=s) (z:=newEnv a s.heap.objs.size globals (CD (s.heap.objs.size+1) a.names []) f g code Ah d) _ (λ _ _ _=>rfl) hk (m:=λ _=>Ah) (cm:=λ _=>Ah)
  ⟨⟨⟨_,_,rfl⟩,(Heap.Ns.new s.heap (.type "frame")).keeps (Eb _ _),λ b o e=>Eb _ _ b o (AH _ e),An _⟩,
    λ n c hc=>(z.empty n c (mem_of_lookup hc)).1,z.apart,λ n c N=>(z.empty n c N).2⟩
  ⟨_,_,_,Eb _ _ _ _ (AD _ rfl),rfl,rfl⟩ O λ k x V l=>Ar (Q _ rfl k x V l))
theorem Yw (H:Gm W a fd [n] g)(M:fd.scope.names.lookup n=Ab .local)(R:CX (k+1) A)(z:BA W W.h0 s.heap)(j:W.di s.heap)(r:Rp W [] s.heap v d)
 (S:∀(w:Env)(C:AS)(h:Nat),w=B4 fd s.heap.objs.size a->XB W fd.scope w s.heap->XS W fd.scope w s.heap (AV w) (AV w) {s with heap:=C,toks:=h} [(n,.aa d)]->
  Av W.M (A.deeper w) (execs g w) (λ f N=>Q (match f with | .ret v=>v |_=>.none) N) (λ e N=>Av W.M (A.deeper w) (leaving w e) (λ _ O=>E e O) (λ T O=>E T O) N) {s with heap:=C,toks:=h}):
 Av W.M A (call (.ref a) [v]) Q E s:=by
 obtain⟨o,U,V,B,D⟩:=H.obj;obtain⟨c,Y,vs,t,Z,G,I,l,m,p⟩:=H.code;have J:=z.keep U B D;have u:s.heap.NoLimit:=by obtain⟨mc,h1,h2⟩:=H.ng;exact⟨mc,Dl z h1,h2⟩
 refine Ia (OI (Cu (Ay (AR ..) R.depth) (by decide+kernel)) J V H.co H.bi H.body (⟨c,Y,vs,t,Z,z.keep G m p,I,l⟩) ?_);refine H.bind [v] s z rfl _ _ _ _ ?_;rw[H.mn];refine kO H.kind M λ w he N x fc L=>?_;subst he;refine⟨u.keeps x.toInCall.keep,codeAny_func ?_⟩;have G0:Gd W {s with toks:=max s.toks 1}:=⟨z,j,Nat.le_max_right _ _⟩;have x0:Mb {s with toks:=max s.toks 1} (B4 fd s.heap.objs.size a).locals (Om (B4 fd s.heap.objs.size a).kindOf (([n]:List Str).zip [v]) λ _=>Ah) (B4 fd s.heap.objs.size a).cells (Q2 (B4 fd s.heap.objs.size a).kindOf (([n]:List Str).zip [v]) λ _=>Ah) N:=by
  refine Jr λ gg kk=>?_;obtain⟨⟨⟨C,h,e⟩,i2,i3,i4⟩,i5,i6,i7⟩:=x;refine kk ?_;exact⟨⟨⟨C,h,e⟩,i2,i3,i4⟩,i5,i6,i7⟩
 have F:=Ut H G0 (λ b i=>(by contradiction)) (MT.gw (.cons r .nil)) x0;obtain⟨C,h,e⟩:=x.toInCall.same;subst e;have fresh:∀b∈AV (B4 fd s.heap.objs.size a),s.heap.get? b=Ah:=λ b i=>by
  rcases Al.mp i with q |q
  ·rw[q];exact Ch s.heap
  ·obtain⟨⟨n,c⟩,hm,rfl⟩:=AF.mp q;exact Lj (AX (x.above n c hm))
 rw[DV] at F;refine DH (S (B4 fd s.heap.objs.size a) C h rfl ⟨z,j,λ b i=>fresh b ?_⟩ ⟨F,.af x.toInCall.keep,L,λ b i hz=>absurd i hz,fc⟩) (λ f N l=>?_) λ e N l=>l
 ·rcases i with rfl |⟨y,_,hy⟩
  ·exact Ad
  ·exact Di hy
 ·exact l
theorem Qg {a:Type}(h:List a):h.filter (λ _=>Ag)=h:=Jk.mpr λ _ _=>rfl
noncomputable def g1 (f:PV->Option PV)(args:List PV):Option PV:=args.casesOn Ah λ a r=>r.casesOn (f a) λ _ _=>Ah
noncomputable def g2 (f:PV->PV->Option PV)(args:List PV):Option PV:=args.casesOn Ah λ a r=>g1 (f a) r
noncomputable def tV (f:Int->Option PV)(a:PV):Option PV:=PV.casesOn a Ah (λ _=>Ah) f (λ _=>Ah) (λ _=>Ah) (λ _=>Ah) (λ _=>Ah) (λ _=>Ah)
noncomputable def xV (f:Str->Option PV)(a:PV):Option PV:=PV.casesOn a Ah (λ _=>Ah) (λ _=>Ah) f (λ _=>Ah) (λ _=>Ah) (λ _=>Ah) (λ _=>Ah)
theorem Oi {f:PV->Option PV}(h:g1 f args=Ab d):∃a,args=[a]/\f a=Ab d:=by
 cases args with
 |nil=>contradiction
 |cons a r=>cases r with
  |nil=>exact⟨a,rfl,h⟩
  |cons=>contradiction
theorem rZ {f:PV->PV->Option PV}(h:g2 f args=Ab d):∃a b,args=[a,b]/\f a b=Ab d:=by
 cases args with
 |nil=>contradiction
 |cons a r=>obtain⟨b,rfl,h⟩:=Oi h;exact⟨a,b,rfl,h⟩
theorem Np {f:Int->Option PV}(h:tV f a=Ab d):∃i,a=.int i/\f i=Ab d:=by
 cases a with
 |int i=>exact⟨i,rfl,h⟩
 |_=>contradiction
theorem WM {f:Str->Option PV}(h:xV f a=Ab d):∃i,a=.str i/\f i=Ab d:=by
 cases a with
 |str i=>exact⟨i,rfl,h⟩
 |_=>contradiction
theorem Ym {a b:Type}{f:a->Option b}{g:a->b}:∀{k:List a},(∀x∈k,f x=Ab (g x))->k.mapM f=Ab (k.map g):=by
 intro k;induction k with
 |nil=>
  intro _;exact rfl
 |cons x k o=>
  intro h;rw[HX,h x Ad,o λ y s=>h y (Af _ s)];rfl
section
theorem iO.aa (h:O.lookup x=Ab (.aa d)):iO C V O (.Name x p) d:=.bn (.aa h)
theorem Dc.neg (h:Dc C V O e (.int i)):Dc C V O (.UnaryOp .USub e p) (.int (-i)):=λ c=>.mk λ Q E s S=>
 wpAny_UnaryOp ((h c).bl S λ v s S _ r=>by obtain⟨t,q⟩:=r.aj;exact q▸neg_int (S.gh (.int _ _)))
theorem ED.M2 {m n:Type}{l:List m}{g:m->PV}{g2:n->PV}(k:m->List n)(f:m->n->PV)(s:OK C V O i (l.map g))(z:Eg V d=Ag)(A:(FN t1).all (λ x=>((Bp d O).lookup x).isNone)=Ag)
 (w:∀a∈l,∃h,Hf d t1 (g a) (Bp d O)=Ab h/\OK C d h j ((k a).map g2)/\(FN q).all (λ x=>(h.lookup x).isNone)=Ag/\∀b∈k a,∃o,Hf d q (g2 b) h=Ab o/\Dc C d o t (f a b))
 (E:(l.flatMap λ a=>(k a).map (f a)).length<=BX):ED C V O (.ListComp t [⟨t1,i,[],0⟩,⟨q,j,[],0⟩] d p) (.list (l.flatMap λ a=>(k a).map (f a))):=by
 have e:(λ a=>((k a).filter λ _=>Ag).map (f a))=λ a=>(k a).map (f a):=funext λ a=>by rw[Qg]
 have:=ED.T2 (p:=p) k (λ _ _=>Ag) f s z A (λ a H=>by obtain⟨r,a,b,c,w⟩:=w a H;exact⟨r,a,b,c,λ y N=>by obtain⟨r,a,b⟩:=w y N;exact⟨r,a,.nil,λ _=>b⟩⟩) (by rw[e];exact E);exact(e)▸this
theorem OK.bf (h:CW V "range"=Ag)(k:Dc C V O e (.int (n:Nat)))(o:Ck e=Ag)(s:n<100):OK C V O (.Call (.Name "range" q) [e] [] p) ((Ap n).map λ(i:Nat)=>PV.int (i:Nat)):=by
 refine .range h (.cons k .nil o) ?_;refine Eq.trans (if_pos ⟨BW (n+0),by omega⟩) ?_;congr 1;apply EK;intro i _;congr 1;omega
theorem UJ {Cl a:Ai}{d:List PV}{g e:Pos}{b:List Env}{c:Str}(p:EY W C k mg mb)(r:CX k A)(F:FI W V z Z X s.heap O)(G:Gd W s){f:Str}{args:List Expr}(t:CW V f=Ag)(q:UX C V O args d)(u:mg f=Ab (.ref a))(v:W.h0.get? a=Ab o)(x:o.data=.func fd)(l:o.cls≠.type "frame")(m:o.cls≠.none)
 (i:∀w h j,BA W s.heap w->s.toks<=h->RpL W X w j d->Rz W A (call (.ref a) j) {s with heap:=w,toks:=h} b Cl c):Rz W A (eval (.Call (.Name f e) args [] g) z) s b Cl c:=λ Q E y=>by
 refine B3 (CF p F G t (.inl u) ?_);refine Dm q.1 ?_;exact Ci (NE args (q.2 ⟨W,A,z,Z,X,_,mg,mb,p,r⟩ s F G _ _ λ j w h H N n=>⟨⟨(G.ao.trans H).keep v l m,x⟩,(i w h j H N n).aq H N y⟩))
theorem bL (h:List PV)(n:Nat):Jd h Ah (Ab (n:Int)) Ah=h.take n:=by
 have e:Cc Ah (Ab n) Ah h.length=(0,((min n h.length:Nat):Int),1):=by
  simp only[Cc,Option.getD_none];have k:=Hq.mpr (BD n);exact congrArg (λ x=>((0:Int),x,(1:Int))) (UF n h.length)
 rw[TN h _ _ _ (js:=(Ap (min n h.length)).map (0+·)) (by
  rw[e];have:=sliceRange_one 0 (min n h.length);exact this),Ro]
 simp
theorem N4 (h:List PV)(n:Nat)(k:h.length<=BX):En (.list h) Ah (Ab (n:Int)) Ah=Ab (.list (h.take n)):=by
 unfold En;simp only[bL];rw[Pe ⟨by simp,Dd▸Aa (FK ..) k⟩]
end
set_option genInjectivity false
set_option genSizeOfSpec false
variable {c:Ai} in
inductive Kt where
 |lg (hd:Option Ae) (k:Ev->Sem Fin)
 |ret (c:ON) (hd:Option Ae) (k:Ev->Sem Fin) (κ:Kt)
noncomputable abbrev Pl:=Option (ON×Kt)
variable {i:Nat}{t:Expr}{m:Str->Option Ae} in
structure Ot where
 pl:Pl
 t:Sem Fin
 T:List Obj
 m:Nat
 i:Nat
 O:List Obj
 ab:List (Ai×Ai)
variable {n:Nat}{ps:List Str}{prog:Fw} in
structure Gv where
 tag:Nat
 prog:Fw
 ps:Params
 n:Nat
 t0:Nat
 oa:List Ai
noncomputable def DF:ON->Sem Fin:=PySem.W.Fast.tw11892475500146522536 PySem.W.Fast.tw14364793385576792824
theorem wU (c:ON):denote table c=DF c:=by rw[table_eq_tree,PySem.W.Fast.te11892475500146522536,PySem.W.Fast.te14364793385576792824];rfl
noncomputable def kJ (h:Option Ae):Bool:=match h with
 |none=>Ag
 |some _=>Au
noncomputable abbrev Go:=List Nat->Pl->Sem Fin->List Obj->Nat->Nat->List Obj->Ot
noncomputable def Ot.cy (h:Ot)(a b:Ai):Ot:=⟨h.pl,h.t,h.T,h.m,h.i,h.O,(a,b)::h.ab⟩
noncomputable def stop:Go:=λ _ p t T m i O=>⟨p,t,T,m,i,O,[]⟩
variable {c:Ai}{q:Pos} in
noncomputable def qH (h:Go)(st:Ot)(r:Ev)(o:List Nat)(p:Pl)(T:List Obj)(m i:Nat)(s:List Obj):Ot:=match p with
 |none=>st
 |some q=>match q.2 with
  | .lg _ k=>h o Ah (k r) T m i s
  | .ret c _ k w=>h o (Ab (c,w)) (k r) T m i s
variable {a:Ai} in
noncomputable def Oh (G:Gv)(h:Nat)(T k:List Obj):Option (Ai×Obj):=match Es h 100 with
 |true=>match T[h]? with
  |some o=>Ab (G.n+h,o)
  |none=>Ah
 |false=>match G.oa[h-100]? with
  |some a=>match k[h-100]? with
   |some o=>Ab (a,o)
   |none=>Ah
  |none=>Ah
variable {q:Pos} in
noncomputable def xE (p:Pl)(h:Option Ae)(k:Ev->Sem Fin):Kt:=match p with
 |none=>.lg h k
 |some q=>.ret q.1 h k q.2
variable {q:Pos} in
noncomputable def Wo (k:Go)(st:Ot)(h:ON)(o:List Nat)(p:Pl)(T:List Obj)(m i:Nat)(s:List Obj):Ot:=match p with
 |some q=>match h.quiet with
  |true=>k o (Ab (h,q.2)) (DF h) T m i s
  |false=>st
 |none=>st
variable {q:Pos} in
noncomputable def cK (G:Gv)(o:Go)(st:Ot)(a:Ai)(s:Obj->Sem Fin)(w:List Nat)(p:Pl)(T:List Obj)(m i:Nat)(k:List Obj):Ot:=match w with
 |x::h=>match Oh G x T k with
  |some q=>(o h p (s q.2) T m i k).cy a q.1
  |none=>st
 |[]=>st
noncomputable def Wn (G:Gv)(k:Go)(st:Ot)(h:Obj)(o:Ai->Sem Fin)(s:List Nat)(p:Pl)(T:List Obj)(m i:Nat)(w:List Obj):Ot:=match h.isFreed with
 |true=>st
 |false=>k s p (o (G.n+m)) (T++[h]) (m+1) i w
noncomputable def jX (h:Go)(st:Ot)(a b:Ai)(k:Obj)(o:Unit->Sem Fin)(x:Nat)(s:List Nat)(p:Pl)(T:List Obj)(m i:Nat)(w:List Obj):Ot:=match Es x 100 with
 |true=>(h s p (o ()) (T.set x k) m i w).cy a b
 |false=>match Nat.beq x 100 with
  |true=>(h s p (o ()) T m i (w.set 0 k)).cy a b
  |false=>st
variable {q:Pos} in
noncomputable def pR (G:Gv)(o:Go)(st:Ot)(a:Ai)(f:Obj->Obj)(s:Unit->Sem Fin)(w:List Nat)(p:Pl)(T:List Obj)(m i:Nat)(k:List Obj):Ot:=match w with
 |x::h=>match Oh G x T k with
  |some q=>match(f q.2).isFreed with
   |true=>st
   |false=>jX o st a q.1 (f q.2) s x h p T m i k
  |none=>st
 |[]=>st
noncomputable def gO (o:Go)(st:Ot)(h:ON)(k:Option Ae)(s:Ev->Sem Fin)(w:List Nat)(p:Pl)(T:List Obj)(m i:Nat)(z:List Obj):Ot:=match kJ k with
 |true=>o w (Ab (h,xE p k s)) (DF h) T m i z
 |false=>st
variable {a f:Ai} in
noncomputable def eR (G:Gv)(s:Go):Go:=λ h p t T m i O=>match t with
 | .pure w=>match w with
   | .done f=>qH s (stop h p t T m i O) (.ok f) h p T m i O
   | .again z=>Wo s (stop h p t T m i O) z h p T m i O
 | .raise e=>qH s (stop h p t T m i O) (.error e) h p T m i O
 | .rule _ k=>s h p (k ()) T m i O
 | .at _ k=>s h p (k ()) T m i O
 | .point _ k=>s h p (k ()) T m i O
 | .ask k=>s h p (k ⟨G.prog,G.ps⟩) T m i O
 | .load a _ k=>cK G s (stop h p t T m i O) a k h p T m i O
 | .alloc o k=>Wn G s (stop h p t T m i O) o k h p T m i O
 | .update a _ f k=>pR G s (stop h p t T m i O) a f k h p T m i O
 | .fresh k=>s h p (k (G.t0+i)) T m (i+1) O
 | .call z A _ _ k=>gO s (stop h p t T m i O) z A k h p T m i O
 |_=>stop h p t T m i O
noncomputable def vG (G:Gv):Nat->Go:=Nat.rec stop (λ _ h=>eR G h)
section
theorem Tj {i m:Nat}{P:Ot->Prop}{b:Go}{st:Ot}{c:List Nat}{p:Pl}{T d:List Obj}{a:ON}(x:P (Wo b st a c p T m i d)):P st\/∃q,p=Ab q/\a.quiet=Ag/\P (b c (Ab (a,q.2)) (DF a) T m i d):=by
 unfold Wo at x;cases p with
 |none=>exact .inl x
 |some q=>
  cases e:a.quiet with
  |true=>rw[e] at x;exact .inr ⟨q,rfl,rfl,x⟩
  |false=>rw[e] at x;exact .inl x
theorem T7 {a:Ai}{i m:Nat}{P:Ot->Prop}{G:Gv}{d:Go}{st:Ot}{f:List Nat}{p:Pl}{T b:List Obj}{c:Obj->Sem Fin}(x:P (cK G d st a c f p T m i b)):P st\/∃y h q,Oh G y T b=Ab q/\P ((d h p (c q.2) T m i b).cy a q.1):=by
 cases f with
 |nil=>exact .inl x
 |cons y h=>
  unfold cK at x;dsimp only at x;cases e:Oh G y T b with
  |none=>replace x:=(e)▸x;exact .inl x
  |some q=>rw[e] at x;exact .inr ⟨y,h,q,e,x⟩
theorem Ti {i m:Nat}{P:Ot->Prop}{G:Gv}{b:Go}{st:Ot}{c:List Nat}{p:Pl}{T d:List Obj}{a:Ai->Sem Fin}(x:P (Wn G b st o a c p T m i d)):P st\/(o.isFreed=Au/\P (b c p (a (G.n+m)) (T++[o]) (m+1) i d)):=by
 unfold Wn at x;cases e:o.isFreed with
 |true=>rw[e] at x;exact .inl x
 |false=>rw[e] at x;exact .inr ⟨rfl,x⟩
theorem Vq {a:Ai}{i m:Nat}{P:Ot->Prop}{d:Go}{st:Ot}{f:List Nat}{p:Pl}{T g:List Obj}{b:Ai}{c:Unit->Sem Fin}{y:Nat}(x:P (jX d st a b o c y f p T m i g)):P st\/(Es y 100=Ag/\P ((d f p (c ()) (T.set y o) m i g).cy a b))\/(y=100/\P ((d f p (c ()) T m i (g.set 0 o)).cy a b)):=by
 unfold jX at x;cases e:Es y 100 with
 |true=>rw[e] at x;exact .inr (.inl ⟨rfl,x⟩)
 |false=>
  replace x:=(e)▸x
  dsimp only at x;cases h:Nat.beq y 100 with
  |true=>rw[h] at x;exact .inr (.inr ⟨Nat.eq_of_beq_eq_true h,x⟩)
  |false=>rw[h] at x;exact .inl x
theorem U4 {a:Ai}{i m:Nat}{P:Ot->Prop}{G:Gv}{d:Go}{st:Ot}{g:List Nat}{p:Pl}{T b:List Obj}{f:Obj->Obj}{c:Unit->Sem Fin}(x:P (pR G d st a f c g p T m i b)):P st\/∃y h q,Oh G y T b=Ab q/\(f q.2).isFreed=Au/\P (jX d st a q.1 (f q.2) c y h p T m i b):=by
 cases g with
 |nil=>exact .inl x
 |cons y h=>
  unfold pR at x;dsimp only at x;cases e:Oh G y T b with
  |none=>replace x:=(e)▸x;exact .inl x
  |some q=>
   rw[e] at x;dsimp only at x;cases k:(f q.2).isFreed with
   |true=>rw[k] at x;exact .inl x
   |false=>rw[k] at x;exact .inr ⟨y,h,q,e,k,x⟩
theorem UK {i m:Nat}{P:Ot->Prop}{d:Go}{st:Ot}{f:List Nat}{p:Pl}{T g:List Obj}{b:ON}{a:Option Ae}{c:Ev->Sem Fin}(x:P (gO d st b a c f p T m i g)):P st\/(kJ a=Ag/\P (d f (Ab (b,xE p a c)) (DF b) T m i g)):=by
 unfold gO at x;cases e:kJ a with
 |true=>rw[e] at x;exact .inr ⟨rfl,x⟩
 |false=>rw[e] at x;exact .inl x
end
variable {gi:Ae} in
structure HC (n:Nat)(oa:List Ai)(h₀ h:AS)(T:List Obj)(m:Nat)(O:List Obj):Prop where
 hz:h₀.objs.size=n
 size:h.objs.size=n+m
 len:T.length=m
 new:∀(k:Nat)(o:Obj),T[k]? =Ab o->h.get? (n+k)=Ab o
 gi:∀(k:Nat)(a:Ai)(o:Obj),oa[k]? =Ab a->O[k]? =Ab o->h.get? a=Ab o
 keep:∀b o,h₀.get? b=Ab o->oa[0]?≠Ab b->h.get? b=Ab o
 lt:∀a∈oa,a<n
 ne:∀(k:Nat)(a:Ai),oa[k]? =Ab a->oa[0]? =Ab a->k=0
section
theorem HC.alloc (D:HC n d c h T m f)(z:o.isFreed=Au):HC n d c (h.push o) (T++[o]) (m+1) f where
 hz:=D.hz
 size:=by rw[CU,D.size];rfl
 len:=by rw[AP,D.len];rfl
 new:=λ k s e=>by
  replace e:=Eq.trans (Eq.symm (List.getElem?_append)) e
  split at e
  ·exact AH _ (D.new k s e)
  ·rename_i q;have hk:k=m:=by
    rw[D.len] at q e;cases w:k-m with
    |zero=>exact EI (Nat.sub_eq_zero_iff_le.mp w) (B6.mp q)
    |succ j=>(first |exact Dn w e |obtain rfl:=A4 w e |cases Eq.trans (Eq.symm w) e |(rw[w] at e;contradiction))
   subst hk;rw[D.len,Nat.sub_self] at e;cases e;rw[<-D.size];exact AD _ z
 gi:=λ k a s A C=>AH _ (D.gi k a s A C)
 keep:=λ b s e q=>AH _ (D.keep b s e q)
 lt:=D.lt
 ne:=D.ne
theorem Wv {f:Obj->Obj}(e:h.get? a=Ab o)(k:(f o).isFreed=Au):(h.update a f).get? a=Ab (f o):=by
 first |exact B1 f e k |exact B1 _ e k
theorem NZ {f:Obj->Obj}(k:b≠a)(e:h.get? b=Ab o):(h.update a f).get? b=Ab o:=((BN h a f).2 b k).trans e
theorem HC.jo {T:List Obj}(D:HC n d c h T m g){f:Obj->Obj}(e:T[j]? =Ab o)(C:(f o).isFreed=Au):HC n d c (h.update (n+j) f) (T.set j (f o)) m g where
 hz:=D.hz
 size:=(BN h _ f).1.trans D.size
 len:=by simp only[List.length_set,D.len]
 new:=λ k w s=>by
  replace s:=Eq.trans (Eq.symm (List.getElem?_set)) s
  split at s
  ·rename_i q;subst q;split at s
   ·cases s;exact Wv (D.new _ o e) C
   ·contradiction
  ·rename_i q;exact NZ (λ z=>q (Nat.add_left_cancel z).symm) (D.new k w s)
 gi:=λ k a w A E=>NZ (Ct (Ao (D.lt a (Cp A)) (AR ..))) (D.gi k a w A E)
 keep:=λ b w A q=>NZ (Ct (Ao (D.hz▸AT A) (AR ..))) (D.keep b w A q)
 lt:=D.lt
 ne:=D.ne
theorem HC.jp {g:List Obj}(D:HC n d c h T m g){f:Obj->Obj}(w:d[0]? =Ab a)(e:g[0]? =Ab o)(E:(f o).isFreed=Au):HC n d c (h.update a f) T m (g.set 0 (f o)) where
 hz:=D.hz
 size:=(BN h _ f).1.trans D.size
 len:=D.len
 new:=λ k A H=>NZ (Dy (Ao (D.lt a (Cp w)) (AR ..))) (D.new k A H)
 gi:=λ k b A C s=>by
  replace s:=Eq.trans (Eq.symm (List.getElem?_set)) s
  split at s
  ·rename_i q;subst q;split at s
   ·cases s
    cases w.symm.trans C
    exact Wv (D.gi 0 a o w e) E
   ·contradiction
  ·rename_i q;exact NZ (λ z=>q (D.ne k b C (by rw[z];exact w)).symm) (D.gi k b A C s)
 keep:=λ b A C q=>NZ (λ z=>q (by subst z;exact w)) (D.keep b A C q)
 lt:=D.lt
 ne:=D.ne
theorem HC.at (D:HC n c b h T m d){G:Gv}(k:G.n=n)(s:G.oa=c){q:Ai×Obj}(e:Oh G x T d=Ab q):h.get? q.1=Ab q.2:=by
 unfold Oh at e;split at e
 ·split at e
  ·rename_i o w;cases e;exact k▸D.new _ o w
  ·cases e
 ·split at e
  ·rename_i a z;split at e
   ·rename_i o A;cases e;exact D.gi _ a o (s▸z) A
   ·contradiction
  ·cases e
theorem eW {G:Gv}{q:Ai×Obj}(k:Es x 100=Ag)(e:Oh G x T a=Ab q):q.1=G.n+x/\T[x]? =Ab q.2:=by
 unfold Oh at e
 replace e:=(k)▸e
 dsimp only at e;cases h:T[x]? with
 |none=>(first |exact Dn h e |obtain rfl:=A4 h e |cases Eq.trans (Eq.symm h) e |(replace e:=(h)▸e;contradiction))
 |some o=>(first |exact Dn h e |obtain rfl:=A4 h e |cases Eq.trans (Eq.symm h) e |(replace e:=(h)▸e;cases e));exact⟨rfl,rfl⟩
theorem eV {G:Gv}{q:Ai×Obj}(e:Oh G 100 T b=Ab q):G.oa[0]? =Ab q.1/\b[0]? =Ab q.2:=by
 replace e:(match G.oa[0]? with |some a=>(match b[0]? with |some o=>Ab (a,o) |none=>Ah) |none=>Ah)=Ab q:=e
 cases k:G.oa[0]? with
 |none=>(first |exact Dn k e |obtain rfl:=A4 k e |cases Eq.trans (Eq.symm k) e |(replace e:=(k)▸e;contradiction))
 |some a=>
  replace e:=(k)▸e
  dsimp only at e;cases h:b[0]? with
  |none=>(first |exact Dn h e |obtain rfl:=A4 h e |cases Eq.trans (Eq.symm h) e |(replace e:=(h)▸e;contradiction))
  |some o=>(first |exact Dn h e |obtain rfl:=A4 h e |cases Eq.trans (Eq.symm h) e |(replace e:=(h)▸e;cases e));exact⟨rfl,rfl⟩
theorem HC.ic {T:List Obj}{G:Gv}(D:HC G.n G.oa a h T m b){q:Ai×Obj}{f:Obj->Obj}(k:Es x 100=Ag)(e:Oh G x T b=Ab q)(o:(f q.2).isFreed=Au):HC G.n G.oa a (h.update q.1 f) (T.set x (f q.2)) m b:=by
 obtain⟨s,w⟩:=eW k e;rw[s];exact D.jo w o
theorem HC.ie {b:List Obj}{G:Gv}(D:HC G.n G.oa a h T m b){q:Ai×Obj}{f:Obj->Obj}(k:x=100)(e:Oh G x T b=Ab q)(o:(f q.2).isFreed=Au):HC G.n G.oa a (h.update q.1 f) T m (b.set 0 (f q.2)):=by
 subst k;obtain⟨s,w⟩:=eV e;exact D.jp s w o
end
variable {f:Ai} in
noncomputable def rN (r:Ev):Sem Fin:=match r with | .ok f=>.pure (.done f) | .error e=>.raise e
section
variable (prog:Fw)(w:World)(A:Dj)(Q:Fin->Aq->Prop)(E:I9)
variable {c:Ai} in
noncomputable def s9:Kt->Dj
 | .lg h _=>A.mark h
 | .ret c h _ k=>((s9 k).under c).mark h
variable {f:Ai} in
noncomputable def vN (s:Dj)(R:Ev->Aq->Prop):Fin->Aq->Prop:=λ h k=>match h with | .done f=>R (.ok f) k | .again o=>o.quiet=Ag/\Ep (model prog w) s o R k
variable {c:Ai} in
noncomputable def Za:Kt->Ev->Aq->Prop
 | .lg _ k=>λ r s=>Av (model prog w) A (k r) Q E s
 | .ret c _ k h=>λ r s=>wpOwn (model prog w) (s9 A h) c (k r) (vN prog w (s9 A h) (Za h)) (λ e o=>Za h (.error e) o) s
variable {q:Pos} in
noncomputable def Mn (p:Pl)(t:Sem Fin)(h:Aq):Prop:=match p with
 |none=>Av (model prog w) A t Q E h
 |some q=>wpOwn (model prog w) (s9 A q.2) q.1 t (vN prog w (s9 A q.2) (Za prog w A Q E q.2)) (λ e k=>Za prog w A Q E q.2 (.error e) k) h
variable {q:Pos} in
noncomputable def X! (p:Pl):Dj:=match p with
 |none=>A
 |some q=>(s9 A q.2).under q.1
end
section
variable {Q:Fin->Aq->Prop}
theorem Mn.dk {c:Type}{m:Sem c}{d:c->Sem Fin}(h:∀k,Av (model b w) (X! A p) m (λ a o=>Mn b w A Q E p (d a) o) k s):Mn b w A Q E p (m >>=d) s:=by
 cases p with
 |none=>exact Ac (h _)
 |some q=>exact wpOwn_bind (wpOwn_of_wpAny (h _))
theorem Mn.stack {b:List (ON×Pos)->Sem Fin}(k:∀st,PySem.W.X.Lies A st->Mn a w A Q E Ah (b st) s):Mn a w A Q E Ah (.stack b) s:=λ o p h=>k _ (X.lies_of h) o p h
theorem Mn.code (h:Mn a w A Q E (Ab (b,c)) (DF b) s):Ep (model a w) (s9 A c) b (Za a w A Q E c) s:=by
 rw[<-wU] at h;exact codeAny_of_own h
theorem Mn.call {k:Ev->Sem Fin}(o:kJ a=Ag)(C:Mn b w A Q E (Ab (c,xE p a k)) (DF c) s):Mn b w A Q E p (.call c a g l k) s:=by
 have h:a≠Ab byPass:=by rintro rfl;exact Bv o
 have z:=Mn.code C
 (try clear C;try clear o;try clear k;try clear l;try clear g;try clear a;try clear c)
 cases p with
 |none=>exact X.x_call z h
 |some q=>exact X.y_call _ _ _ _ _ _ _ _ _ _ _ _ _ h z
theorem Mn.ret {q:ON×Kt}(h:Za a w A Q E q.2 r s):Mn a w A Q E (Ab q) (rN r) s:=by
 cases r with
 |ok f=>exact λ _ _ _ _=>h
 |error e=>exact λ _ _ _ _=>h
theorem Mn.ig {i:Nat}{a:Fw}{p:Pl}{G:Gv}{b:Go}{st:Ot}{r:Ev}{d:List Nat}{m:Nat}{T e:List Obj}{P:Ot->Prop}(h:P (qH b st r d p T m i e))(H:p=Ah->P st->Mn a w A Q E p (rN r) s)
 (z:∀C(k:Ev->Sem Fin),P (b d C (k r) T m i e)->Mn a w A Q E C (k r) s):Mn a w A Q E p (rN r) s:=by
 cases p with
 |none=>exact H rfl h
 |some q=>
  refine Mn.ret ?_;obtain⟨c,o⟩:=q;cases o with
  |lg N k=>exact z Ah k h
  |ret c N k o=>exact z (Ab (c,o)) k h
end
structure OX (prog:Fw)(w:World)(A:Dj)(Q:Fin->Aq->Prop)(E:I9)(G:Gv)(h₀:AS)(g:Array CB)(d:M9)(os:GS)(o:Ot):Prop where
 ab:∀x∈o.ab,x.1=x.2
 cr:∀h,HC G.n G.oa h₀ h o.T o.m o.O->Mn prog w A Q E o.pl o.t ⟨h,g,d,G.t0+o.i,os⟩
section
variable {Q:Fin->Aq->Prop}
theorem OX.cy {a:Ai}{g:Array CB}{e:AS}{os:GS}{c:Fw}{G:Gv}{d:M9}{f:Ot}{b:Ai}(x:OX c w A Q E G e g d os (f.cy a b)):a=b/\OX c w A Q E G e g d os f:=⟨x.ab _ (.head _),λ y h=>x.ab y (.tail _ h),x.cr⟩
theorem P7 {g:Array CB}{c:AS}{os:GS}{b:Fw}{G:Gv}{d:M9}(u:G.prog=b/\G.ps=w.params):∀(z:Nat)(H:List Nat)(p:Pl)(t:Sem Fin)(T:List Obj)(m i:Nat)(O:List Obj)(h:AS),HC G.n G.oa c h T m O->OX b w A Q E G c g d os (vG G z H p t T m i O)->Mn b w A Q E p t ⟨h,g,d,G.t0+i,os⟩:=by
 intro z;induction z with
 |zero=>exact λ H p t T m i O h D x=>x.cr h D
 |succ n s=>
  intro H p t T m i O h D x
  replace x:OX b w A Q E G c g d os (eR G (vG G n) H p t T m i O):=x
  cases t with
  |pure W=>
   cases W with
   |done f=>exact Mn.ig (G:=G) (r:=.ok f) x (λ _ y=>y.cr h D) λ v k y=>s _ _ _ _ _ _ _ _ D y
   |again B=>
    rcases Tj (P:=OX b w A Q E G c g d os) x with x |⟨q,rfl,I,x⟩
    ·exact x.cr h D
    ·exact λ _ _ hc J=>⟨I,Mn.code (s _ _ _ _ _ _ _ _ D x)⟩
  |raise e=>exact Mn.ig (G:=G) (r:=.error e) x (λ _ y=>y.cr h D) λ v k y=>s _ _ _ _ _ _ _ _ D y
  |rule Z k=>exact Mn.dk (m:=rule Z) λ _=>NR (s _ _ _ _ _ _ _ _ D x)
  |«at» q k=>exact Mn.dk (m:=standAt q) λ _=>AZ (s _ _ _ _ _ _ _ _ D x)
  |point l k=>exact Mn.dk (m:=Sem.point l .pure) λ _=>λ _ _ _=>s _ _ _ _ _ _ _ _ D x
  |ask k=>
   obtain⟨rfl,e⟩:=u;exact Mn.dk (m:=ask) λ _=>wpAny_askSetting (e▸s _ _ _ _ _ _ _ _ D x)
  |load a q k=>
   rcases T7 (P:=OX b w A Q E G c g d os) x with x |⟨y,j,N,e,x⟩
   ·exact x.cr h D
   ·obtain⟨rfl,C⟩:=x.cy;exact Mn.dk (m:=loadPart N.1 q) λ _=>wpAny_loadPart (D.at rfl rfl e) (s _ _ _ _ _ _ _ _ D C)
  |alloc o k=>
   rcases Ti (P:=OX b w A Q E G c g d os) x with x |⟨V,x⟩
   ·exact x.cr h D
   ·exact Mn.dk (m:=alloc o) λ _=>OY (by rw[D.size];exact s _ _ _ _ _ _ _ _ (D.alloc V) x)
  |update a q f k=>
   rcases U4 (P:=OX b w A Q E G c g d os) x with x |⟨y,j,N,e,V,x⟩
   ·exact x.cr h D
   ·rcases Vq (P:=OX b w A Q E G c g d os) x with x |⟨r,x⟩ |⟨r,x⟩
    ·exact x.cr h D
    ·obtain⟨rfl,C⟩:=x.cy;exact Mn.dk (m:=updatePart N.1 q f) λ _=>MZ (D.at rfl rfl e) (s _ _ _ _ _ _ _ _ (D.ic r e V) C)
    ·obtain⟨rfl,C⟩:=x.cy;exact Mn.dk (m:=updatePart N.1 q f) λ _=>MZ (D.at rfl rfl e) (s _ _ _ _ _ _ _ _ (D.ie r e V) C)
  |fresh k=>exact Mn.dk (m:=fresh) λ _=>wpAny_fresh (s _ _ _ _ _ _ _ _ D x)
  |call B M R l k=>
   rcases UK (P:=OX b w A Q E G c g d os) x with x |⟨L,x⟩
   ·exact x.cr h D
   ·exact Mn.call L (s _ _ _ _ _ _ _ _ D x)
  |_=>exact x.cr h D
end
set_option genInjectivity false
set_option genSizeOfSpec false
inductive Wr {α:Type}(X:α):Type where |mk
noncomputable def gW {A:Prop}{a:Type}{X:a}(_:A->Wr X):Wr X:=⟨⟩
noncomputable def iT {a:Type}{X:a}(_:Wr X):a:=X
noncomputable def rb (a b:Ae):Bool:= @BEq.beq Ae (@instBEqOfDecidableEq Ae AJ) a b
theorem jU (a b:Ae):@BEq.beq Ae (@instBEqOfDecidableEq Ae AJ) a b=rb a b:=rfl
theorem bA (a b:Ae):@bne Ae (@instBEqOfDecidableEq Ae AJ) a b= !(rb a b):=rfl
noncomputable def itb {a:Type}(b:Bool)(x y:a):a:= @ite a (b=Ag) (instDecidableEqBool b Ag) x y
theorem dR {c:Type}(a b:Ae)(x y:c):@ite c (@BEq.beq Ae (@instBEqOfDecidableEq Ae AJ) a b=Ag) (instDecidableEqBool (@BEq.beq Ae (@instBEqOfDecidableEq Ae AJ) a b) Ag) x y=itb (@BEq.beq Ae (@instBEqOfDecidableEq Ae AJ) a b) x y:=rfl
theorem YF {c:Type}(a b:Ae)(x y:c):@ite c (@bne Ae (@instBEqOfDecidableEq Ae AJ) a b=Ag) (instDecidableEqBool (@bne Ae (@instBEqOfDecidableEq Ae AJ) a b) Ag) x y=itb (@bne Ae (@instBEqOfDecidableEq Ae AJ) a b) x y:=rfl
theorem YE {d:Type}(a b c:Ae)(r:Bool)(x y:d):@ite d ((@BEq.beq Ae (@instBEqOfDecidableEq Ae AJ) a b||r)=Ag) (instDecidableEqBool (@BEq.beq Ae (@instBEqOfDecidableEq Ae AJ) a b||r) Ag) x y=itb (@BEq.beq Ae (@instBEqOfDecidableEq Ae AJ) a b||r) x y:=rfl
theorem dQ {a:Type}(l:List Ae)(v:Ae)(r:Bool)(x y:a):@ite a ((r|| @PySem.W.Fast.tw3471404346716756564 Ae (@instBEqOfDecidableEq Ae AJ) l v)=Ag) (instDecidableEqBool (r|| @PySem.W.Fast.tw3471404346716756564 Ae (@instBEqOfDecidableEq Ae AJ) l v) Ag) x y=itb (r|| @PySem.W.Fast.tw3471404346716756564 Ae (@instBEqOfDecidableEq Ae AJ) l v) x y:=rfl
variable {y:Str} in
noncomputable def jm (j:Nat->Nat->Bool)(a b:Ae):Bool:=match a with
 | .ref x=>(match b with
   | .ref y=>j x y
   |_=>Au)
 |_=>rb a b
theorem aZ (a b:Ae):rb a b=decide (a=b):=by
 show@decide (a=b) (AJ a b)=_;exact decide_eq_decide.mpr Iff.rfl
theorem rR:jm Nat.beq=rb:=by
 refine funext λ a=>funext λ b=>?_;cases a with
 |ref x=>
  cases b with
  |ref y=>
   show Nat.beq x y=rb (.ref x) (.ref y);rw[aZ,BT.beq_eq];exact decide_eq_decide.mpr ⟨λ e=>congrArg _ e,λ e=>Value.ref.inj e⟩
  |_=>exact((aZ _ _).trans (decide_eq_false λ e=>by cases e)).symm
 |_=>rfl
noncomputable def UD (l:List Ae)(v:Ae):Bool:= @PySem.W.Fast.tw3471404346716756564 Ae (@instBEqOfDecidableEq Ae AJ) l v
theorem gM (l:List Ae)(v:Ae):@PySem.W.Fast.tw3471404346716756564 Ae (@instBEqOfDecidableEq Ae AJ) l v=UD l v:=rfl
noncomputable def mT (h:Ae)(k:List Ae):List Ae:=PySem.W.R.filterR (λ x=> @bne Ae (@instBEqOfDecidableEq Ae AJ) x h) k
noncomputable def WR (c:Ae):Sem (Option Ae):=PySem.W.Fast.tw5634887268946762882 c
theorem kY (c:Ae):PySem.W.Fast.tw5634887268946762882 c=WR c:=rfl
noncomputable def VH (l:List Ae):Sem (List Ae):=PySem.W.Fast.tw5811856771081047543 l PySem.W.Fast.tw9541985092090588186
theorem lK (l:List Ae):PySem.W.Fast.tw5811856771081047543 l PySem.W.Fast.tw9541985092090588186=VH l:=rfl
noncomputable def pM (g:Ae->Sem Bool)(h:Ae)(k:List Ae):Sem Bool:= @List.anyM Sem Ex Ae g (mT h k)
theorem Xy (g:Ae->Sem Bool)(h:Ae)(k:List Ae):@List.anyM Sem Ex Ae g (PySem.W.R.filterR (λ x=> @bne Ae (@instBEqOfDecidableEq Ae AJ) x h) k)=pM g h k:=rfl
noncomputable def S! (J:Ae->List Ae->Sem Bool){g:Ae->Sem Bool}(_:pM g=J->Wr g):Wr g:=⟨⟩
noncomputable def gE:Ae->Sem Bool:=by
 apply iT
 focus
  have e:Wr GD:=⟨⟩
  delta PySem.W.Fast.tw4202317264376624991 at e
  dsimp (config:={zeta:=Au,proj:=Au,iota:=Au,beta:=Au,eta:=Au}) only[Xy] at e;apply S! λ _ _=>.pure Au;intro h;rw[h] at e;exact⟨⟩
noncomputable def xG (a:Ae->Sem (Option Ae))(b:List Ae->Sem (List Ae))(j:Ae->List Ae->Sem Bool):Jw:=by
 apply iT;apply gW (A:=WR=a)
 focus
  intro h;apply gW (A:=VH=b);intro k;apply gW (A:=∀g,pM g=j);intro o;have e:Wr GD:=⟨⟩
  delta PySem.W.Fast.tw4202317264376624991 at e
  dsimp (config:={zeta:=Au,proj:=Au,iota:=Au,beta:=Au,eta:=Au}) only[Xy,kY,lK] at e;rw[h,k,o] at e;refine(?f:∀(Y:Jw),Wr Y->Wr Y) _ e;exact λ _ _=>⟨⟩
theorem xF:GD=xG WR VH (pM gE):=by kernel_rfl
noncomputable def yP (j:Ae->Ae->Bool):Jw:=by
 apply iT;apply gW (A:=rb=j)
 focus
  intro h;have e:Wr @PySem.W.Fast.tw1054471737866971170:=⟨⟩
  delta PySem.W.Fast.tw1054471737866971170 at e
  dsimp (config:={zeta:=Au,proj:=Au,iota:=Au,beta:=Au,eta:=Au}) only[dR,YF,YE] at e;dsimp (config:={zeta:=Au,proj:=Au,iota:=Au,beta:=Au,eta:=Au}) only[jU,bA] at e;rw[h] at e;refine(?f:∀(Y:Jw),Wr Y->Wr Y) _ e;exact λ _ _=>⟨⟩
theorem yO:@PySem.W.Fast.tw1054471737866971170=yP rb:=by kernel_rfl
noncomputable def pX (j:List Ae->Ae->Bool):Ae->Ae->Sem Bool:=by
 apply iT;apply gW (A:=UD=j)
 focus
  intro h;have e:Wr @PySem.W.Fast.tw16098473122060591676:=⟨⟩
  delta PySem.W.Fast.tw16098473122060591676 at e
  dsimp (config:={zeta:=Au,proj:=Au,iota:=Au,beta:=Au,eta:=Au}) only[dQ] at e;dsimp (config:={zeta:=Au,proj:=Au,iota:=Au,beta:=Au,eta:=Au}) only[gM] at e;rw[h] at e;refine(?f:∀(Y:Ae->Ae->Sem Bool),Wr Y->Wr Y) _ e;exact λ _ _=>⟨⟩
theorem wY:@PySem.W.Fast.tw16098473122060591676=pX UD:=by kernel_rfl
noncomputable def ZJ:Ae->Ae->Sem Bool:=LS
theorem XJ (a b:Ae):LS a b=ZJ a b:=rfl
noncomputable def xS (j:Ae->Ae->Sem Bool):Ae->Ae->Sem Ae:=by
 apply iT;apply gW (A:=ZJ=j)
 focus
  intro h;have e:Wr @PySem.W.Fast.tw1166467894219422925:=⟨⟩
  delta PySem.W.Fast.tw1166467894219422925 at e
  dsimp (config:={zeta:=Au,proj:=Au,iota:=Au,beta:=Au,eta:=Au}) only[XJ] at e;rw(occs:=.pos [3]) [h] at e;refine(?f:∀(Y:Ae->Ae->Sem Ae),Wr Y->Wr Y) _ e;exact λ _ _=>⟨⟩
theorem xR:@PySem.W.Fast.tw1166467894219422925=xS ZJ:=by kernel_rfl
noncomputable def xT:Ae->Ae->Sem Ae:=L6
theorem jN (a b:Ae):L6 a b=xT a b:=rfl
noncomputable def xQ (j:Ae->Ae->Sem Ae):Jw:=by
 apply iT;apply gW (A:=xT=j)
 focus
  intro h;have e:Wr @PySem.W.Fast.tw13830915341099135465:=⟨⟩
  delta PySem.W.Fast.tw13830915341099135465 at e
  dsimp (config:={zeta:=Au,proj:=Au,iota:=Au,beta:=Au,eta:=Au}) only[jN] at e;rw[h] at e;refine(?f:∀(Y:Jw),Wr Y->Wr Y) _ e;exact λ _ _=>⟨⟩
theorem xP:@PySem.W.Fast.tw13830915341099135465=xQ xT:=by kernel_rfl
noncomputable def SN (a b:Ae):Bool:=DE a b
theorem cH (a b:Ae):DE a b=SN a b:=rfl
theorem dP {c:Type}(a b:Ae)(r h:Bool)(x y:c):@ite c ((DE a b||r||h)=Ag) (instDecidableEqBool (DE a b||r||h) Ag) x y=itb (DE a b||r||h) x y:=rfl
noncomputable def yT (j:Ae->Ae->Bool):Ae->Ae->Ae->Sem Fin:=by
 apply iT;apply gW (A:=SN=j)
 focus
  intro h;have e:Wr @PySem.W.Fast.tw8938917530802602619:=⟨⟩
  delta PySem.W.Fast.tw8938917530802602619 at e
  dsimp (config:={zeta:=Au,proj:=Au,iota:=Au,beta:=Au,eta:=Au}) only[dP] at e;dsimp (config:={zeta:=Au,proj:=Au,iota:=Au,beta:=Au,eta:=Au}) only[cH] at e;rw[h] at e;refine(?f:∀(Y:Ae->Ae->Ae->Sem Fin),Wr Y->Wr Y) _ e;exact λ _ _=>⟨⟩
theorem yS:@PySem.W.Fast.tw8938917530802602619=yT SN:=by kernel_rfl
noncomputable def yU:Ae->Ae->Ae->Sem Fin:=L5
theorem nE (a b c:Ae):L5 a b c=yU a b c:=rfl
noncomputable def yI (j:Ae->Ae->Ae->Sem Fin):Jw:=by
 apply iT;apply gW (A:=yU=j)
 focus
  intro h;have e:Wr @PySem.W.Fast.tw5741333931599015106:=⟨⟩
  delta PySem.W.Fast.tw5741333931599015106 at e
  dsimp (config:={zeta:=Au,proj:=Au,iota:=Au,beta:=Au,eta:=Au}) only[nE] at e;rw[h] at e;refine(?f:∀(Y:Jw),Wr Y->Wr Y) _ e;exact λ _ _=>⟨⟩
theorem yH:@PySem.W.Fast.tw5741333931599015106=yI yU:=by kernel_rfl
noncomputable def ez:Sem Unit:=Ew 0
theorem nA:Ew 0=ez:=rfl
noncomputable def zK (j:Sem Unit):Str->Str->List Ae->List (Str×Ae)->List Bq->Bf->List Str->Nat->Env->Pos->Option Ae->Sem Ae:=by
 apply iT;apply gW (A:=ez=j)
 focus
  intro h;have e:Wr @PySem.W.Fast.tw1785580099245652887:=⟨⟩
  delta PySem.W.Fast.tw1785580099245652887 at e
  dsimp (config:={zeta:=Au,proj:=Au,iota:=Au,beta:=Au,eta:=Au}) only[nA] at e;rw[h] at e;refine(?f:∀(Y:Str->Str->List Ae->List (Str×Ae)->List Bq->Bf->List Str->Nat->Env->Pos->Option Ae->Sem Ae),Wr Y->Wr Y) _ e;exact λ _ _=>⟨⟩
theorem s7:@PySem.W.Fast.tw1785580099245652887=zK ez:=by kernel_rfl
noncomputable def B? (K:List (ON×Pos)->Nat->Sem Unit):Sem Unit:=C3 stack λ st=>C3 PySem.W.Fast.tw2211186353215096513 λ l=>K st l
noncomputable def R? {K:List (ON×Pos)->Nat->Sem Unit}(_:Ew 0=B? K):Wr K:=⟨⟩
noncomputable def w4:List (ON×Pos)->Nat->Sem Unit:=by
 apply iT;apply R?;unfold B?;rfl
noncomputable def Tq (st:List (ON×Pos)):Sem Unit:=C3 PySem.W.Fast.tw2211186353215096513 λ l=>w4 st l
theorem pG:ez=C3 stack Tq:=by kernel_rfl
variable {n:Nat} in
noncomputable def uT:Nat->Expr->List (Pos×Nat)
 |0,_=>[]
 |n+1,e=>(JC e).es.flatMap (uT n)++(JC e).ks.flatMap (λ q=>uT n q.value++[(q.pos,0)])++(JC e).gs.flatMap (λ g=>(g.target::g.iter::g.ifs).flatMap (uT n))++[((JC e).p,(JC e).k)]
variable {n:Nat}{q:Pos}{t:Expr}{p:Evs} in
noncomputable def xU:Nat->Bq->List (Pos×Nat)
 |0,_=>[]
 |n+1,s=>(Ip s).es.flatMap (uT n)++(Ip s).bs.flatMap (λ b=>b.flatMap (xU n))++(Ip s).hs.flatMap (λ h=>match h with | .ExceptHandler t _ q p=>t.toList.flatMap (uT n)++q.flatMap (xU n)++[(p,0)])++[((Ip s).p,0)]
noncomputable def u3 (i:Nat):Pos:=⟨i,999999,0,0⟩
noncomputable def wZ (b:List Bq):List (Pos×Nat):=b.flatMap (xU 20)
noncomputable def Nk (h:(Nat->Pos)->List Bq)(k:List Bq)(i:Nat):Pos:=
 (((wZ (h u3)).zip (wZ k)).find? λ q=>q.1.1.line==i&&q.1.1.col==999999).elim ⟨0,0,0,0⟩ λ q=>q.2.1
noncomputable def uV (h:(Nat->Nat)->List Bq)(k:List Bq)(i:Nat):Nat:=
 (((wZ (h λ i=>i+1000000)).zip (wZ k)).find? λ q=>q.1.2==i+1000000).elim 0 λ q=>q.2.2
noncomputable def Tg (_:Params->Frag)(_:List Ai):Prop:=True
section
local macro_rules (kind := PySem.W.tacticO_head_) | s => `(tactic| cases ‹¬Tg $(⟨s[1][1][1][0]⟩) $(⟨s[1][1][1][1]⟩)› trivial)
noncomputable def hk:Σ' (K:Params->Frag) (h:List Ai),¬Tg K h->(OpenLaw.row PySem.Challenge.rw_oy0180_02).Holds:=⟨_,_,λ f=>by w_on;k_head⟩
end
noncomputable def F7 {b:Type} [BEq b] (h:b->b->Bool)(left:List b):List b:=(left.filter λ n=>!left.any λ a=>h a n).take 2
noncomputable def F6 {a:Type} [BEq a] (h:a->a->Bool)(left:List a):List a:=left.filter λ n=>!(F7 h left).contains n
variable {r:List Bq}{t:Expr} in
noncomputable def DT {a:Type} [BEq a] (h:a->a->Bool):Nat->List a->Nat×List a
 |0,left=>(0,left)
 |t+1,left=>let r:=DT h t (F6 h left);(if(F7 h left).isEmpty then r.1 else r.1+1,r.2)
variable {a:Ai} in
noncomputable def Ku:List Nat->List Nat->Bool
 |[],_=>Au
 |_::_,[]=>Ag
 |a::h,b::k=>if a==b then Ku h k else Es b a
noncomputable def rm (u p q:Nat):Bool:=Es p 6&&(Es q 6&&u.testBit (6*p+q))
noncomputable def EA (r:Nat->Nat->Bool)(p q:Nat):Bool:=r p q&&!(Ap 6).any λ c=>r p c&&r c q
noncomputable def Uy (r:Nat->Nat->Bool)(p:Nat):List Nat:=((Ap 6).filter (EA r p)).map (6-·)
noncomputable def OS (r:Nat->Nat->Bool)(p:Nat):Bool:=!Ku (Uy r (p+1)) (Uy r p)
noncomputable def JJ (r:Nat->Nat->Bool)(S x:Nat):Bool:=!S.testBit x&&(Ap 6).all λ p=>!r p x||S.testBit p
variable {S:Nat}{m:Str->Option Ae} in
noncomputable def Zj (r:Nat->Nat->Bool):Nat->Nat->Bool
 |0,S=>S==63
 |m+1,S=>S==63||(Ap 6).any λ x=>JJ r S x&&(Ap 6).any λ y=>Nat.ble x y&&JJ r S y&&Zj r m (S|||2^x|||2^y)
variable {t:Expr} in
noncomputable def cQ (r:Nat->Nat->Bool):Bool:=let t:=DT (EA r) 6 [0,1,2,3,4,5];t.2.isEmpty&&Es 0 t.1&&(Nat.beq t.1 3||!Zj r (t.1-1) 0)
noncomputable def UE (u m:Nat):Bool:=(Ap 6).all λ q=>!m.testBit q||(Ap 6).all λ t=>!rm u q t||m.testBit t
variable {v:Ae}{p:Evs} in
noncomputable def Kv:Nat->Nat->Bool
 |0,u=>cQ (rm u)
 |p+1,u=>(Ap (2^(5-p))).all λ k=>!UE u (k*2^(p+1))||(let v:=u+(k*2^(p+1))*2^(6*p);!OS (rm v) p||Kv p v)
theorem tZ (h:∀k<2^(5-p),UE u (k*2^(p+1))=Au\/OS (rm (u+k*2^(p+1)*2^(6*p))) p=Au\/Kv p (u+k*2^(p+1)*2^(6*p))=Ag):Kv (p+1) u=Ag:=AQ.mpr λ k hk=>by
 rcases h k (As.mp hk) with q |q |q
 ·rw[q];rfl
 ·simp only[q];exact Jx _
 ·simp only[q];rw[Jx,Jx]
theorem W! :Kv 1 0=Ag:=by decide+kernel
theorem V? :Kv 1 256=Ag:=by decide+kernel
theorem V! :Kv 1 512=Ag:=by decide+kernel
theorem V':Kv 1 768=Ag:=by decide+kernel
theorem U? :Kv 1 1024=Ag:=by decide+kernel
theorem U! :Kv 1 1280=Ag:=by decide+kernel
theorem U':Kv 1 1536=Ag:=by decide+kernel
theorem T? :Kv 1 1792=Ag:=by decide+kernel
theorem T! :Kv 1 2048=Ag:=by decide+kernel
theorem S? :Kv 1 2304=Ag:=by decide+kernel
theorem zG:Kv 1 2560=Ag:=by decide+kernel
theorem zF:Kv 1 2816=Ag:=by decide+kernel
theorem zE:Kv 1 3072=Ag:=by decide+kernel
theorem zC:Kv 1 3328=Ag:=by decide+kernel
theorem zB:Kv 1 3584=Ag:=by decide+kernel
theorem zA:Kv 1 3840=Ag:=by decide+kernel
theorem y9:Kv 2 32768=Ag:=by decide+kernel
theorem y8:Kv 2 65536=Ag:=by decide+kernel
theorem y7:Kv 2 98304=Ag:=by decide+kernel
theorem y6:Kv 2 131072=Ag:=by decide+kernel
theorem y5:Kv 2 163840=Ag:=by decide+kernel
theorem y4:Kv 2 196608=Ag:=by decide+kernel
theorem y0:Kv 2 229376=Ag:=by decide+kernel
theorem yZ:Kv 3 4194304=Ag:=by decide+kernel
theorem yY:Kv 3 8388608=Ag:=by decide+kernel
theorem yX:Kv 3 12582912=Ag:=by decide+kernel
theorem yW:Kv 3 545259520=Ag:=by decide+kernel
theorem yV:Kv 3 549453824=Ag:=by decide+kernel
theorem sP:Kv 6 0=Ag:=(tZ (Fc Kr (.inr (.inr (tZ (Fc (Fc Kr (.inr (.inr (tZ (Fc (Fc (Fc (Fc Kr (.inr (.inr (tZ (Fc (Fc (Fc (Fc (Fc (Fc (Fc (Fc Kr (.inr (.inr (tZ (Fc (Fc (Fc (Fc (Fc (Fc (Fc (Fc (Fc (Fc (Fc (Fc (Fc (Fc (Fc (Fc Kr (.inr (.inr W!))) (.inr (.inr V?))) (.inr (.inr V!))) (.inr (.inr V'))) (.inr (.inr U?))) (.inr (.inr U!))) (.inr (.inr U'))) (.inr (.inr T?))) (.inr (.inr T!))) (.inr (.inr S?))) (.inr (.inr zG))) (.inr (.inr zF))) (.inr (.inr zE))) (.inr (.inr zC))) (.inr (.inr zB))) (.inr (.inr zA))))))) (.inr (.inr y9))) (.inr (.inr y8))) (.inr (.inr y7))) (.inr (.inr y6))) (.inr (.inr y5))) (.inr (.inr y4))) (.inr (.inr y0))))))) (.inr (.inr yZ))) (.inr (.inr yY))) (.inr (.inr yX))))))) (.inr (.inr (tZ (Fc (Fc (Fc (Fc Kr (.inr (.inl rfl))) (.inl rfl)) (.inr (.inr yW))) (.inr (.inr yV))))))))))))
variable {l:List Env} in
noncomputable def Iu:List Bool->Nat
 |[]=>0
 |b::l=>b.toNat+2*Iu l
theorem fV:Kv (p+1) u=(Ap (2^(5-p))).all λ k=>!UE u (k*2^(p+1))||(!OS (rm (u+(k*2^(p+1))*2^(6*p))) p||Kv p (u+(k*2^(p+1))*2^(6*p))):=rfl
theorem RU:Iu []=0:=rfl
theorem Hz {b:Bool}:Iu (b::l)=b.toNat+2*Iu l:=rfl
theorem RV:∀(l:List Bool)(n:Nat),(Iu l).testBit n=l.getD n Au:=by
 intro l;induction l with
 |nil=>exact Nat.zero_testBit
 |cons b l h=>
  intro n;cases n with
  |zero=>rw[Hz,Nat.testBit_zero,Nat.add_mul_mod_self_left];cases b<;>rfl
  |succ n=>?_
  have e:Iu (b::l)/2=Iu l:=by rw[Hz,Nat.add_mul_div_left _ _ (by decide)];cases b<;>exact Cs _
  rw[Nat.testBit_succ,e,h n];rfl
theorem Ta:∀a b:List Bool,Iu (a++b)=Iu a+2^a.length*Iu b:=by
 intro a;induction a with
 |nil=>
  intro b;simp[RU]
 |cons x a h=>
  intro b;rw[Ee,Hz,h b,Hz,Ec,Nat.pow_succ,Nat.mul_add,<-KY,Nat.mul_comm 2 (2^a.length),Et]
theorem gU:∀a:List Bool,Iu a<2^a.length:=by
 intro a;induction a with
 |nil=>
  simp[RU]
 |cons x a h=>
  rw[Hz,Ec,Nat.pow_succ,Nat.mul_comm _ 2];exact Ao (Nat.add_lt_add_right x.toNat_lt _) (Aa (Az (DQ 2 _)) (FF 2 h))
theorem Jh:∀(n:Nat)(a:List Bool),Iu (Bg n Au++a)=Iu a*2^n:=by
 intro n;induction n with
 |zero=>
  intro a;simp
 |succ n h=>
  intro a;rw[List.replicate_succ,Ee,Hz,h a,Nat.pow_succ];rw[Cs,Nat.mul_comm 2,KY]
theorem NM {P:Nat->Prop}(k:P 0)(o:P 1)(s:P 2)(w:P 3)(z:P 4)(A:P 5):∀i<6,P i
 |0,_=>k |1,_=>o |2,_=>s |3,_=>w |4,_=>z |5,_=>A
  |n+6,h=>by exact Hj (El h (Ak (BZ 6) n))
theorem u5 {g:Type}{P:List g->Prop}(h:∀a b c d e f:g,P [a,b,c,d,e,f]):∀l:List g,l.length=6->P l:=
 QQ λ a=>QQ λ b=>QQ λ c=>QQ λ d=>QQ λ e=>QQ λ f l k=>by rw[FG.mp k];exact h a b c d e f
theorem wC (h:¬a<b):Es a b=Au:=by
 cases q:Es a b with
 |false=>rfl
 |true=>exact absurd (DP.mp q) h
section
noncomputable def OP (r:Nat->Nat->Bool)(i:Nat):List Bool:=[r i 0,r i 1,r i 2,r i 3,r i 4,r i 5]
variable {i n:Nat} in
noncomputable def Ri (r:Nat->Nat->Bool):Nat->Nat->List Bool
 |0,_=>[]
 |n+1,i=>OP r i++Ri r n (i+1)
noncomputable def KC (r:Nat->Nat->Bool)(p:Nat):Nat:=Iu (Bg (6*p) Au++Ri r (6-p) p)
structure Zt (r:Nat->Nat->Bool):Prop where
 jw:∀p q,r p q=Ag->p<q
 six:∀p q,r p q=Ag->q<6
 tr:∀p q s,r p q=Ag->r q s=Ag->r p s=Ag
theorem Vn {r:Nat->Nat->Bool}(s:Zt r):∀p<7,∀i j,rm (KC r p) i j=(r i j&&Nat.ble p i):=by
 have w:∀p<7,∀i<6,∀j<6,(Bg (6*p) Au++Ri r (6-p) p).getD (6*i+j) Au=(r i j&&Nat.ble p i):=by
  intro p z;have h:∀p<6,∀i<6,∀j<6,(Bg (6*p) Au++Ri r (6-p) p).getD (6*i+j) Au=(r i j&&Nat.ble p i):=by
   have f:∀b,Au=(b&&Au):=λ b=>(H8 b).symm;refine NM ?_ ?_ ?_ ?_ ?_ ?_<;>refine NM ?_ ?_ ?_ ?_ ?_ ?_<;>refine NM ?_ ?_ ?_ ?_ ?_ ?_<;>first |exact(λ b=>(ES b).symm) _ |exact f _
  by_cases q:p<6
  ·exact h p q
  ·have:=EI (A7 z) (By q);subst this;refine NM ?_ ?_ ?_ ?_ ?_ ?_<;>refine NM ?_ ?_ ?_ ?_ ?_ ?_<;>exact(λ b=>(H8 b).symm) _
 intro p z i j;unfold rm KC;rw[RV];by_cases k:i<6
 ·by_cases o:j<6
  ·rw[w p z i k j o,show Es i 6=Ag from DP.mpr k,show Es j 6=Ag from DP.mpr o];rfl
  ·have:r i j=Au:=by
    cases q:r i j with
    |false=>rfl
    |true=>exact absurd (s.six _ _ q) o
   rw[this,wC o];simp
 ·have:r i j=Au:=by
   cases q:r i j with
   |false=>rfl
   |true=>exact absurd (Cu (s.jw _ _ q) (s.six _ _ q)) k
  rw[this,wC k];simp
theorem Ze {r:Nat->Nat->Bool}{d:Nat->Nat->Bool}(h:∀q,d p q=r p q)(k:∀c,r p c=Ag->∀q,d c q=r c q):EA d p=EA r p:=by
 funext q
 unfold EA;rw[h];congr 2;apply BH.mpr;simp only[B8,AG];constructor
 ·rintro⟨c,hc,a,b⟩;rw[h] at a;exact⟨c,hc,a,by rw[<-k c a];exact b⟩
 ·rintro⟨c,hc,a,b⟩;exact⟨c,hc,by rw[h];exact a,by rw[k c a];exact b⟩
theorem nI {r:Nat->Nat->Bool}(s:Zt r)(w:∀p<5,OS r p=Ag):∀p<6,Kv (p+1) (KC r (p+1))=Ag->Kv p (KC r p)=Ag:=by
 intro p A h;have C:∀j,j<=p->r p j=Au:=λ j Z=>by
  cases q:r p j with
  |false=>rfl
  |true=>have:=s.jw _ _ q;exact Hj (El Z this)
 obtain⟨k,hk,em⟩:∃k<2^(5-p),Iu (OP r p)=k*2^(p+1):=by
  have e:OP r p=Bg (p+1) Au++(OP r p).drop (p+1):=by
   have e:(OP r p).take (p+1)=Bg (p+1) Au:=List.eq_replicate_iff.mpr ⟨(Dd).trans (Dz A),λ b a=>by
    obtain⟨i,o,rfl⟩:=Cq.mp a;rw[Dd] at o;rw[HY];exact(NM (P:=λ i=>∀h:i<6,(OP r p)[i]'h=r p i) (λ _=>rfl) (λ _=>rfl) (λ _=>rfl) (λ _=>rfl) (λ _=>rfl) (λ _=>rfl) i (Mt.mp o).2 _).trans (C i (A7 (Mt.mp o).1))⟩
   rw[<-e,E4]
  refine⟨Iu ((OP r p).drop (p+1)),?_,?_⟩
  ·have:=gU ((OP r p).drop (p+1));rw[GT,show(OP r p).length=6 from rfl,show 6-(p+1)=5-p from Nat.succ_sub_succ 5 p] at this;exact this
  ·rw[<-Jh,<-e]
 have d:KC r p=KC r (p+1)+k*2^(p+1)*2^(6*p):=by
  unfold KC;rw[Jh,Jh];rw[show 6-p=(6-(p+1))+1 from(Nat.succ_pred_eq_of_pos (Nat.sub_pos_of_lt A)).symm,show Ri r ((6-(p+1))+1) p=OP r p++Ri r (6-(p+1)) (p+1) from rfl,Ta,em,show(OP r p).length=6 from rfl,Nat.add_mul,DQ];congr 1;rw[show 6*(p+1)=6+6*p by exact DQ (Nat.mul 6 p) 6,Nat.pow_add,Nat.mul_comm (2^6),KY]
 rw[fV] at h;have H:=AQ.mp h k (As.mpr hk);have E:∀q,q<6->(k*2^(p+1)).testBit q=r p q:=λ q N=>by
  rw[<-em,RV];exact NM (P:=λ q=>(OP r p).getD q Au=r p q) rfl rfl rfl rfl rfl rfl q N
 have hc:UE (KC r (p+1)) (k*2^(p+1))=Ag:=by
  unfold UE;refine AQ.mpr λ q N=>?_;have O:=As.mp N;rw[E q O];cases f:r p q with
  |false=>rfl
  |true=>
   refine AQ.mpr λ t g=>?_;have Q:=As.mp g;rw[E t Q,Vn s (p+1) (IK A)];cases l:r q t with
   |false=>rfl
   |true=>rw[s.tr p q t f l];simp
 rw[hc,<-d] at H;have m:OS (rm (KC r p)) p=Ag:=by
  have n:=Vn s p (Ao A (of_decide_eq_true (id (Cx Ag))));have V:∀i,p<=i->∀q,rm (KC r p) i q=r i q:=λ i o q=>by rw[n,DP.mpr o,ES]
  have W:∀i,p<=i->EA (rm (KC r p)) i=EA r i:=λ i o=>Ze (V i o) λ c hc=>V c (AX (Ay o (s.jw _ _ hc)));have e:OS (rm (KC r p)) p=OS r p:=by
   unfold OS Uy;rw[W p (An _),W (p+1) (AR p 1)]
  rw[e];by_cases q:p<5
  ·exact w p q
  ·have:p=5:=EI (A7 A) (By q);subst this;have u:∀q,r 6 q=Au:=λ q=>by
    cases z:r 6 q with
    |false=>rfl
    |true=>exact absurd (Cu (s.jw _ _ z) (s.six _ _ z)) (EW 6)
   unfold OS Uy;have:(Ap 6).filter (EA r 6)=[]:=DL.mpr λ q _=>by unfold EA;rw[u];simp
   rw[this];rfl
 simp only[m,KQ,Bool.false_or] at H;exact H
theorem sW {r:Nat->Nat->Bool}(o:Zt r)(k:∀p<5,OS r p=Ag):(DT (EA r) 6 [0,1,2,3,4,5]).2=[]/\0<(DT (EA r) 6 [0,1,2,3,4,5]).1/\((DT (EA r) 6 [0,1,2,3,4,5]).1=3\/Zj r ((DT (EA r) 6 [0,1,2,3,4,5]).1-1) 0=Au):=by
 have w:Kv 6 (KC r 6)=Ag:=by
  have:KC r 6=0:=by
   unfold KC;rw[Jh];exact Nat.zero_mul _
  rw[this];exact sP
 have s:=nI o k;have h:=s 0 (Ak (BZ 0) 5) (s 1 (Ak (BZ 1) 4) (s 2 (Ak (BZ 2) 3) (s 3 (Ak (BZ 3) 2) (s 4 (Ak (BZ 4) 1) (s 5 (An (BZ 5)) w)))));have e:rm (KC r 0)=r:=by
  funext i j
  rw[Vn o 0 (Ak (BZ 0) 6),DP.mpr (AY _),ES]
 rw[show Kv 0 (KC r 0)=cQ (rm (KC r 0)) from rfl,e] at h;unfold cQ at h;simp only[AG,CV,CZ,De] at h;exact⟨h.1.1,DP.mp h.1.2,h.2.imp Nat.eq_of_beq_eq_true id⟩
end
noncomputable def VD (r:Nat->Nat->Bool)(D:List Nat)(x:Nat):Prop:=x<6/\x∉D/\∀p<6,r p x=Ag->p∈D
variable {y:Str}{l:List Env} in
noncomputable def JH (r:Nat->Nat->Bool):List Nat->List (Nat×Nat)->Prop
 |D,[]=>∀x<6,x∈D
 |D,(x,y)::l=>VD r D x/\VD r D y/\JH r (x::y::D) l
theorem Zi {r:Nat->Nat->Bool}:Zj r (m+1) S=(S==63||(Ap 6).any λ x=>JJ r S x&&(Ap 6).any λ y=>Nat.ble x y&&JJ r S y&&Zj r m (S|||2^x|||2^y)):=rfl
theorem Nq {a:Type} [DecidableEq a]:∀{l E:List a},l.Nodup->(∀x∈l,x∈E)->l.length<=E.length:=by
 intro l;induction l with
 |nil=>exact λ _ _=>AY _
 |cons x l w=>
  intro E h k;have o:=k x Ad;have:=w (Bz.mp h).2 λ y s=>(List.mem_erase_of_ne (show y≠x from λ q=>(Bz.mp h).1 (q▸s))).mpr (k y (Af _ s));rw[List.length_erase_of_mem o] at this;exact Nat.add_le_of_le_sub (Ma o) this
section
noncomputable def J6 (D:List Nat)(S:Nat):Prop:=S<64/\∀x<6,S.testBit x=decide (x∈D)
theorem Rv (h:J6 D S)(k:∀x<6,x∈D):S=63:=by
 apply Fo;intro i;by_cases q:i<6
 ·rw[h.2 i q,decide_eq_true (k i q)];exact(NM (P:=λ i=>(63:Nat).testBit i=Ag) (rfl) (rfl) (rfl) (rfl) (rfl) (rfl) i q).symm
 ·have:=I2 (Ak (BZ 0) 1) (By q);rw[Mr (Ao h.1 this),Mr (this)]
theorem SK (h:J6 D S)(o:x<6)(s:y<6):J6 (x::y::D) (S|||2^x|||2^y):=by
 have b:∀z,z<6->(2:Nat)^z<2^6:=λ z k=>I1 (An (BZ 1)) k;refine⟨Gj (Gj h.1 (b x o)) (b y s),λ z k=>?_⟩;simp only[Ey,Ey,h.2 z k,G4,G4];apply BH.mpr;simp only[CV,decide_eq_true_eq,Al];constructor
 ·rintro((h |h) |h)
  ·exact .inr (.inr h)
  ·exact .inl h.symm
  ·exact .inr (.inl h.symm)
 ·rintro(h |h |h)
  ·exact .inl (.inr h.symm)
  ·exact .inr h.symm
  ·exact .inl (.inl h)
theorem Pb {S:Nat}{r:Nat->Nat->Bool}(h:J6 D S)(m:VD r D x):JJ r S x=Ag:=by
 unfold JJ;rw[h.2 x m.1,decide_eq_false m.2.1];simp only[Bool.not_false,Bool.true_and,AQ,As];intro p k;rw[h.2 p k];cases q:r p x with
 |false=>rfl
 |true=>simp[m.2.2 p k q]
theorem bJ {r:Nat->Nat->Bool}:∀(l:List (Nat×Nat))(D:List Nat)(S m:Nat),J6 D S->JH r D l->l.length<=m->Zj r m S=Ag:=by
 intro l;induction l with
 |nil=>
  intro D S m k o A;obtain rfl:=Rv k o;cases m<;>rfl
 |cons p l E=>
  intro D S m k o A;obtain⟨x,y⟩:=p;obtain⟨w,z,o⟩:=o;cases m with
  |zero=>exact absurd A (Nat.not_succ_le_zero _)
  |succ m=>?_
  have h:=E _ _ m (SK k w.1 z.1) o (Mv A);have C:=Pb k w;have s:=Pb k z;simp only[Zi];simp only[CV,B8,As,AG];refine .inr ?_;by_cases q:x<=y
  ·exact⟨x,w.1,C,y,z.1,⟨DP.mpr q,s⟩,h⟩
  ·refine⟨y,z.1,s,x,w.1,⟨DP.mpr (GX q),C⟩,?_⟩;rw[show S|||2^y|||2^x=S|||2^x|||2^y by rw[Nat.or_assoc,Nat.or_comm (2^y),<-Nat.or_assoc]];exact h
theorem PJ:J6 [] 0:=⟨Ak (BZ 0) 63,λ x _=>by simp⟩
theorem bI {r:Nat->Nat->Bool}:∀(l:List (Nat×Nat))(D:List Nat),JH r D l->∃E:List Nat,E.length=D.length+2*l.length/\∀x<6,x∈E:=by
 intro l;induction l with
 |nil=>
  intro D h;exact⟨D,by rfl,h⟩
 |cons o l k=>
  intro D h;obtain⟨x,y⟩:=o;obtain⟨E,s,w⟩:=k _ h.2.2;refine⟨E,?_,w⟩;exact s.trans (Cg D.length 2 (2*l.length))
theorem uS {r:Nat->Nat->Bool}{l:List (Nat×Nat)}(h:JH r [] l):3<=l.length:=by
 obtain⟨E,k,o⟩:=bI l [] h;have:=Nq ID λ x s=>o x (As.mp s);simp only[CJ,k,List.length_nil,Cs] at this;exact Nat.le_of_mul_le_mul_left (c:=2) this (DN _)
structure pN (D left:List Nat):Prop where
 all:∀x<6,x∈D\/x∈left
 lt:∀x∈left,x<6
 k9:∀x∈left,x∉D
theorem Pa {r:Nat->Nat->Bool}(k:Zt r){left:List Nat}(s:pN D left)(N:∀p q,r p q=Ag->p∈left->q∈left)(E:x∈left)(O:left.any (λ a=>EA r a x)=Au):VD r D x:=by
 refine⟨s.lt x E,s.k9 x E,λ p Q V=>?_⟩;rcases s.all p Q with h |h
 ·exact h
 ·exfalso;have w:∀n p,6-p<=n->r p x=Ag->p∈left->False:=by
   intro n;induction n with
   |zero=>
    intro p A o C;exact Nat.sub_ne_zero_of_lt (Cu (k.jw _ _ o) (k.six _ _ o)) (Nat.eq_zero_of_le_zero A)
   |succ n W=>
    intro p A o C;by_cases q:EA r p x=Ag
    ·have:left.any (λ a=>EA r a x)=Ag:=B8.mpr ⟨p,C,q⟩
     replace this:=O.symm.trans this;exact Bv this
    ·unfold EA at q;rw[o,Bool.true_and] at q;have Z:((Ap 6).any λ c=>r p c&&r c x)=Ag:=by
      cases z:((Ap 6).any λ c=>r p c&&r c x) with
      |true=>rfl
      |false=>rw[z] at q;exact absurd rfl q
     obtain⟨c,hc,e⟩:=B8.mp Z;simp only[AG] at e;have H:=k.jw _ _ e.1;exact W c (A7 (Ao (FE (Cu H (k.six _ _ e.1)) H) A)) e.2 (N _ _ e.1 C)
  exact w 6 p (JY 6 p) V h
theorem Vk {r:Nat->Nat->Bool}(E:Zt r):∀(n:Nat)(left D:List Nat),pN D left->(∀p q,r p q=Ag->p∈left->q∈left)->(DT (EA r) n left).2=[]->∃l:List (Nat×Nat),l.length=(DT (EA r) n left).1/\JH r D l:=by
 intro n;induction n with
 |zero=>
  intro left D w H h;have:=h;subst this;exact⟨[],rfl,λ x k=>(w.all x k).resolve_right (by simp)⟩
 |succ n W=>
  intro left D w H h;have o:∀x∈F7 (EA r) left,x∈left/\left.any (λ a=>EA r a x)=Au:=λ x k=>by
   have:=Aw.mp (List.mem_of_mem_take k);exact⟨this.1,by simpa using this.2⟩
  have Z:∀p q,r p q=Ag->p∈F6 (EA r) left->q∈F6 (EA r) left:=λ p q O g=>by
   have N:=(Aw.mp g).1;refine Aw.mpr ⟨H p q O N,?_⟩;simp only[CZ,List.contains_eq_mem,decide_eq_false_iff_not];intro e;have:=Pa E w H (o q e).1 (o q e).2;exact w.k9 p N (this.2.2 p (Cu (E.jw _ _ O) (E.six _ _ O)) O)
  have c:∀x,x∈F6 (EA r) left↔x∈left/\x∉F7 (EA r) left:=λ x=>by simp[F6,Aw]
  have s:∀Q,(∀x,x∈Q↔x∈D\/x∈F7 (EA r) left)->∃l:List (Nat×Nat),l.length=(DT (EA r) n (F6 (EA r) left)).1/\JH r Q l:=λ Q C=>by
   refine W _ Q ⟨λ x k=>?_,λ x k=>w.lt x ((c x).mp k).1,λ x k q=>?_⟩ Z h
   ·by_cases q:x∈F7 (EA r) left
    ·exact .inl ((C x).mpr (.inr q))
    ·exact(w.all x k).imp (λ z=>(C x).mpr (.inl z)) λ z=>(c x).mpr ⟨z,q⟩
   ·have:=(c x).mp k;exact((C x).mp q).elim (w.k9 x this.1) this.2
  have d:(DT (EA r) (n+1) left).1=if(F7 (EA r) left).isEmpty then(DT (EA r) n (F6 (EA r) left)).1 else(DT (EA r) n (F6 (EA r) left)).1+1:=rfl
  match A:F7 (EA r) left with
  |[]=>
   obtain⟨l,a,b⟩:=s D (λ x=>by rw[A];simp);exact⟨l,by rw[d,A,a];rfl,b⟩
  |[x]=>
   have k:=o x (by rw[A];simp);have V:=Pa E w H k.1 k.2;obtain⟨l,a,b⟩:=s (x::x::D) (λ z=>by rw[A];simp;constructor<;>intro h<;>(first |(rcases h with h |h<;>simp[h])));exact⟨(x,x)::l,by rw[d,A];simp[a],V,V,b⟩
  |[x,y]=>
   have k:=o x (by rw[A];simp);have f:=o y (by rw[A];simp);have V:=Pa E w H k.1 k.2;obtain⟨l,a,b⟩:=s (x::y::D) (λ z=>by rw[A];simp;constructor<;>intro h<;>(first |(rcases h with h |h |h<;>simp[h])));exact⟨(x,y)::l,by rw[d,A];simp[a],V,(Pa E w H f.1 f.2),b⟩
  |x::y::z::t=>
   have:(F7 (EA r) left).length<=2:=by unfold F7;simp;exact EH 2 (BP (List.filter (λ n=>!List.any left λ a=>EA r a n) left))
   rw[A] at this;simp at this
theorem TM {r:Nat->Nat->Bool}{r':Nat->Nat->Bool}{f g:Nat->Nat}(Q:∀x<6,f x<6)(s:∀x<6,g x<6)(H:∀x<6,g (f x)=x)(N:∀x<6,f (g x)=x)(V:∀p q,p<6->q<6->r' (f p) (f q)=r p q):∀(l:List (Nat×Nat))(D:List Nat),(∀x∈D,x<6)->JH r D l->JH r' (D.map f) (l.map λ p=>(f p.1,f p.2)):=by
 intro l;induction l with
 |nil=>
  intro D w h;exact λ x O=>by
   rw[<-N x O];exact AF.mpr ⟨g x,h _ (s x O),rfl⟩
 |cons W l A=>
  intro D w h;obtain⟨x,y⟩:=W;have o:∀x,VD r D x->VD r' (D.map f) (f x):=λ x m=>by
   refine⟨Q x m.1,λ q=>?_,λ p C E=>?_⟩
   ·obtain⟨z,k,e⟩:=AF.mp q;have:z=x:=by rw[<-H z (w z k),e,H x m.1]
    exact m.2.1 (this▸k)
   ·rw[<-N p C] at E ⊢;rw[V _ _ (s p C) m.1] at E;exact AF.mpr ⟨_,m.2.2 _ (s p C) E,rfl⟩
  refine⟨o x h.1,o y h.2.1,?_⟩;exact A (x::y::D) (λ z k=>by
   simp only[Al] at k;rcases k with rfl |rfl |k
   ·exact h.1.1
   ·exact h.2.1.1
   ·exact w z k) h.2.2
end
noncomputable def Eu (h:Nat->Nat)(d:Nat):List Nat:=((Ap 6).filter λ k=>d/2^k%2==0&&(d&&& h k)==h k).map (2^·)
noncomputable def EU (d n:Nat)(t:List Nat):List Nat:=t.set n (min (t.getD n 0) (t.getD d 0+1))
noncomputable def Qh (d:Nat)(h:List Nat)(t:List Nat):List Nat:=(Ap h.length).foldl (λ t i=>(h.drop i).foldl (λ t o=>EU d (d|||h.getD i 0|||o) t) t) t
noncomputable def GI (h:Nat->Nat)(t:List Nat)(d:Nat):List Nat:=if t.getD d 0<7 then Qh d (Eu h d) t else t
theorem Hx {d c:Type}{P:c->Prop}{f:c->d->c}:∀(l:List d)(b:c),P b->(∀b,∀a∈l,P b->P (f b a))->P (l.foldl f b):=by
 intro l;induction l with
 |nil=>
  intro b h _;exact h
 |cons a l k=>
  intro b h s;exact k (f b a) (s b a Ad h) λ b x o=>s b x (Af _ o)
theorem RO {d c:Type}{P Q:c->Prop}{f:c->d->c}{a:d}:∀(l:List d)(b:c),a∈l->P b->(∀b,∀x∈l,P b->P (f b x))->(∀b,P b->Q (f b a))->(∀b,∀x∈l,P b->Q b->Q (f b x))->Q (l.foldl f b):=by
 intro l;induction l with
 |nil=>
  intro b h _ _ _ _
  contradiction
 |cons x l z=>
  intro b h p A o C;have s:∀b,∀y∈l,P b->P (f b y):=λ b y k=>A b y (Af _ k);have w:∀b,∀y∈l,P b->Q b->Q (f b y):=λ b y k=>C b y (Af _ k);by_cases q:a∈l
  ·exact z _ q (A b x Ad p) s o w
  ·have:a=x:=by simpa[q] using h
   subst this;exact(Hx (P:=λ b=>P b/\Q b) l _ ⟨A b a Ad p,o b p⟩ λ b y k h=>⟨s b y k h.1,w b y k h.1 h.2⟩).2
theorem O4 {t:List Nat}:(EU d n t).length=t.length:=by simp[EU]
theorem LD {t:List Nat}(h:j≠n):(EU d n t).getD j 0=t.getD j 0:=by
 unfold EU;simp[Am,Ne.symm h]
theorem TH {t:List Nat}(h:n<t.length):(EU d n t).getD n 0=min (t.getD n 0) (t.getD d 0+1):=by
 unfold EU;simp[Am,h]
section
variable {S:Nat}{y:Str}{l:List Env} in
noncomputable def wX (r:Nat->Nat->Bool):List (Nat×Nat)->Nat->Prop
 |[],S=>S=0
 |(x,y)::l,S=>∃h,wX r l h/\(x<6/\JJ r h x=Ag)/\(y<6/\JJ r h y=Ag)/\S=h|||2^x|||2^y
variable {y:Str}{l:List Env} in
noncomputable def S4:List (Nat×Nat)->List Nat
 |[]=>[]
 |(x,y)::l=>x::y::S4 l
theorem Tw {r:Nat->Nat->Bool}:∀(l:List (Nat×Nat))(S:Nat),wX r l S->J6 (S4 l) S:=by
 intro l;induction l with
 |nil=>
  intro S h;subst h;exact PJ
 |cons o l k=>
  intro S h;obtain⟨x,y⟩:=o;obtain⟨s,w,z,A,rfl⟩:=h;exact SK (k s w) z.1 A.1
theorem Xv {S:Nat}{r:Nat->Nat->Bool}(h:J6 D S)(k:x<6)(m:JJ r S x=Ag):VD r D x:=by
 unfold JJ at m;rw[AG,h.2 x k] at m;refine⟨k,by simpa using m.1,λ p o s=>?_⟩;have:=AQ.mp m.2 p (As.mpr o);rw[s,h.2 p o] at this;exact of_decide_eq_true (this)
theorem ZS {r:Nat->Nat->Bool}:∀(l k:List (Nat×Nat))(S:Nat),wX r l S->JH r (S4 l) k->JH r [] (l.reverse++k):=by
 intro l;induction l with
 |nil=>
  intro k S h o;exact o
 |cons H l s=>
  intro k S h o;obtain⟨x,y⟩:=H;obtain⟨w,z,A,C,rfl⟩:=h;have E:=Tw l w z;rw[List.reverse_cons,BQ];exact s _ w z ⟨Xv E A.1 A.2,Xv E C.1 C.2,o⟩
noncomputable def GK (r:Nat->Nat->Bool)(h:Nat->Nat):Prop:=∀k<6,h k<64/\∀a<6,(h k).testBit a=r a k
theorem Ur {r:Nat->Nat->Bool}{a:Nat->Nat}(s:GK r a)(hk:k<6):(d/2^k%2==0&&(d&&& a k)==a k)=JJ r d k:=by
 obtain⟨w,o⟩:=s k hk;have C:(d/2^k%2==0)= !d.testBit k:=by
  rw[Nat.testBit_eq_decide_div_mod_eq];rcases GL (d/2^k) with q |q<;>rw[q]<;>rfl
 congr 1;apply BH.mpr;simp only[beq_iff_eq,AQ,As];constructor
 ·intro h p A;cases q:r p k with
  |false=>rfl
  |true=>
   have:=congrArg (λ n=>Nat.testBit n p) h;simp only[Nat.testBit_and,o p A,q,ES] at this
   trivial
 ·intro h;apply Fo;intro i;rw[Nat.testBit_and];by_cases q:i<6
  ·rw[o i q];have:=h i q;cases z:r i k with
   |false=>simp
   |true=>rw[z] at this;simpa using this
  ·have:=I2 (Ak (BZ 0) 1) (By q);rw[Mr (Ao w this)];simp
theorem NB {r:Nat->Nat->Bool}{a:Nat->Nat}(o:GK r a):v∈Eu a d↔∃k<6,v=2^k/\JJ r d k=Ag:=by
 unfold Eu;simp only[AF,Aw,As];constructor
 ·rintro⟨k,⟨hk,h⟩,rfl⟩;exact⟨k,hk,rfl,by rw[<-Ur o hk];exact h⟩
 ·rintro⟨k,hk,rfl,h⟩;exact⟨k,⟨hk,by rw[Ur o hk];exact h⟩,rfl⟩
theorem lA {r:Nat->Nat->Bool}{d:Nat}(h:JJ r d k=Ag):d.testBit k=Au:=by
 unfold JJ at h;rw[AG] at h;simpa using h.1
theorem uU {d:Nat}(h:d.testBit k=Au):d<d|||2^k|||v:=by
 refine JZ (Aa Nat.left_le_or Nat.left_le_or) λ e=>?_;have:=congrArg (λ n=>Nat.testBit n k) e;simp[Ey,h] at this
structure Iv (r:Nat->Nat->Bool)(t:List Nat):Prop where
 len:t.length=64
 ga:∀S<64,t.getD S 0<7->∃l,wX r l S/\l.length=t.getD S 0
structure ZI (d:Nat)(t0 t:List Nat):Prop where
 le:∀j,t.getD j 0<=t0.getD j 0
 me:∀j≤d,t.getD j 0=t0.getD j 0
theorem bE {r:Nat->Nat->Bool}{c:Nat->Nat}(s:GK r c){t0:List Nat}(w:d<64)(V:t0.getD d 0<7)(W:a∈Eu c d)(Z:b∈Eu c d)(T:Iv r t)(F:ZI d t0 t):
 d<d|||a|||b/\d|||a|||b<64/\Iv r (EU d (d|||a|||b) t)/\ZI d t0 (EU d (d|||a|||b) t)/\(EU d (d|||a|||b) t).getD (d|||a|||b) 0<=t0.getD d 0+1:=by
 refine Jr λ p e=>?_;obtain⟨x,A,rfl,C⟩:=(NB s).mp W;obtain⟨y,E,rfl,f⟩:=(NB s).mp Z;refine e ?_;have H:=uU (v:=2^y) (lA C);have N:∀z,z<6->(2:Nat)^z<2^6:=λ z g=>I1 (An (BZ 1)) g;have o:=Gj (Gj w (N x A)) (N y E);have k:=TH (d:=d) (by rw[T.len];exact o);have O:=F.me d (An _);refine⟨H,o,⟨by rw[O4,T.len],λ S i h=>?_⟩,⟨λ j=>?_,λ j Q=>?_⟩,by rw[k,O];exact FK (List.getD t (d|||2^x|||2^y) 0) (List.getD t0 d 0+1)⟩
 ·by_cases q:S=d|||2^x|||2^y
  ·subst q;rw[k] at h ⊢;by_cases z:t.getD (d|||2^x|||2^y) 0<=t.getD d 0+1
   ·rw[Dz z] at h ⊢;exact T.ga _ o h
   ·rw[GV (GX z)];obtain⟨l,m,n⟩:=T.ga d w (Ay (Az O) V);exact⟨(x,y)::l,⟨d,m,⟨A,C⟩,⟨E,f⟩,rfl⟩,by simp[n]⟩
  ·rw[LD q] at h ⊢;exact T.ga S i h
 ·by_cases q:j=d|||2^x|||2^y
  ·subst q;rw[k];exact Aa (EH _ _) (F.le _)
  ·rw[LD q];exact F.le j
 ·rw[LD (Ct (Ay Q H))];exact F.me j Q
theorem vD {r:Nat->Nat->Bool}{a:Nat->Nat}(s:GK r a){t0:List Nat}(w:d<64)(z:t0.getD d 0<7)(T:Iv r t0):Iv r (Qh d (Eu a d) t0)/\ZI d t0 (Qh d (Eu a d) t0):=by
 refine Hx (P:=λ t=>Iv r t/\ZI d t0 t) _ _ ⟨T,λ j=>An _,λ j _=>rfl⟩ λ t i A h=>?_;refine Hx (P:=λ t=>Iv r t/\ZI d t0 t) _ _ h λ t o C h=>?_;have k:=As.mp A;have:=bE s w z (a:=(Eu a d).getD i 0) (by rw[Am,AA k];exact Dg k) (NP C) h.1 h.2;exact⟨this.2.2.1,this.2.2.2.1⟩
theorem rS {r:Nat->Nat->Bool}{a:Nat->Nat}(V:GK r a){t0:List Nat}(W:d<64)(Z:t0.getD d 0<7)(T:Iv r t0)(H:i<(Eu a d).length)(E:i<=j)(O:j<(Eu a d).length)(b:(Eu a d).getD i 0=x)(c:(Eu a d).getD j 0=y):
 (Qh d (Eu a d) t0).getD (d|||x|||y) 0<=t0.getD d 0+1:=by
 have w:∀t,Iv r t/\ZI d t0 t->∀s,s<(Eu a d).length->∀o,o∈(Eu a d).drop s->Iv r (EU d (d|||(Eu a d).getD s 0|||o) t)/\ZI d t0 (EU d (d|||(Eu a d).getD s 0|||o) t)/\(EU d (d|||(Eu a d).getD s 0|||o) t).getD (d|||(Eu a d).getD s 0|||o) 0<=t0.getD d 0+1:=λ t h s k o A=>by
  have:=bE V W Z (a:=(Eu a d).getD s 0) (by rw[Am,AA k];exact Dg k) (NP A) h.1 h.2;exact⟨this.2.2.1,this.2.2.2.1,this.2.2.2.2⟩
 have C:∀t n,t.getD (d|||x|||y) 0<=t0.getD d 0+1->t.length=64->(EU d n t).getD (d|||x|||y) 0<=t0.getD d 0+1:=λ t n h e=>by
  by_cases q:d|||x|||y=n
  ·subst q;by_cases z:d|||x|||y<t.length
   ·rw[TH z];exact Aa (EH (List.getD t (d|||x|||y) 0) (List.getD t d 0+1)) h
   ·have:(EU d (d|||x|||y) t).getD (d|||x|||y) 0=0:=by
     rw[Am,List.getElem?_eq_none (by rw[O4];exact By z)];rfl
    rw[this];exact Ak 0 (List.getD t0 d 0+1)
  ·rw[LD q];exact h
 refine RO (P:=λ t=>Iv r t/\ZI d t0 t) (Q:=λ t=>t.getD (d|||x|||y) 0<=t0.getD d 0+1) _ _ (As.mpr H) ⟨T,λ j=>An _,λ j _=>rfl⟩ (λ t s k h=>?_) (λ t h=>?_) (λ t s k h N=>?_)
 ·exact Hx (P:=λ t=>Iv r t/\ZI d t0 t) _ _ h λ t o A h=>let z:=w t h s (As.mp k) o A;⟨z.1,z.2.1⟩
 ·have Q:y∈(Eu a d).drop i:=by
   rw[<-c,Am,AA O];refine Cq.mpr ⟨j-i,by rw[GT];exact Nat.sub_lt_sub_right E O,?_⟩;simp only[List.getElem_drop,Option.getD_some];congr 1;exact EE E
  refine RO (P:=λ t=>Iv r t/\ZI d t0 t) _ _ Q h (λ t o A h=>let z:=w t h i H o A;⟨z.1,z.2.1⟩) (λ t h=>?_) (λ t o A h N=>C t _ N h.1.len);have:=(w t h i H y Q).2.2;rw[b] at this ⊢;exact this
 ·exact(Hx (P:=λ t=>(Iv r t/\ZI d t0 t)/\t.getD (d|||x|||y) 0<=t0.getD d 0+1) _ _ ⟨h,N⟩ λ t o A h=>let z:=w t h.1 s (As.mp k) o A;⟨⟨z.1,z.2.1⟩,C t _ h.2 h.1.1.len⟩).2
noncomputable def Gc (h:Nat->Nat)(n:Nat):List Nat:=(Ap n).foldl (GI h) (0::Bg 63 7)
theorem Lz {a:Nat->Nat}:Gc a (n+1)=GI a (Gc a n) n:=by unfold Gc;rw[List.range_succ,List.foldl_append];rfl
theorem Si {r:Nat->Nat->Bool}{a:Nat->Nat}(h:GK r a)(k:d<64)(T:Iv r t):Iv r (GI a t d)/\ZI d t (GI a t d):=by
 unfold GI;split
 ·exact vD h k (by assumption) T
 ·exact⟨T,λ j=>An _,λ j _=>rfl⟩
theorem Vc {r:Nat->Nat->Bool}{a:Nat->Nat}(s:GK r a):∀n,n<=64->Iv r (Gc a n):=by
 intro n;induction n with
 |zero=>
  intro _;exact⟨rfl,λ S k h=>by
   match S,k,h with
   |0,_,_=>exact⟨[],rfl,rfl⟩
   |S+1,k,h=>
    have:(Gc a 0).getD (S+1) 0=7:=by
     rw[Am,List.getElem?_replicate,if_pos (A7 k)];rfl
    exact(Ct h this).elim⟩
 |succ n o=>
  intro h;rw[Lz];exact(Si s (h) (o (AX h))).1
theorem Sc {r:Nat->Nat->Bool}{a:Nat->Nat}(w:GK r a):∀m,n<=m->m<=64->(∀j,(Gc a m).getD j 0<=(Gc a n).getD j 0)/\∀j<n,(Gc a m).getD j 0=(Gc a n).getD j 0:=by
 intro m;induction m with
 |zero=>
  intro h _;obtain rfl:=Nat.eq_zero_of_le_zero h;exact⟨λ j=>An _,λ j _=>rfl⟩
 |succ m k=>
  intro h o;by_cases q:n=m+1
  ·subst q;exact⟨λ j=>An _,λ j _=>rfl⟩
  ·have z:=k (A7 (JZ h q)) (AX o);have s:=(Si w (o) (Vc w m (AX o))).2;rw[Lz];exact⟨λ j=>Aa (s.le j) (z.1 j),λ j A=>(s.me j (A7 (Ao A h))).trans (z.2 j A)⟩
theorem TD {a:Nat->Nat}:(Eu a d).Pairwise (·<·):=by
 unfold Eu;refine List.pairwise_map.mpr ((KA _ L9).imp λ h=>?_);exact I1 (An (BZ 1)) h
theorem ZT {S:Nat}{r:Nat->Nat->Bool}{a:Nat->Nat}(k:GK r a)(o:S<64)(c:(Gc a 64).getD S 0<7)(z:x<6)(A:y<6)(C:JJ r S x=Ag)(E:JJ r S y=Ag):(Gc a 64).getD (S|||2^x|||2^y) 0<=(Gc a 64).getD S 0+1:=by
 have h:∀{x y:Nat},x<6->y<6->JJ r S x=Ag->JJ r S y=Ag->x<=y->(Gc a 64).getD (S|||2^x|||2^y) 0<=(Gc a 64).getD S 0+1:=λ{x y} z A C E H=>by
  have V:=Sc k 64 o (An _);have d:=Sc k (S+1) (Bo S) o;have W:=V.2 S (CH S);have T:=Vc k S (AX o);have s:(Gc a (S+1)).getD S 0=(Gc a S).getD S 0:=by
   rw[Lz];exact(Si k o T).2.me S (An _)
  have w:=Ay (Az (W.trans s).symm) c;obtain⟨i,N,Z⟩:=Cq.mp ((NB k).mpr ⟨x,z,rfl,C⟩);obtain⟨j,O,b⟩:=Cq.mp ((NB k).mpr ⟨y,A,rfl,E⟩);have Q:i<=j:=by
   rcases Ms j i with q |q
   ·have:=GY.mp (TD) j i O N q;simp only[Z,b] at this;exact absurd (I2 (DN _) H) (Nat.not_le_of_lt this)
   ·exact q
  have:=rS k o w T N Q O (x:=2^x) (y:=2^y) (by rw[Am,AA N];exact Z) (by rw[Am,AA O];exact b);rw[<-(by simp only[Lz,GI,if_pos w]:Gc a (S+1)=Qh S (Eu a S) (Gc a S))] at this;exact Aa (V.1 _) (Aa this (Bt (Az (W.trans s).symm)))
 by_cases q:x<=y
 ·exact h z A C E q
 ·rw[show S|||2^x|||2^y=S|||2^y|||2^x by rw[Nat.or_assoc,Nat.or_comm (2^x),<-Nat.or_assoc]];exact h A z E C (GX q)
theorem sH {r:Nat->Nat->Bool}{t:List Nat}(z:∀S x y,S<64->t.getD S 0<7->x<6->y<6->JJ r S x=Ag->JJ r S y=Ag->t.getD (S|||2^x|||2^y) 0<=t.getD S 0+1):∀(l:List (Nat×Nat))(D:List Nat)(S i:Nat),J6 D S->JH r D l->t.getD S 0<=i->i+l.length<=6->t.getD 63 0<=i+l.length:=by
 intro l;induction l with
 |nil=>
  intro D S i o k h _;rw[<-Rv o k];exact Aa h (AR _ _)
 |cons A l s=>
  intro D S i o k h w;obtain⟨x,y⟩:=A;have e:=z S x y o.1 (Ay h (Ay (AR i _) (CK w))) k.1.1 k.2.1.1 (Pb o k.1) (Pb o k.2.1);have:=s _ _ (i+1) (SK o k.1.1 k.2.1.1) k.2.2 (Aa e (Bt h)) (Aa (Az (Cg i 1 _)) w);exact Aa this (Az (Cg i 1 _))
theorem fK {r:Nat->Nat->Bool}{b:Nat->Nat}(h:GK r b){l:List (Nat×Nat)}(C:JH r [] l)(k:l.length<=6):(Gc b 64).getD 63 0<=l.length/\∃o,JH r [] o/\o.length=(Gc b 64).getD 63 0:=by
 have z:(Gc b 64).getD 0 0=0:=by
  have:=(Sc h 64 (Ak 0 64) (An 64)).1 0;exact EI this (AY _)
 have a:=sH (λ S x y=>ZT h) l [] 0 0 PJ C (Az z) (Aa (Az (Cs _)) k);rw[Cs] at a;refine⟨a,?_⟩;obtain⟨m,s,E⟩:=(Vc h 64 (An 64)).ga 63 (An _) (Ay a (CK k));refine⟨m.reverse,?_,by simpa using E⟩;have:=ZS m [] 63 s (λ x w=>by
  have A:=(Tw m 63 s).2 x w;rw[NM (P:=λ i=>(63:Nat).testBit i=Ag) (rfl) (rfl) (rfl) (rfl) (rfl) (rfl) x w] at A;exact of_decide_eq_true A.symm)
 simpa using this
end
structure PO (r:Nat->Nat->Bool):Prop where
 my:∀a,r a a=Au
 tr:∀a b c,r a b=Ag->r b c=Ag->r a c=Ag
 six:∀a b,r a b=Ag->a<6/\b<6
noncomputable def D5 (k:Nat->Nat->Bool)(h:List Nat)(n:Nat):List Nat:=(((Ap h.length).reverse).filter λ i=>k n (h.getD i 6)).map (·+1)
noncomputable def Ez (k:Nat->Nat->Bool)(h:List Nat):List Nat:=(Ap 6).filter λ n=>!h.contains n&&(Ap 6).all λ b=>!k n b||h.contains b
noncomputable def Hv (h:Nat->Nat->Bool)(k:List Nat):List Nat:=(Ez h k).filter λ n=>(Ez h k).all λ m=>!Ku (D5 h k n) (D5 h k m)
noncomputable def Hu (h:Nat->Nat->Bool):Nat->List Nat
 |0=>[]
 |k+1=>Hu h k++(Hv h (Hu h k)).take 1
section
theorem NA:Ku (a::c) (b::d)=if a==b then Ku c d else Es b a:=rfl
theorem RR {b:Type}{p q:b->Bool}{l:List b}(h:∀x∈l,p x=Ag->q x=Ag){a:b}(k:a∈l)(o:p a=Au)(s:q a=Ag):(l.filter p).length<(l.filter q).length:=by
 have e:(l.filter q).filter p=l.filter p:=(List.filter_filter).trans (Cr λ x w=>by
  cases e:p x with
  |false=>rfl
  |true=>exact h x w e)
 rw[<-e];exact List.length_filter_lt_length_iff_exists.mpr ⟨a,Aw.mpr ⟨k,s⟩,by rw[o];exact nofun⟩
theorem Ok {r:Nat->Nat->Bool}(h:EA r a b=Ag):r a b=Ag:=by unfold EA at h;rw[AG] at h;exact h.1
theorem PO.jf {r:Nat->Nat->Bool}(P:PO r):∀(n a b:Nat),((Ap 6).filter λ c=>r a c&&r c b).length<n->r a b=Ag->∃c,EA r a c=Ag/\(c=b\/r c b=Ag):=by
 intro n;induction n with
 |zero=>exact λ _ _ h=>absurd h (Hl _)
 |succ n w=>
  intro a b A h;by_cases q:EA r a b=Ag
  ·exact⟨b,q,.inl rfl⟩
  ·unfold EA at q;rw[h,Bool.true_and] at q;have C:((Ap 6).any λ c=>r a c&&r c b)=Ag:=by
    cases z:((Ap 6).any λ c=>r a c&&r c b) with
    |true=>rfl
    |false=>rw[z] at q;exact absurd rfl q
   obtain⟨c,hc,e⟩:=B8.mp C;have k:=e;simp only[AG] at k;have E:((Ap 6).filter λ d=>r a d&&r d c).length<((Ap 6).filter λ d=>r a d&&r d b).length:=RR (λ d _ o=>by
    simp only[AG] at o ⊢;exact⟨o.1,P.tr _ _ _ o.2 k.2⟩) hc (by rw[P.my];exact H8 _) e
   obtain⟨d,H,s⟩:=w a c (Ao E (A7 A)) k.1;refine⟨d,H,.inr ?_⟩;rcases s with rfl |s
   ·exact k.2
   ·exact P.tr _ _ _ s k.2
theorem HT {a:Nat->Nat->Bool}:n∈Ez a c↔n<6/\n∉c/\∀b<6,a n b=Ag->b∈c:=by
 unfold Ez;simp only[Aw,As,AG,CZ,AQ,CV,List.contains_eq_mem,decide_eq_false_iff_not,decide_eq_true_eq];constructor
 ·rintro⟨h,k,o⟩;exact⟨h,k,λ b s w=>(o b s).resolve_left (by rw[w];exact Bv)⟩
 ·rintro⟨h,k,o⟩;exact⟨h,k,λ b s=>by cases q:a n b with
   |false=>exact .inl rfl
   |true=>exact .inr (o b s q)⟩
theorem PO.fb {r:Nat->Nat->Bool}(P:PO r){a:List Nat}(H:a.length<6):∃n,n∈Ez (EA r) a:=by
 obtain⟨n,s,A⟩:∃n<6,n∉a:=by
  refine E2 λ h=>?_;have:=Nq ID λ x N=>E2 λ q=>h ⟨x,As.mp N,q⟩;exact Hj (El this H)
 have C:∀k n,((Ap 6).filter (r n)).length<=k->n<6->n∉a->∃n,n∈Ez (EA r) a:=by
  intro k;induction k with
  |zero=>
   intro n hk s A;refine⟨n,HT.mpr ⟨s,A,λ b o hc=>?_⟩⟩;have:=Aw.mpr ⟨As.mpr o,Ok hc⟩;have:=Ma this;exact Hj (El hk this)
  |succ k O=>
   intro n hk s A;by_cases q:∀b<6,EA r n b=Ag->b∈a
   ·exact⟨n,HT.mpr ⟨s,A,q⟩⟩
   ·obtain⟨b,o,hc,E⟩:∃b<6,EA r n b=Ag/\b∉a:=E2 λ z=>q λ b o hc=>E2 λ w=>z ⟨b,o,hc,w⟩;exact O b (A7 (Ao (RR (λ d _ Q=>P.tr _ _ _ (Ok hc) Q) (As.mpr o) (P.my b) (Ok hc):((Ap 6).filter (r b)).length<((Ap 6).filter (r n)).length) hk)) o E
 exact C _ n (An _) s A
theorem Pf:∀l:List Nat,Ku l l=Au:=by
 intro l;induction l with
 |nil=>
  exact rfl
 |cons a l h=>
  rw[NA,if_pos (beq_self_eq_true a)];exact h
theorem P6:∀{a b c:List Nat},Ku a b=Ag->Ku c b=Au->Ku a c=Ag:=by
 intro a;induction a with
 |nil=>exact λ h _=>by contradiction
 |cons x a s=>
  intro b c h k;cases c with
  |nil=>rfl
  |cons y c=>?_
  cases b with
  |nil=>contradiction
  |cons z b=>?_
  simp only[NA,beq_iff_eq] at h k ⊢;have o:∀m n,Es m n=Ag↔m<n:=λ m n=>JU DP;split at h<;>split at k<;>split
  ·exact s h k
  ·exact absurd (‹x=z›.trans ‹y=z›.symm) ‹¬x=y›
  ·exact absurd (‹x=y›.symm.trans ‹x=z›) ‹¬y=z›
  ·have:¬z<y:=λ q=>by rw[(o _ _).mpr q] at k;cases k
   exact(o _ _).mpr (‹x=z›.symm▸JZ (By this) ‹¬y=z›)
  ·exact absurd (‹x=y›.trans ‹y=z›) ‹¬x=z›
  ·exact(o _ _).mpr (‹y=z›.symm▸(o _ _).mp h)
  ·have:¬z<y:=λ q=>by rw[(o _ _).mpr q] at k;cases k
   exact absurd ((o _ _).mp h) (‹x=y›.symm▸this)
  ·have:¬z<y:=λ q=>by rw[(o _ _).mpr q] at k;cases k
   exact(o _ _).mpr (Ay (By this) ((o _ _).mp h))
theorem SU:∀{a b:List Nat},Ku a b=Ag->Ku b a=Au:=by
 intro a;induction a with
 |nil=>exact λ h=>by contradiction
 |cons x a o=>
  intro b h;cases b with
  |nil=>rfl
  |cons y b=>?_
  simp only[NA,beq_iff_eq] at h ⊢;have k:∀m n,Es m n=Ag↔m<n:=λ m n=>JU DP;split at h
  ·rename_i e;subst e;rw[if_pos rfl];exact o h
  ·rw[if_neg λ e=>‹¬x=y› e.symm];cases q:Es x y with
   |false=>rfl
   |true=>exact absurd ((k _ _).mp q) (Mu ((k _ _).mp h))
theorem cP {f:Nat->List Nat}:∀{l:List Nat}{a:Nat},a∈l->∃n∈l,∀m∈l,Ku (f n) (f m)=Au:=by
 intro l;induction l with
 |nil=>exact λ h=>(by contradiction)
 |cons x l s=>
  intro a _;cases l with
  |nil=>exact⟨x,Ad,λ m k=>by rw[Ce.mp k];exact Pf _⟩
  |cons y l=>?_
  obtain⟨n,A,o⟩:=s Ad;cases q:Ku (f n) (f x) with
  |false=>
   refine⟨n,Af _ A,λ m k=>?_⟩;rcases Al.mp k with rfl |k
   ·exact q
   ·exact o m k
  |true=>
   refine⟨x,Ad,λ m k=>?_⟩;rcases Al.mp k with rfl |k
   ·exact Pf _
   ·cases z:Ku (f x) (f m) with
    |false=>rfl
    |true=>
     have C:Ku (f x) (f n)=Au:=by
      cases w:Ku (f x) (f n) with
      |false=>rfl
      |true=>have:=P6 w (Pf (f n));have t:=P6 q (Pf _);exact absurd (q.symm.trans (SU w)) nofun
     have:=P6 z (by
      cases w:Ku (f n) (f m) with
      |false=>rfl
      |true=>replace w:=Eq.trans (Eq.symm (o m k)) w;contradiction)
     replace this:=C.symm.trans this;contradiction
end
section
variable {o:List Nat}
noncomputable def D6 (r:Nat->Nat->Bool)(h:List Nat):Prop:=∀i<h.length,h.getD i 6∈Hv (EA r) (h.take i)
theorem PP {a:Nat->Nat->Bool}(h:n∈Hv a o):n∈Ez a o:=(Aw.mp h).1
theorem cO {a:Nat->Nat->Bool}(h:n∈Hv a o)(k:m∈Ez a o):Ku (D5 a o n) (D5 a o m)=Au:=by
 have:=AQ.mp (Aw.mp h).2 m k;simpa using this
theorem LH {r:Nat->Nat->Bool}(P:PO r):∀k,k<=6->(Hu (EA r) k).length=k:=by
 intro k;induction k with
 |zero=>
  intro _;exact rfl
 |succ k o=>
  intro h;have s:=o (AX h);obtain⟨a,w⟩:=P.fb (Ay (Az s) h);obtain⟨n,z,A⟩:=cP w;have C:n∈Hv (EA r) (Hu (EA r) k):=Aw.mpr ⟨z,AQ.mpr λ m E=>by rw[A m E];rfl⟩;rw[show Hu (EA r) (k+1)=Hu (EA r) k++(Hv (EA r) (Hu (EA r) k)).take 1 from rfl,AP,s,Dd];exact congrArg (k+·) (Dz (Ma C))
theorem bS {r:Nat->Nat->Bool}(P:PO r):∀k,k<=6->D6 r (Hu (EA r) k):=by
 intro k;induction k with
 |zero=>
  intro _;exact λ i o=>by contradiction
 |succ k s=>
  intro h;exact λ i o=>by
   have w:=LH P k (AX h);have A:=LH P (k+1) h;rw[A] at o;have e:Hu (EA r) (k+1)=Hu (EA r) k++(Hv (EA r) (Hu (EA r) k)).take 1:=rfl;by_cases q:i<k
   ·have C:=Ao q (Az w.symm);have:=(s (AX h)) i C;rw[e,List.take_append_of_le_length (AX C),Am,Kp C,<-Am];exact this
   ·have:=EI (A7 o) (By q);subst this;have E:∀a b,a.length=i->b≠[]->(a++b.take 1).take i=a/\(a++b.take 1).getD i 6∈b:=λ a b h N=>by
     match b,N with
     |x::t,_=>subst h;simp
    have H:Hv (EA r) (Hu (EA r) i)≠[]:=λ z=>by simp only[e,z,AP,w] at A;simp at A
    have g:=E _ _ w H;rw[e,g.1];exact g.2
theorem D6.at_ {r:Nat->Nat->Bool}(k:D6 r o)(h:i<o.length):o[i]<6/\o[i]∉o.take i/\∀b<6,EA r o[i] b=Ag->b∈o.take i:=by
 have:=HT.mp (PP (k i h));rw[Am,AA h] at this;exact this
theorem D6.nd {r:Nat->Nat->Bool}(k:D6 r o):o.Nodup:=by
 refine GY.mpr λ i j s w h e=>?_;refine(k.at_ w).2.1 ?_;rw[<-e];exact Cq.mpr ⟨i,by rw[Dd];exact Mt.mpr ⟨h,s⟩,HY⟩
theorem D6.lt {r:Nat->Nat->Bool}(h:D6 r o):∀x∈o,x<6:=λ x k=>by
 obtain⟨i,s,rfl⟩:=Cq.mp k;exact(h.at_ s).1
theorem D6.below {r:Nat->Nat->Bool}(C:D6 r o)(P:PO r):∀i,(w:i<o.length)->∀b,r o[i] b=Ag->b∈o.take i:=by
 intro i;induction i using Nat.strongRecOn with |ind i E=>?_
 intro w b h;obtain⟨c,z,s⟩:=P.jf _ _ _ (CH _) h;have hc:=(C.at_ w).2.2 c (P.six _ _ (Ok z)).2 z;rcases s with rfl |s
 ·exact hc
 ·skip
  obtain⟨j,A,rfl⟩:=Cq.mp hc;have k:j<i/\j<o.length:=by simp only[Dd] at A;exact Mt.mp A
  rw[HY] at s;exact(JS o (AX k.1)) (E j k.1 k.2 b s)
theorem Ux {nx:Nat->Nat->Bool}(o:∀x∈b,nx n x=Au):D5 nx (a++b) n=D5 nx a n:=by
 unfold D5;congr 1;have:Ap (a++b).length=Ap a.length++(Ap b.length).map (a.length+·):=by rw[AP,List.range_add]
 rw[this,List.reverse_append,List.filter_append];have s:((Ap b.length).map (a.length+·)).reverse.filter (λ i=>nx n ((a++b).getD i 6))=[]:=by
  refine DL.mpr λ i k=>?_;rw[EX,AF] at k;obtain⟨j,w,rfl⟩:=k;have h:=As.mp w;rw[Am,List.getElem?_append_right (AR (BP a) j),Nat.add_sub_cancel_left,AA h];simp[o b[j] (Dg h)]
 rw[s,DU];refine Cr λ i k=>?_;rw[Am,Kp (As.mp (EX.mp k)),<-Am]
theorem fM {b:Nat->Nat->Bool}{a:List Nat}(h:b n m=Ag):D5 b (a++[m]) n=(a.length+1)::D5 b a n:=by
 unfold D5;rw[AP,MU,List.range_succ,List.reverse_append,List.reverse_singleton,List.singleton_append,FH];have:(a++[m]).getD a.length 6=m:=by simp
 rw[this,h,if_pos rfl,Bu];congr 2;refine Cr λ i k=>?_;rw[Am,Kp (As.mp (EX.mp k)),<-Am]
theorem mY {b:Nat->Nat->Bool}{a:List Nat}:∀x∈D5 b a n,x<=a.length:=λ x h=>by
 obtain⟨i,k,rfl⟩:=AF.mp h;have:=As.mp (EX.mp (Aw.mp k).1);exact this
theorem D6.jd {r:Nat->Nat->Bool}(w:D6 r o)(P:PO r)(hk:k<=o.length)(C:i<k)(z:o.getD i 6=x):∀m,i<=m->m<=o.length->D5 (EA r) o x=D5 (EA r) (o.take m) x:=λ m E O=>by
 have h:i<o.length:=Ao C hk;rw[Am,AA h] at z;have s:o[i]=x:=z;subst s;have e:=Ux (nx:=EA r) (a:=o.take m) (b:=o.drop m) (n:=o[i]) λ y H=>by
  cases q:EA r o[i] y with
  |false=>rfl
  |true=>
   exfalso;have N:=(w.at_ h).2.2 y (P.six _ _ (Ok q)).2 q;have A:=w.nd;rw[<-E4 m o] at A;exact(HW.mp A).2.2 y (JS o E N) y H rfl
 rw[E4] at e;exact e
theorem D6.ae {r:Nat->Nat->Bool}(w:D6 r o)(P:PO r)(k:i+1<o.length):Ku (D5 (EA r) o (o.getD i 6)) (D5 (EA r) o (o.getD (i+1) 6))=Au:=by
 have E:=w.jd P (An _) k rfl (i+1) (An _) (AX k);rw[(w.jd P (An _) (AX k) rfl i (An _) (AX (Nat.lt_of_succ_lt k))),E];have s:i<o.length:=AX k;have C:o.take (i+1)=o.take i++[o[i]]:=by rw[List.take_add_one,AA s];rfl
 have g:o.getD (i+1) 6=o[i+1]:=by rw[Am,AA k];rfl
 have A:=w.at_ k;rw[C];cases q:EA r o[i+1] o[i] with
 |true=>
  rw[g,fM q]
  match H:D5 (EA r) (o.take i) (o.getD i 6) with
  |[]=>rfl
  |x::t=>
   have:=mY x (by rw[H];exact Ad);have N:(o.take i).length=i:=by simp;exact Dz (AX s)
   rw[N] at this ⊢;simp only[NA,beq_iff_eq];refine Eq.trans (if_neg (Ct (CK this))) ?_;cases z:Es (i+1) x with
   |false=>rfl
   |true=>exact(Nat.not_succ_le_self i (CM (Aa ((JU DP).mp z) this))).elim
 |false=>
  rw[g,Ux (λ x O=>by rw[Ce.mp O];exact q)];refine cO (w i s) (HT.mpr ⟨A.1,λ z=>A.2.1 (JS o (AR i 1) z),λ b Q hc=>?_⟩);have:=A.2.2 b Q hc;rw[C,AK,Ce] at this;rcases this with h |rfl
  ·exact h
  ·replace hc:=q.symm.trans hc;exact Bv hc
end
theorem Lf {b:Type} [BEq b] {a:b->b->Bool}{left:List b}:DT a (t+1) left=(if(F7 a left).isEmpty then(DT a t (F6 a left)).1 else(DT a t (F6 a left)).1+1,(DT a t (F6 a left)).2):=rfl
theorem RJ {d c:Type} [BEq d] [LawfulBEq d] [BEq c] [LawfulBEq c] {f:d->c}{e:c->c->Bool}(l:List d):F7 e (l.map f)=(F7 (λ a b=>e (f a) (f b)) l).map f:=by
 simp only[F7];simp only[Hi,Hg];congr 2;refine Cr λ x _=>?_;simp only[Function.comp,List.any_map];rfl
theorem YK {d c:Type} [BEq d] [LawfulBEq d] [BEq c] [LawfulBEq c] {f:d->c}{nx:c->c->Bool}{l:List d}(k:∀a∈l,∀b∈l,f a=f b->a=b):F6 nx (l.map f)=(F6 (λ a b=>nx (f a) (f b)) l).map f:=by
 unfold F6;rw[Hi,RJ];congr 1;refine Cr λ x s=>?_;simp only[Function.comp];congr 1;apply BH.mpr;rw[E5,E5,AF];constructor
 ·rintro⟨y,o,e⟩;have:=(Aw.mp (List.mem_of_mem_take o)).1;exact k y this x s e▸o
 ·intro h;exact⟨x,h,rfl⟩
theorem RI {d c:Type} [BEq d] [LawfulBEq d] [BEq c] [LawfulBEq c] {f:d->c}{nx:c->c->Bool}:∀(n:Nat)(l:List d),(∀a∈l,∀b∈l,f a=f b->a=b)->DT nx n (l.map f)=((DT (λ a b=>nx (f a) (f b)) n l).1,(DT (λ a b=>nx (f a) (f b)) n l).2.map f):=by
 intro n;induction n with
 |zero=>exact λ _ _=>rfl
 |succ n k=>
  intro l h;have e:(F7 nx (l.map f)).isEmpty=(F7 (λ a b=>nx (f a) (f b)) l).isEmpty:=by rw[RJ];simp
  rw[Lf,(YK (nx:=nx) h),(k (F6 (λ a b=>nx (f a) (f b)) l) λ a o b s=>h a (Aw.mp o).1 b (Aw.mp s).1),e];rfl
theorem eL {a:Type} [BEq a] {nx:a->a->Bool}:∀(n:Nat)(l:List a),(DT nx n l).1<=n:=by
 intro n;induction n with
 |zero=>exact λ _=>An _
 |succ n h=>
  intro l;have:=h (F6 nx l);rw[Lf];show(if(F7 nx l).isEmpty=Ag then _ else _)<=n+1;split
  ·exact BC this
  ·exact Bt this
theorem Oz {f:Type} [BEq f] {d c:f->f->Bool}:∀(n:Nat)(l:List f),(∀a∈l,∀b∈l,d a b=c a b)->DT d n l=DT c n l:=by
 intro n;induction n with
 |zero=>
  intro l _;exact rfl
 |succ n o=>
  intro l h;have e:F7 d l=F7 c l:=by
   unfold F7;congr 1;refine Cr λ x w=>?_;congr 1;apply BH.mpr;simp;exact⟨λ⟨a,k,s⟩=>⟨a,k,h a k x w▸s⟩,λ⟨a,k,s⟩=>⟨a,k,(h a k x w).symm▸s⟩⟩
  have z:F6 d l=F6 c l:=by unfold F6;rw[e]
  have A:=o (F6 d l) λ a C b E=>h a (Aw.mp C).1 b (Aw.mp E).1;simp only[Lf,e,<-z,A]
section
variable {o:List Nat}
noncomputable def OO (h:List Nat)(p:Nat):Nat:=h.getD (5-p) 6
noncomputable def Nj (r:Nat->Nat->Bool)(h:List Nat)(p q:Nat):Bool:=Es p 6&&(Es q 6&&r (OO h p) (OO h q))
theorem Jc {r:Nat->Nat->Bool}(h:p<6)(k:q<6):Nj r o p q=r (OO o p) (OO o q):=by
 unfold Nj;rw[show Es p 6=Ag from(JU DP).mpr h,show Es q 6=Ag from(JU DP).mpr k];rfl
theorem O6 {r:Nat->Nat->Bool}(h:Nj r o p q=Ag):p<6/\q<6/\r (OO o p) (OO o q)=Ag:=by
 unfold Nj at h;simp only[AG,AG] at h;exact⟨(JU DP).mp h.1,(JU DP).mp h.2.1,h.2.2⟩
theorem D6.sg {r:Nat->Nat->Bool}(s:D6 r o)(w:o.length=6)(z:p<6):OO o p<6/\∃h:5-p<o.length,OO o p=o[5-p]:=by
 have k:5-p<o.length:=w.symm▸CK (JY 5 p);have e:OO o p=o[5-p]:=by unfold OO;rw[Am,AA k];rfl
 exact⟨e▸(s.at_ k).1,k,e⟩
theorem D6.gf {r:Nat->Nat->Bool}(h:D6 r o)(k:o.length=6)(s:p<6)(w:q<6)(e:OO o p=OO o q):p=q:=by
 obtain⟨_,C,z⟩:=h.sg k s;obtain⟨_,E,A⟩:=h.sg k w;have:=(List.getElem_inj h.nd).mp (z.symm.trans (e.trans A));exact(LU (A7 s)).symm.trans ((congrArg (5-·) this).trans (LU (A7 w)))
theorem D6.all {r:Nat->Nat->Bool}(k:D6 r o)(s:o.length=6)(z:x<6):∃p<6,OO o p=x:=by
 have:x∈o:=by
  refine E2 λ q=>?_;have:=Nq (Bz.mpr ⟨q,k.nd⟩) λ y h=>by
   rcases Al.mp h with rfl |h
   ·exact As.mpr z
   ·exact As.mpr (k.lt y h)
  simp[s] at this
 obtain⟨i,w,rfl⟩:=Cq.mp this;refine⟨5-i,CK (JY 5 i),?_⟩;unfold OO;rw[LU (A7 (Ao w (Az s))),Am,AA w];rfl
theorem D6.lj {r:Nat->Nat->Bool}(k:D6 r o)(P:PO r)(A:o.length=6):Zt (Nj r o) where
 six:=λ p q h=>(O6 h).2.1
 tr:=λ p q s w C=>by
  obtain⟨a,b,c⟩:=O6 w;obtain⟨_,d,e⟩:=O6 C;refine Eq.trans (Jc a d) ?_;exact P.tr _ _ _ c e
 jw:=λ p q h=>by
  obtain⟨a,b,c⟩:=O6 h;obtain⟨_,w,H⟩:=k.sg A a;obtain⟨_,C,N⟩:=k.sg A b;rw[H] at c;have:=k.below P (5-p) w _ c;simp only[N] at this;obtain⟨j,E,e⟩:=Cq.mp this;simp only[Dd] at E;rw[HY] at e;have:=(List.getElem_inj k.nd).mp e;exact Nat.lt_of_not_le λ z=>Nat.not_le_of_lt (this▸(Mt.mp E).1) (Nat.sub_le_sub_left z 5)
theorem D6.cvr {r:Nat->Nat->Bool}(A:D6 r o)(P:PO r)(C:o.length=6)(s:p<6)(w:q<6):EA (Nj r o) p q=EA r (OO o p) (OO o q):=by
 unfold EA;rw[Jc s w];congr 2;apply BH.mpr;simp;constructor
 ·rintro⟨c,hc,h,k⟩;rw[Jc s hc] at h;rw[Jc hc w] at k;exact⟨_,(A.sg C hc).1,h,k⟩
 ·rintro⟨c,hc,h,k⟩;obtain⟨d,z,rfl⟩:=A.all C hc;exact⟨d,z,by rw[Jc s z];exact h,by rw[Jc z w];exact k⟩
theorem D6.fallP {r:Nat->Nat->Bool}(s:D6 r o)(P:PO r)(k:o.length=6)(w:p<6):Uy (Nj r o) p=D5 (EA r) o (OO o p):=by
 delta Uy D5
 rw[k,show(Ap 6).reverse=(Ap 6).map (5-·) from rfl,Hi,Bd]
 have e:=Cr λ q h=>by
  refine Eq.trans (s.cvr P k w (As.mp h)) ?_;rfl
 rw[e];refine EK λ q h=>?_;have:=As.mp (Aw.mp h).1;exact Nat.succ_sub (A7 this)
theorem D6.gt {r:Nat->Nat->Bool}(h:D6 r o)(P:PO r)(k:o.length=6):∀p<5,OS (Nj r o) p=Ag:=λ p s=>by
 unfold OS;rw[h.fallP P k (CK s),h.fallP P k (Nat.le.step s)];have:=h.ae P (i:=4-p) (k.symm▸IK (CK (JY 4 p)));unfold OO;rw[show 5-(p+1)=4-p from Nat.succ_sub_succ 4 p,show 5-p=4-p+1 from Nat.succ_sub (A7 s),this];rfl
theorem D6.kf {r:Nat->Nat->Bool}(s:D6 r o)(P:PO r)(w:o.length=6){c:Nat->Nat}(m:GK r c):DT (EA r) 6 o.reverse=((Gc c 64).getD 63 0,[]):=by
 have O:=s.lj P w;have n:=u5 (P:=λ o=>o.reverse=[0,1,2,3,4,5].map (OO o)) (λ _ _ _ _ _ _=>rfl) o w;have Q:∀a∈[0,1,2,3,4,5],∀b∈[0,1,2,3,4,5],OO o a=OO o b->a=b:=λ a V b W=>by
  have z:∀x∈[0,1,2,3,4,5],x<6:=by decide
  exact s.gf w (z a V) (z b W)
 have z:∀x∈[0,1,2,3,4,5],x<6:=by decide
 rw[n,RI 6 _ Q,(Oz 6 _ λ a V b W=>(s.cvr P w (z a V) (z b W)).symm)];obtain⟨d,G,C⟩:=(sW O (s.gt P w));have t:∀p q,Nj r o p q=Ag->p∈[0,1,2,3,4,5]->q∈[0,1,2,3,4,5]:=λ p q h _=>by
  have:=O.six _ _ h;exact NM (by decide) (by decide) (by decide) (by decide) (by decide) (by decide) q this
 obtain⟨l,f,u⟩:=Vk O 6 [0,1,2,3,4,5] [] ⟨λ x k=>.inr (NM (by decide) (by decide) (by decide) (by decide) (by decide) (by decide) x k),z,λ x _=>by exact BG⟩ t d
 let g:Nat->Nat:=λ x=>5-o.idxOf x
 have Z:∀x<6,g (OO o x)=x:=λ x k=>by
  obtain⟨_,h,e⟩:=s.sg w k;show 5-o.idxOf (OO o x)=x;rw[e,GF s.nd];exact LU (A7 k)
 have E:∀x<6,OO o (g x)=x:=λ x k=>by
  obtain⟨p,A,rfl⟩:=s.all w k;exact congrArg _ (Z p A)
 have H:∀x<6,g x<6:=λ x _=>by exact CK (JY 5 (List.idxOf x o))
 obtain⟨i,v,y,B⟩:=fK m (TM (r:=Nj r o) (r':=r) (f:=OO o) (g:=g) (λ x k=>(s.sg w k).1) H Z E (λ p q A N=>(Jc A N).symm) l [] (by simp) u) (by rw[Aj,f];exact(eL (nx:=EA (Nj r o)) 6 [0,1,2,3,4,5]));have j:=TM (r':=Nj r o) H (λ x k=>(s.sg w k).1) E Z (λ p q A N=>by rw[Jc (H p A) (H q N),E p A,E q N]) v [] (by simp) y;simp only[Aj,f] at i;have D:(DT (EA (Nj r o)) 6 [0,1,2,3,4,5]).1<=(Gc c 64).getD 63 0:=by
  rw[<-B];refine By λ q=>?_;rcases C with C |C
  ·have:=uS j;simp only[Aj] at this;exact EW _ (Ao (Ay this q) (Az C))
  ·have:=bJ _ [] 0 ((DT (EA (Nj r o)) 6 [0,1,2,3,4,5]).1-1) PJ j (by rw[Aj];exact Nat.le_sub_one_of_lt q)
   replace this:=C.symm.trans this;exact Bv this
 rw[d,List.map_nil,(EI D i)]
end
noncomputable def VX (h:Obj):Option Fz:=match h.data with | .func fd=>Ab fd |_=>Ah
variable {a:List Ae} in
noncomputable def Uw (h:Obj):Option (Array Ae):=match h.data with | .fields a=>Ab a |_=>Ah
variable {a:Ai} in
noncomputable def uN:Ae->Option Ai
 | .ref a=>Ab a
 |_=>Ah
theorem VW (h:VX o=Ab fd):o.data=.func fd:=by
 obtain⟨k,s,d,w⟩:=o;cases d with
 |func f=>exact congrArg Data.func (AN h)
 |_=>contradiction
theorem S3 (h:Uw o=Ab a):o.data=.fields a:=by
 obtain⟨k,s,d,w⟩:=o;cases d with
 |fields f=>exact congrArg Data.fields (AN h)
 |_=>contradiction
theorem aS (h:uN v=Ab a):v=.ref a:=by
 cases v with
 |ref b=>exact congrArg BI (AN h)
 |_=>contradiction
theorem dU {v:Ae}(h:v.isStr q=Ag):∃t,v=.str q t:=by
 cases v with
 |str x t=>exact⟨t,congrArg (Value.str · t) (BO h)⟩
 |_=>contradiction
noncomputable def V2 (K:Frag)(a:Ai):Fz:=((K.lookup a).bind VX).getD default
variable {r:List Bq} in
noncomputable def PF:List Str->Bool
 |[]=>Ag
 |x::r=>!r.contains x&&PF r
theorem Ov:∀{l:List Str},PF l=Ag->l.Nodup:=by
 intro l;induction l with
 |nil=>
  intro _;exact .nil
 |cons x r k=>
  intro h
  replace h:=AB.mp (show(!r.contains x&&PF r)=Ag from h)
  refine Bz.mpr ⟨λ q=>?_,k h.2⟩
  replace h:=(E5.mpr q)▸h;cases h.1
noncomputable def mR (K:Frag)(a:Ai)(h:List Str):Option Bool:=(K.lookup a).bind λ o=>(VX o).bind λ fd=>(uN fd.code).bind λ c=>(K.lookup c).bind λ k=>(Uw k).bind λ s=>(s[1]?).map λ v=>
 (o.cls== .type "function")&&((k.cls== .type "code")&&(v.isStr fd.qualname&&(fd.closure.isEmpty&&(!fd.scope.isCoroutine&&(!fd.scope.isGenerator&&((fd.scope.kind== .function)&&((fd.globals==Cd)&&((fd.builtins==Jg)&&
  (h.all (λ x=>D1 x&&(fd.scope.names.lookup x==Ab .local||fd.scope.names.lookup x==Ab .cell))&&(PF h&&(PF (fd.scope.names.map (·.1))&&fd.scope.names.all (λ p=>!(p.2== .free)))))))))))))
theorem Fh {a:Ai}{b:List Bq}{d:List Str}{K:Frag}(I:K.In W.h0)(A:W.h0.NoLimit)(hc:mR K a d=Ab Ag)(j:(V2 K a).body=.stmts b)
 (k:∀(h:List Ae)(s:Aq),BA W W.h0 s.heap->h.length=d.length->BindsTo s (V2 K a) ⟨h,[]⟩ (d.zip h)):Gm W a (V2 K a) d b:=by
 refine Jr λ l C=>?_;obtain⟨o,Z,hc⟩:=AL.mp hc;obtain⟨m,e,hc⟩:=AL.mp hc;obtain⟨c,w,hc⟩:=AL.mp hc;obtain⟨n,E,hc⟩:=AL.mp hc;obtain⟨p,q,hc⟩:=AL.mp hc;obtain⟨v,z,hc⟩:=Bl.mp hc;refine C ?_;have H:V2 K a=m:=by unfold V2;rw[Z];exact congrArg (·.getD default) e
 generalize V2 K a=f at*;cases H;refine Jr λ l C=>?_;obtain⟨r,hc⟩:=AB.mp hc;obtain⟨u,hc⟩:=AB.mp hc;obtain⟨y,hc⟩:=AB.mp hc;obtain⟨B,hc⟩:=AB.mp hc;obtain⟨D,hc⟩:=AB.mp hc;obtain⟨G,hc⟩:=AB.mp hc;obtain⟨J,hc⟩:=AB.mp hc;obtain⟨L,hc⟩:=AB.mp hc;obtain⟨M,hc⟩:=AB.mp hc;obtain⟨R,hc⟩:=AB.mp hc;obtain⟨N,hc⟩:=AB.mp hc;obtain⟨O,Q⟩:=AB.mp hc;obtain⟨t,rfl⟩:=dU y;refine C ?_;have g:=BO r;have i:=BO u;exact⟨⟨o,I _ _ Z,VW e,g▸by decide,g▸by decide⟩,⟨c,n,p,t,aS w,I _ _ E,S3 q,z,i▸by decide,i▸by decide⟩,j,k,De.mp B,(CZ _).mp D,(CZ _).mp G,BO J,BO L,BO M,
  λ x V=>by
   have z:=AB.mp (AQ.mp R x V);exact⟨z.1,(Bool.or_eq_true_iff.mp z.2).imp BO BO⟩,Ov N,Ov O,λ x V=>Bv (show Au=Ag from AQ.mp Q (x,.free) (mem_of_lookup V)),A⟩
noncomputable abbrev P1:Fw:=PySem.Challenge.pw_oy0180_02
noncomputable def JP (b:List Bq):List Bq×Bf×Pos×Pos×Pos×Pos:=((LY b 0).b 0,(LY b 0).sc,(LY b 0).p,((LY b 0).e 0).p,((LY b 1).e 0).p,(LY b 1).p)
noncomputable def LQ:List Bq:=BE P1 1
noncomputable def dM:List Bq:=(JP LQ).1
noncomputable def w5:Bf:=(JP LQ).2.1
noncomputable def PZ:Pos:=(JP LQ).2.2.1
noncomputable def O? :Pos:=(JP LQ).2.2.2.1
noncomputable def O! :Pos:=(JP LQ).2.2.2.2.1
noncomputable def O':Pos:=(JP LQ).2.2.2.2.2
noncomputable def J9:List Str:=["__init__","__lt__","__gt__","__eq__","__le__","__ge__"]
noncomputable def It:Str:="cmp_to_key.<locals>.K"
noncomputable def rK (h:Ai)(i:Nat):L8:=(K9 h dM).getD i ⟨"","","",default,default,[],default,default,[]⟩
theorem Sp (h:Ai):K9 h dM=[rK h 0,rK h 1,rK h 2,rK h 3,rK h 4,rK h 5]:=by kernel_rfl
theorem x4 {g:Type}{P:g->Prop}{a b c d e f:g}(k:P a)(o:P b)(s:P c)(w:P d)(z:P e)(A:P f):∀x∈[a,b,c,d,e,f],P x:=λ x h=>by
 simp only[Al,BG,or_false] at h;rcases h with rfl |rfl |rfl |rfl |rfl |rfl<;>assumption
theorem La {a:Gs}(h:V.names.all (λ p=>!(p.2==a))=Ag):∀x,V.names.lookup x≠Ab a:=λ x e=>by
 have:=AQ.mp h (x,a) (mem_of_lookup e);simp at this
theorem cE (r:L8)(s:(!r.sc.isCoroutine&&!r.sc.isGenerator&&(r.sc.kind== .function)&&r.sc.names.all (λ p=>!(p.2== .cell))&&D1 r.x&&D1 r.y&&(r.sc.names.lookup r.x==Ab .local)&&(r.sc.names.lookup r.y==Ab .local)&&!(r.x==r.y))=Ag)
 (w:∀(h:Str)(k:List (Str×Ai))(z A C a b:Ae),bindArgs (V9 r.name h (OZ r.x r.y r.px r.py) r.body r.sc k z A C) ⟨[a,b],[]⟩=pure [(r.x,a),(r.y,b)]):US r:=by
 simp only[AG] at s;obtain⟨⟨⟨⟨⟨⟨⟨⟨E,H⟩,N⟩,O⟩,Q⟩,V⟩,W⟩,Z⟩,c⟩:=s;refine⟨by simpa using E,by simpa using H,BO N,λ x o q=>?_,λ x o=>?_,?_,w⟩
 ·have:=AQ.mp O x o
  (replace this:=(q)▸this;exact Bv this)
 ·simp only[Al,BG,or_false] at o;rcases o with rfl |rfl
  ·exact⟨Q,BO W⟩
  ·exact⟨V,BO Z⟩
 ·simp[(by simpa using c)]
theorem pK (r:L8)(k:Ai)(o:CmpOp)(T:US r)(h:(r.sc.names.lookup ("mycmp":Str)==Ab .free&&r.sc.names.all (λ p=>!(p.2== .free)||p.1=="mycmp")&&!(r.x==r.y)&&!(r.x=="mycmp")&&!(r.y=="mycmp"))=Ag)(hc:r.bk=[(("mycmp":Str),k)])
 (s:∃w z A C E H N O Q,∃V:Nat,r.body=[.Return (Ab (.Compare (.Call (.Name "mycmp" w) [.Attribute (.Name r.x z) "obj" A,.Attribute (.Name r.y C) "obj" E] [] H) [o] [.Constant (.int 0) V N] O)) Q]):oS r k o:=by
 simp only[AG] at h;refine⟨T,hc,BO h.1.1.1.1,λ x W=>?_,⟨by simpa using h.1.1.2,by simpa using h.1.2,by simpa using h.2⟩,s⟩;have:=AQ.mp h.1.1.1.2 (x,.free) (mem_of_lookup W);exact BO (this)
noncomputable def mP (r:L8):Nat->Pos:=Nk (λ p=>[.Assign [.Attribute (.Name r.x (p 0)) "obj" (p 1)] (.Name r.y (p 2)) (p 3)]) r.body
noncomputable def mC (r:L8):Nat->Pos:=Nk (λ p=>[.Return (Ab (.Compare (.Call (.Name "mycmp" (p 0)) [.Attribute (.Name r.x (p 1)) "obj" (p 2),.Attribute (.Name r.y (p 3)) "obj" (p 4)] [] (p 5)) [.Lt] [.Constant (.int 0) 0 (p 6)] (p 7))) (p 8)]) r.body
theorem rO:XE dM J9 where
 abs:=⟨by decide+kernel,by decide+kernel,by decide+kernel⟩
 lq:=λ h=>⟨rK h 0,by rw[Sp];exact Ad,by kernel_rfl,cE _ (by kernel_rfl) (λ _ _ _ _ _ _ _=>by kernel_rfl),by kernel_rfl,La (by kernel_rfl),by
  have:((rK h 0).x==(rK h 0).y)=Au:=by kernel_rfl
  exact of_decide_eq_false (this),mP (rK h 0) 0,mP (rK h 0) 1,mP (rK h 0) 2,mP (rK h 0) 3,by kernel_rfl⟩
 lt:=λ h=>⟨rK h 1,by rw[Sp];simp,by kernel_rfl,pK _ _ _ (cE _ (by kernel_rfl) (λ _ _ _ _ _ _ _=>by kernel_rfl)) (by kernel_rfl) (by kernel_rfl) ⟨mC (rK h 1) 0,mC (rK h 1) 1,mC (rK h 1) 2,mC (rK h 1) 3,mC (rK h 1) 4,mC (rK h 1) 5,mC (rK h 1) 6,mC (rK h 1) 7,mC (rK h 1) 8,0,by kernel_rfl⟩⟩
 gt:=λ h=>⟨rK h 2,by rw[Sp];simp,by kernel_rfl,pK _ _ _ (cE _ (by kernel_rfl) (λ _ _ _ _ _ _ _=>by kernel_rfl)) (by kernel_rfl) (by kernel_rfl) ⟨mC (rK h 2) 0,mC (rK h 2) 1,mC (rK h 2) 2,mC (rK h 2) 3,mC (rK h 2) 4,mC (rK h 2) 5,mC (rK h 2) 6,mC (rK h 2) 7,mC (rK h 2) 8,0,by kernel_rfl⟩⟩
noncomputable def lT (c:Ai):Obj:=Me #[BS PZ.line,BS PZ.col,.ref c]
noncomputable def dL (v:Nat->Ae)(P:Ai):Obj:={cls:=.type "code",data:=.fields #[v 0,v 1,v 2,v 3,v 4,v 5,v 6,v 7,v 8,v 9,v 10,.ref P,v 12,v 13,v 14,v 15,v 16,v 17,v 18]}
noncomputable def YC (m:Nat->Ai)(i:Nat):List Ae:=[BS (rK 0 i).pos.line,BS (rK 0 i).pos.col,.ref (m i)]
noncomputable def dI (m:Nat->Ai):Obj:=Me (YC m 0++YC m 1++YC m 2++YC m 3++YC m 4++YC m 5).toArray
structure tG (h:AS)(c P:Ai)(v:Nat->Ae)(m:Nat->Ai):Prop where
 ji:h.get? 16=Ab (lT c)
 code:h.get? c=Ab (dL v P)
 sub:h.get? P=Ab (dI m)
 k8:190<c/\190<P
 db:∀i<6,Da h (.ref (m i)) ((It++".")++(rK 0 i).name)
noncomputable def zU (h:AS):Prop:=h.get? 16=Ab (Me #[])\/∃c P v m,tG h c P v m
noncomputable def oP (o:List (Ai×Ai×List (Pos×Str)))(h:AS):Prop:=zU h/\∀t∈o,∃k,FC h t.1 t.2.1 k/\Pj h k t.2.2
theorem Vd (T:FC h c P a)(C:∀b o z,h.get? b=Ab o->o.data=.fields z->(o.cls=.none\/o.cls=.type "code")->H.get? b=Ab o):FC H c P a:=by
 obtain⟨o,z,s,N,k,O,A,w,Q,V,hc,E,r⟩:=T.hd;exact⟨⟨o,z,s,N,k,O,A,w,Q,C _ _ _ V E (.inr hc),hc,E,r⟩,C _ _ _ T.at_ rfl (.inl rfl),T.ok⟩
theorem NI (x:Da h f q)(s:∀b o k,h.get? b=Ab o->o.data=.fields k->(o.cls=.none\/o.cls=.type "code")->H.get? b=Ab o):Da H f q:=
 by obtain⟨c,o,k,t,a,b,hc,d,e⟩:=x;exact⟨c,o,k,t,a,s _ _ _ b d (.inr hc),hc,d,e⟩
theorem XW {v:Nat->Ae}{m:Nat->Ai}(T:tG h c P v m)(k:∀b o s,h.get? b=Ab o->o.data=.fields s->(o.cls=.none\/o.cls=.type "code")->H.get? b=Ab o):tG H c P v m:=
 ⟨k _ _ _ T.ji rfl (.inl rfl),k _ _ _ T.code rfl (.inr rfl),k _ _ _ T.sub rfl (.inl rfl),T.k8,λ i w=>NI (T.db i w) k⟩
theorem XV (s w:AS)(h:∀b o z,s.get? b=Ab o->o.data=.fields z->(o.cls=.none\/o.cls=.type "code")->w.get? b=Ab o)
 (T:oP d s):oP d w:=by
 refine⟨?_,λ t A=>let⟨C,E,H⟩:=T.2 t A;⟨C,Vd E h,λ r N O k=>NI (H r N O k) h⟩⟩;rcases T.1 with a |⟨c,P,v,m,a⟩
 ·exact .inl (h _ _ _ a rfl (.inl rfl))
 ·exact .inr ⟨c,P,v,m,XW a h⟩
theorem W3 (C:W.di=oP j)(Z:d∈W.TB)(E:(g,d,f)∈j)(H:16≠d)(N:d<=190)(l:∀t∈j,t=(g,d,f)\/(t.1≠d/\t.2.1≠d))(w:∀a∈f,∀b∈f,a.1.line=b.1.line->a.1.col=b.1.col->a=b):iH W g d f where
 mem:=Z
 k9:=w
 get:=λ h t=>by simp only[C] at t;exact t.2 _ E
 fg:=λ h n R O t hP k T G=>by
  simp only[C] at t ⊢;obtain⟨t1,L⟩:=t;obtain⟨p,Q,S⟩:=L _ E;have z:BB d h n:=λ b o q e=>k b o q e;refine⟨?_,λ V s=>?_⟩
  ·rcases t1 with a |⟨c,P,v,m,a⟩
   ·exact .inl (k _ _ H a)
   ·exact .inr ⟨c,P,v,m,k _ _ H a.ji,k _ _ (Dy (Ay N a.k8.1)) a.code,k _ _ (Dy (Ay N a.k8.2)) a.sub,a.k8,λ i u=>(a.db i u).ext Q z⟩
  ·rcases l V s with rfl |⟨x,y⟩
   ·exact⟨_,T,G⟩
   ·obtain⟨B,D,I⟩:=L V s;exact⟨B,D.extBut z x y,λ r J M A=>(I r J M A).ext Q z⟩
noncomputable def Pc:List Bq:=BE P1 43
noncomputable def EZ (i:Nat):Bq:=Pc.getD i (.Pass default)
noncomputable def EV.jl (l:EV):D8×Expr×Bf×Pos:=(l.ar,l.x 0,l.sc,l.p)
noncomputable def J5:List Bq:=BE P1 40
noncomputable def Fj:List Bq:=(LY J5 1).b 0
noncomputable def MK:D8×Expr×Bf×Pos:=(((Ip (Fj.getD 2 (.Pass default))).e 0).e 1).jl
noncomputable def PU:D8×Expr×Bf×Pos:=((JC ((((Ip (EZ 21)).e 0).ks.map (·.value)).getD 0 default)).e 1).jl
noncomputable def Nv:D8×Expr×Bf×Pos:=(((Ip (EZ 23)).e 0).e 1).jl
noncomputable def tW:List (Pos×Str):=[(PU.2.2.2,"law.<locals>.<lambda>"),(Nv.2.2.2,"law.<locals>.<lambda>")]
noncomputable def x6:List (Pos×Str):=[(MK.2.2.2,"_law_numbered.<locals>.<lambda>")]
noncomputable def w3:List (Ai×Ai×List (Pos×Str)):=[(172,170,x6),(187,185,tW)]
noncomputable def W1 (h:World)(k:AS):BV:=⟨P1,h,k,[16,170,185],oP w3,XV⟩
noncomputable abbrev K1 (h:World):Frag:=hk.1 h.params
noncomputable def ob (h:World)(a:Ai):Obj:=((K1 h).lookup a).getD {cls:=.none,data:=.plain}
variable {b:List (Str×PV)} in
noncomputable def nM (h:World)(a:Ai):Array DictEntry:=match(ob h a).data with | .dict b _=>b |_=> #[]
noncomputable def zH (h:World)(a:Ai):Nat:=match(ob h a).data with | .dict _ k=>k |_=>0
theorem kI {m:Str->Option Ae}(I:(K1 w).In h)(s:(K1 w).lookup a=Ab (ob w a))(z:(ob w a).data=.dict (nM w a) (zH w a))(A:h.Ns a m)(x:Str):m x=Ic (nM w a) x:=by
 obtain⟨o,H,N,k,C,_,E⟩:=A
 replace k:=Eq.trans (Eq.symm (I _ _ s)) k;cases k
 cases z.symm.trans C
 exact(E x).symm
theorem Eh {b:Bc->Option Ae}(I:(K1 w).In h)(T:Top c a b mg mb h)(x:Str):mg x=Ic (nM w 3) x:=kI I rfl rfl T.g x
theorem PI {v:Ae}{a:List Str}{b:Bc->Option Ae}{c:Fw}(T:Top c a b mg mb h){x:Str}(k:x≠"__name__")(e:bootBuiltins x=Ab v):mb x=Ab v:=(T.builtins x k).trans e
theorem XU (I:(K1 w).In h)(k:∀P∈[16,170,185],h.get? P=Ab (Me #[])):(W1 w h).di h:=
 ⟨.inl (k 16 Ad),λ t o=>by
   simp only[w3,Al,BG,or_false] at o;rcases o with rfl |rfl
   ·exact⟨#[],⟨Ph I rfl,k 170 (by decide),trivial⟩,λ r s z q=>by cases q⟩
   ·exact⟨#[],⟨Ph I rfl,k 185 (by decide),trivial⟩,λ r s z q=>by cases q⟩⟩
theorem fY {c:List (Pos×Str)}(h:(c.all λ a=>c.all λ b=>!(a.1.line==b.1.line&&a.1.col==b.1.col)||decide (a=b))=Ag):∀a∈c,∀b∈c,a.1.line=b.1.line->a.1.col=b.1.col->a=b:=by
 intro a k b o s w;have:=AQ.mp (AQ.mp h a k) b o;rw[s,w] at this;simpa using this
theorem u9:iH (W1 w h) 187 185 tW:=W3 rfl (by show(185:Nat)∈[16,170,185];decide) (.tail _ (.head _)) (by decide) (AM rfl) (by unfold w3;decide) (fY (by decide+kernel))
theorem u8:iH (W1 w h) 172 170 x6:=W3 rfl (by show(170:Nat)∈[16,170,185];decide) (.head _) (by decide) (AM rfl) (by unfold w3;decide) (fY (by decide+kernel))
theorem sY {b:Bc->Option Ae}(I:(K1 w).In h)(T:Top c a b mg mb h):∀f:BF,mg f.name=Ah/\mb f.name=Ab f.val:=λ f=>by
 cases f<;>exact⟨(Eh I T _).trans rfl,PI T (by decide+kernel) rfl⟩
section
set_option genInjectivity false
set_option genSizeOfSpec false
variable {n:Nat}{t:Expr}{hs:AS} in
structure Pz where
 w:World
 n:Nat
 t:Nat
 hz:Nat
 oa:List Ai
 O:List Obj
 fs:List Nat
 hs:List (List Nat)
 iL:Nat
 iN:Nat
 iK:Nat
 iS:Nat
 tS:Nat
noncomputable def vT (h:World):Fz:=match(ob h 21).data with | .func fd=>fd |_=>default
variable (z:Pz)
noncomputable def Pz.G (h:Nat):Gv:=⟨h,P1,z.w.params,z.n+50,z.t,z.oa⟩
noncomputable def Pz.ii:Env:=B4 (vT z.w) z.hz 21
noncomputable def Pz.nj (k x:Nat)(h:Ot)(p:Pl)(t:Sem Fin):Ot:=vG (z.G k) (z.fs.getD x 0) (z.hs.getD x []) p t h.T h.m h.i h.O
noncomputable def Pz.nx (k x:Nat)(h:Ot)(t:Sem Fin):Ot:=z.nj k x h h.pl t
noncomputable def Pz.start:Ot:=⟨Ah,.pure (.done .next),[],0,0,z.O,[]⟩
noncomputable def xO (t:Sem Fin):List (ON×Pos)->Sem Fin:=match t with
 | .stack k=>k
 |t=>λ _=>t
noncomputable abbrev ad (h:Nat):Ae:=.ref (z.n+50+h)
noncomputable def Pz.t0 (e:Sem Unit):Sem Fin:=C3 (zK e "K" It [.type "object"] [] dM w5 ["obj"] PZ.line z.ii PZ Ah) λ v=>.pure (.done (.ret v))
noncomputable def Pz.A1 (m:List (ON×Pos)->Sem Unit):Ot:=z.nx 0 0 z.start (z.t0 (C3 stack m))
noncomputable def Pz.U (m:Sem Unit):Sem Fin:=xO (z.A1 λ _=>m).t []
noncomputable def Pz.A2 (st:List (ON×Pos)):Ot:=vG (z.G 0) 1 [101] (z.A1 Tq).pl (z.U (Tq st)) (z.A1 Tq).T (z.A1 Tq).m (z.A1 Tq).i (z.A1 Tq).O
noncomputable def Pz.rA:Ot:=z.nx 0 1 (z.A1 Tq) (z.U (.pure ()))
noncomputable def Pz.fw:Args:=⟨[.type "type",.str "K" z.t,ad z 0,ad z 2],[]⟩
noncomputable def Pz.B (h:Nat)(a:Ae->Sem (Option Ae))(b:List Ae->Sem (List Ae))(j:Ae->List Ae->Sem Bool):Ot:=z.nx h 2 z.rA (xG a b j z.fw)
noncomputable def Pz.fv:Args:=⟨[ad z z.iN,ad z z.iL],[]⟩
noncomputable def Pz.rC (h:Nat)(a:Ae->Sem (Option Ae))(b:List Ae->Sem (List Ae))(j:Ae->List Ae->Sem Bool)(k:Ae->Ae->Bool):Ot:=z.nj h 3 (z.B 0 WR VH (pM gE)) (z.B 0 a b j).pl (yI (yT k) z.fv)
noncomputable def Pz.D (h:Nat)(a:Ae->Sem (Option Ae))(b:List Ae->Sem (List Ae))(j:Ae->List Ae->Sem Bool):Ot:=z.nj h 4 (z.rC 0 WR VH (pM gE) SN) (z.rC 0 a b j SN).pl (z.rC (h+1) a b j λ _ _=>Au).t
noncomputable def lU:List Ae:=[.type "object"]
noncomputable def hN (_:Ae):Sem (Option Ae):=.pure Ah
noncomputable def lN (_:List Ae):Sem (List Ae):=.pure lU
noncomputable def Pz.rE:Ot:=z.nx 0 5 (z.D 0 WR VH (pM gE)) (z.D 2 hN lN λ _ _=>.pure Au).t
noncomputable def Pz.fu:Args:=⟨[ad z z.iS,ad z z.iK,ad z z.iK],[]⟩
noncomputable def Pz.F (h:Nat)(j:List Ae->Ae->Bool):Ot:=z.nx h 6 z.rE (xQ (xS (pX j)) z.fu)
noncomputable def Pz.G2:Ot:=z.nx 0 7 (z.F 0 UD) (z.F 1 λ _ _=>Ag).t
noncomputable def Pz.ft:Args:=⟨[ad z z.iS,.str "__init_subclass__" (z.t+z.tS)],[]⟩
noncomputable def Pz.Hh (h:Nat)(j:Nat->Nat->Bool):Ot:=z.nx h 8 z.G2 (yP (jm j) z.ft)
noncomputable def Pz.I:Ot:=z.nx 0 9 (z.Hh 0 Nat.beq) (z.Hh 1 λ _ _=>Ag).t
noncomputable def z1 (h:World)(n t k:Nat)(o:Array (Option Ae)):Pz:=⟨h,n,t,k,[16,2,3,4,20],[Me #[],ob h 2,ob h 3,⟨.type "module",Ab 0,.plain,o⟩,ob h 20],[34,260,10,1,22,50,3,13,5,24],[[1,2,104,100,100,100,100,102,103,102],[2,2,102,2,2,2,2,2,2,2,2,2,2,2,2,2,2,2,5,4,4,4,4,102,103,102,2,2,2,5,4,4,4,4,102,103,102,2,2,2,5,4,4,4,4,102,103,102,2,2,2,5,4,4,4,4,102,103,102,2,2,2,5,4,4,4,4,102,103,102,2,2,2,5,4,4,4,4,102,103,102,2,2,2,2,2,2,2,2,2],[0,2,0,2,2,7],[7],[7,56,56,56,56,56,57,57,57,58,58,58,57,57,57,57,57,57,57],[58,58,58,58,58,58,58,57,57,57,57,57,58,58,58,58,57,57,57,57,57,57,57,7,14,22,30,38,46,54,55,59,58,60,60,60],[58,58,58],[60,60,60,60,60,60,60,60],[60,60,60,101,58],[58,58,61,58,58,58,58,58,58,58]],7,56,58,60,76⟩
noncomputable def z2 (h:World)(n t k:Nat)(o:Array (Option Ae))(c P:Ai)(v:Nat->Ae)(m:Nat->Ai):Pz:=⟨h,n,t,k,[16,2,3,4,20,c,P],[lT c,ob h 2,ob h 3,⟨.type "module",Ab 0,.plain,o⟩,ob h 20,dL v P,dI m],[22,159,10,1,22,50,3,13,5,24],[[1,2,104,100,102,103,102],[2,2,102,2,2,2,2,2,2,2,2,2,2,2,2,2,2,2,105,106,102,103,102,2,2,2,105,106,102,103,102,2,2,2,105,106,102,103,102,2,2,2,105,106,102,103,102,2,2,2,105,106,102,103,102,2,2,2,105,106,102,103,102,2,2,2,2,2,2,2,2,2],[0,2,0,2,2,4],[4],[4,17,17,17,17,17,18,18,18,19,19,19,18,18,18,18,18,18,18],[19,19,19,19,19,19,19,18,18,18,18,18,19,19,19,19,18,18,18,18,18,18,18,4,5,7,9,11,13,15,16,20,19,21,21,21],[19,19,19],[21,21,21,21,21,21,21,21],[21,21,21,101,19],[19,19,22,19,19,19,19,19,19,19]],4,17,19,21,23⟩
end
section
set_option genInjectivity false
set_option genSizeOfSpec false
noncomputable def Ly (h:Ot):Prop:=h.ab.map (·.1)=h.ab.map (·.2)
theorem Ly.all {b:Ot}(h:Ly b):∀x∈b.ab,x.1=x.2:=by
 unfold Ly at h
 revert h
 generalize b.ab=l;intro h;induction l with
 |nil=>exact λ _ q=>(by cases q)
 |cons a l k=>
  simp only[Bu,Bu,List.cons.injEq] at h;intro x o;cases o with
  |head=>exact h.1
  |tail _ q=>exact k h.2 x q
noncomputable abbrev iV:Ae->List Ae->Sem Bool:=pM gE
variable (z:Pz)
variable {p1 p2:Pos} in
structure Xz:Prop where
 s1:∀K,(z.A1 K).t=.stack (xO (z.A1 K).t)
 s2:∀K st,xO (z.A1 K).t st=z.U (K st)
 s3:∀st,(z.A2 st).t=z.U (w4 st 1000)
 p1:(z.A1 Tq).pl=Ah
 p2:∀st,(z.A2 st).pl=Ah
 t2:∀st,(z.A2 st).T=(z.A1 Tq).T
 m2:∀st,(z.A2 st).m=(z.A1 Tq).m
 i2:∀st,(z.A2 st).i=(z.A1 Tq).i
 o2:∀st,(z.A2 st).O=(z.A1 Tq).O
 a1:Ly (z.A1 Tq)
 a2:∀st,Ly (z.A2 st)
 aA:Ly z.rA
 aB:Ly (z.B 0 WR VH iV)
 aC:Ly (z.rC 0 WR VH iV SN)
 aD:Ly (z.D 0 WR VH iV)
 aE:Ly z.rE
 aF:Ly (z.F 0 UD)
 aG:Ly z.G2
 aH:Ly (z.Hh 0 Nat.beq)
 aI:Ly z.I
 eA:z.rA.t=xG WR VH iV z.fw
 eB:(z.B 0 WR VH iV).t=yI (yT SN) z.fv
 eC:∀a b j j2,(z.rC 0 a b j j2).t=(z.rC 1 a b j (λ _ _=>j2 (ad z z.iN) (ad z z.iL))).t
 eD1:∀a b j,(z.D 0 a b j).t=C3 (a (.type "type")) (λ v=>(z.D 0 (λ _=>.pure v) b j).t)
 eD2:∀b j,(z.D 0 hN b j).t=C3 (b [.type "object"]) (λ v=>(z.D 0 hN (λ _=>.pure v) j).t)
 eD3:∀j,(z.D 0 hN lN j).t=C3 (j (ad z z.iK) [ad z z.iK,.type "object"]) (λ v=>(z.D 2 hN lN (λ _ _=>.pure v)).t)
 eE:z.rE.t=xQ (xS (pX UD)) z.fu
 eF:∀j,(z.F 0 j).t=(z.F 1 (λ _ _=>j [ad z z.iK,.type "object"] (ad z z.iK))).t
 eG:z.G2.t=yP rb z.ft
 eH:∀j,(z.Hh 0 j).t=(z.Hh 1 (λ _ _=>j (z.n+50+z.iK) (z.n+50+z.iK))).t
 eI:z.I.t=.pure (.done (.ret (ad z z.iK)))
 pI:z.I.pl=Ah
theorem uL (h:World)(n t k:Nat)(o:Array (Option Ae)):Xz (z1 h n t k o):=by
 constructor<;>intros<;>(try unfold Ly)<;>kernel_rfl
theorem uK (h:World)(n t k:Nat)(o:Array (Option Ae))(c P:Ai)(v:Nat->Ae)(m:Nat->Ai):Xz (z2 h n t k o c P v m):=by
 constructor<;>intros<;>(try unfold Ly)<;>kernel_rfl
end
section
theorem rH (h:a≠b):SN (.ref a) (.ref b)=Au:=by
 exact decide_eq_false h
theorem nN (v:Ae)(l:List Ae):UD (v::l) v=Ag:=by
 unfold UD;rw[<-PySem.W.Fast.te7966671052430208091,<-PySem.W.Fast.te3471404346716756564,Hm,beq_self_eq_true,Bool.true_or]
theorem mS:mT (.ref a) [.ref a,.type "object"]=lU:=by
 unfold mT;rw[<-PySem.W.Fast.te7966671052430208091,<-PySem.W.R.filterR_eq,Lu (by rw[bne_self_eq_false];exact CQ),Ls rfl];rfl
theorem oH:@List.anyM Sem Ex Ae gE lU=.pure Au:=rfl
theorem tA:iV (.ref a) [.ref a,.type "object"]=.pure Au:=by
 show@List.anyM Sem Ex Ae gE (mT (.ref a) [.ref a,.type "object"])=_;rw[mS,oH]
theorem kX:WR (.type "type")=.pure Ah:=rfl
theorem rJ:VH [.type "object"]=.pure lU:=rfl
noncomputable def z8 (h:Obj)(st:List (ON×Pos))(t:Sem Unit):Sem Unit:=match t with
 | .stack k=>k st
 | .load _ _ k=>k h
 |t=>t
theorem vB (st:List (ON×Pos)):w4 st 1000=z8 {cls:=.none,data:=.dict #[] 0} st (z8 {cls:=.none,data:=.dict #[] 0} st (PySem.W.X.enterQ 0)):=by
 have h:PySem.W.X.enterQ 0=C3 stack Tq:=by
  rw[<-pG,<-PySem.W.X.enterQ_eq];show _=Ew 0;rw[PySem.W.Fast.te15066281185411960212]
 rw[h];kernel_rfl
theorem lS {st:List (ON×Pos)}(l:PySem.W.X.Lies A st)(h:A.depth<O3):w4 st 1000=.pure ():=by
 rw[vB];show cond (X.nearF st 0 1000) _ (cond (X.overF st 0 1000) _ (cond (X.warmF st 0 1000) _ (pure ())))=_;rw[show X.nearF st 0 1000=Au from l.near' h 0,show X.overF st 0 1000=Au from l.over h 0,show X.warmF st 0 1000=Au from l.warm h 0];rfl
section
variable {Q:Fin->Aq->Prop}
noncomputable abbrev Ow (k:Pz)(o:Dj)(s:Fin->Aq->Prop)(w:I9)(h:AS)(g:Array CB)(d:M9)(os:GS)(z:Ot):Prop:=OX P1 k.w o s w (k.G 0) h g d os z
theorem Ow.nx {g:Array CB}{c:AS}{os:GS}{j:Pz}{d:M9}{b i:Ot}{p:Pl}{f:Nat}{l:List Nat}{t:Sem Fin}(a:Ly b)(x:Ow j A Q E c g d os i)(k:i=vG (j.G 0) f l p t b.T b.m b.i b.O)(o:p=b.pl)(e:b.t=t):Ow j A Q E c g d os b:=
 ⟨a.all,λ h D=>by subst o;exact e▸P7 ⟨rfl,rfl⟩ _ _ _ _ _ _ _ _ h D (k▸x)⟩
theorem Wf {g:Array CB}{a:AS}{os:GS}{b:Pz}{d:M9}(R:Xz b)(k:b.iN≠b.iL)(o:A.depth<O3)(x:Ow b A Q E a g d os b.I):Ow b A Q E a g d os (b.A1 Tq):=by
 have s:Ow b A Q E a g d os b.G2:=.nx R.aG (.nx R.aH x (by rfl) rfl (by rw(occs:=.all) [R.eH,Nat.beq_refl _])) (by rfl) rfl (R.eG.trans (by rw[rR]));have w:Ow b A Q E a g d os b.rE:=.nx R.aE (.nx R.aF s (by rfl) rfl (by rw(occs:=.all) [R.eF,nN])) (by rfl) rfl R.eE;have z:Ow b A Q E a g d os (b.D 0 WR VH iV):=by
  refine .nx R.aD w (by rfl) rfl ?_;rw(occs:=.all) [R.eD1,kX];refine(R.eD2 VH iV).trans ?_;rw[rJ];refine(R.eD3 iV).trans ?_;rw[tA];rfl
 have C:Ow b A Q E a g d os (b.rC 0 WR VH iV SN):=by
  refine .nx R.aC z (by rfl) rfl ?_;rw[R.eC,rH λ e=>k (Nat.add_left_cancel e)]
 have H:Ow b A Q E a g d os b.rA:=.nx R.aA (.nx R.aB C (by rfl) rfl R.eB) (by rfl) rfl R.eA;have N:∀st,PySem.W.X.Lies A st->Ow b A Q E a g d os (b.A2 st):=λ st l=>.nx (R.a2 st) H (by rw[R.t2,R.m2,R.i2,R.o2];rfl) (R.p1.trans (R.p2 st).symm) (by rw[R.s3,lS l o]);refine⟨R.a1.all,λ h D=>?_⟩;rw[R.p1,R.s1];refine Mn.stack λ st l=>?_;rw[R.s2];have y:=N st l;unfold Pz.A2 at y;rw[R.p1] at y;exact P7 ⟨rfl,rfl⟩ _ _ _ _ _ _ _ _ h D y
end
end
section
set_option genInjectivity false
set_option genSizeOfSpec false
variable (z:Pz)
variable {a:List Ae} in
noncomputable def U3 (h:Option Obj):Array Ae:=match h with
 |some ⟨_,_,.fields a,_⟩=>a
 |_=> #[]
noncomputable abbrev at_ (h:Nat):Ai:=z.n+50+h
noncomputable def Pz.pm:Ae:=(Ic (nM z.w 3) "__name__").getD .none
noncomputable def Pz.mr (i:Nat):L8:=rK (z.hz+1) i
noncomputable def Pz.qual (i:Nat):Str:=(It++".")++(z.mr i).name
noncomputable def Pz.lp (i:Nat)(h k:Ae):Obj:=Xq (z.mr i).name (z.qual i) (OZ (z.mr i).x (z.mr i).y (z.mr i).px (z.mr i).py) (z.mr i).body (z.mr i).sc (z.mr i).bk z.pm h k
noncomputable def Og (k:World)(h:Str)(o:Nat)(v:Ae):DictEntry:=⟨PyData.keyHash k.params h,.str h o,v⟩
noncomputable def ZC (h:World)(k:Nat->Nat)(u:Nat->Ae):Array DictEntry:= #[Og h "__module__" (k 0) (u 0),Og h "__firstlineno__" (k 1) (u 1),Og h "__slots__" (k 2) (u 2),Og h "__init__" (k 3) (u 3),Og h "__lt__" (k 4) (u 4),Og h "__gt__" (k 5) (u 5),Og h "__eq__" (k 6) (u 6),Og h "__le__" (k 7) (u 7),Og h "__ge__" (k 8) (u 8),Og h "__hash__" (k 9) (u 9),Og h "__static_attributes__" (k 10) (u 10),Og h "obj" (k 11) (u 11),Og h "__doc__" (k 12) (u 12)]
structure Ws (tk:Nat->Nat)(u:Nat->Ae)(f:Nat->Nat)(cv:Nat->Ae):Prop where
 cls:∃sl,z.I.T[z.iK]? =Ab ⟨.type "type",Ah,.cls {C! (at_ z z.iK) (at_ z (z.iK-1)) "K" It with hasDict:=Au,slotNames:=["obj"]},sl⟩/\(sl[4]?).join=Ab (.builtin "object.__new__")
 mem:∃tk,z.I.T[z.iK+1]? =Ab (VC "obj" tk (at_ z z.iK))
 ns:z.I.T[z.iK-1]? =Ab (gG (ZC z.w tk u) 3)
 um:∀i<6,u (3+i)=.ref (at_ z (f i))
 uo:u 11=.ref (at_ z (z.iK+1))
 ud:u 12=.none
 mt:∀i<6,∃ct,z.I.T[f i]? =Ab (z.lp i (cv i) ct)
theorem l6 {P:Nat->Prop}(a:P 0)(b:P 1)(c:P 2)(d:P 3)(e:P 4)(f:P 5):∀i<6,P i
 |0,_=>a |1,_=>b |2,_=>c |3,_=>d |4,_=>e |5,_=>f
  |n+6,h=>absurd h (Hj (El h (Ak (BZ 6) n)))
section
variable (w:World)(n t hz:Nat)(sl:Array (Option Ae))
theorem N? :Ws (z1 w n t hz sl) (λ i=>t+[8,12,16,24,33,42,51,60,69,70,72,74,75].getD i 0) (λ i=>[.str "cpy313.functools" (t+13),.int 4 (t+11),.ref (n+50+7),.ref (n+50+14),.ref (n+50+22),.ref (n+50+30),.ref (n+50+38),.ref (n+50+46),.ref (n+50+54),.none,.ref (n+50+55),.ref (n+50+59),.none].getD i .none) (λ i=>14+8*i) (λ i=>ad (z1 w n t hz sl) (13+8*i)) where
 cls:=⟨#[Ab (.ref (n+50+0)),Ah,Ab (.str "K" t),Ab (.str It (t+9)),Ab (.builtin "object.__new__"),Ab (.bool Au)],by kernel_rfl,rfl⟩
 mem:=⟨t+73,by kernel_rfl⟩
 ns:=by kernel_rfl
 um:=l6 rfl rfl rfl rfl rfl rfl
 uo:=rfl
 ud:=rfl
 mt:=l6 ⟨.none,by kernel_rfl⟩ ⟨.ref (n+50+15),by kernel_rfl⟩ ⟨.ref (n+50+23),by kernel_rfl⟩ ⟨.ref (n+50+31),by kernel_rfl⟩ ⟨.ref (n+50+39),by kernel_rfl⟩ ⟨.ref (n+50+47),by kernel_rfl⟩
theorem N! (c P:Ai)(v:Nat->Ae)(m:Nat->Ai):Ws (z2 w n t hz sl c P v m) (λ i=>t+[2,6,10,11,12,13,14,15,16,17,19,21,22].getD i 0) (λ i=>[.str "cpy313.functools" (t+7),.int 4 (t+5),.ref (n+50+4),.ref (n+50+5),.ref (n+50+7),.ref (n+50+9),.ref (n+50+11),.ref (n+50+13),.ref (n+50+15),.none,.ref (n+50+16),.ref (n+50+20),.none].getD i .none) (λ i=>5+2*i) (λ i=>.ref (m i)) where
 cls:=⟨#[Ab (.ref (n+50+0)),Ah,Ab (.str "K" t),Ab (.str It (t+3)),Ab (.builtin "object.__new__"),Ab (.bool Au)],by kernel_rfl,rfl⟩
 mem:=⟨t+20,by kernel_rfl⟩
 ns:=by kernel_rfl
 um:=l6 rfl rfl rfl rfl rfl rfl
 uo:=rfl
 ud:=rfl
 mt:=l6 ⟨.none,by kernel_rfl⟩ ⟨.ref (n+50+6),by kernel_rfl⟩ ⟨.ref (n+50+8),by kernel_rfl⟩ ⟨.ref (n+50+10),by kernel_rfl⟩ ⟨.ref (n+50+12),by kernel_rfl⟩ ⟨.ref (n+50+14),by kernel_rfl⟩
variable {c:Ai}{q:Pos}{m:Str->Option Ae} in
structure tN (vv:Nat->Nat->Ae):Prop where
 c:(z1 w n t hz sl).I.T[5]? =Ab (dL (vv 6) (n+50+4))
 tb:(z1 w n t hz sl).I.T[4]? =Ab (dI λ i=>n+50+(13+8*i))
 o:(z1 w n t hz sl).I.O[0]? =Ab (lT (n+50+5))
 q:∃tk,vv 6 1=.str It tk
 m:∀i<6,∃tk vs,(z1 w n t hz sl).I.T[13+8*i]? =Ab {cls:=.type "code",data:=.fields vs}/\vs[1]? =Ab (.str ((z1 w n t hz sl).qual i) tk)
theorem W? :tN w n t hz sl λ _ k=>(U3 ((z1 w n t hz sl).I.T[5]?)).getD k .none where
 c:=by kernel_rfl
 tb:=by kernel_rfl
 o:=by kernel_rfl
 q:=⟨t+3,by kernel_rfl⟩
 m:=l6 ⟨t+18,U3 ((z1 w n t hz sl).I.T[13]?),by kernel_rfl,by kernel_rfl⟩ ⟨t+26,U3 ((z1 w n t hz sl).I.T[21]?),by kernel_rfl,by kernel_rfl⟩ ⟨t+35,U3 ((z1 w n t hz sl).I.T[29]?),by kernel_rfl,by kernel_rfl⟩ ⟨t+44,U3 ((z1 w n t hz sl).I.T[37]?),by kernel_rfl,by kernel_rfl⟩ ⟨t+53,U3 ((z1 w n t hz sl).I.T[45]?),by kernel_rfl,by kernel_rfl⟩ ⟨t+62,U3 ((z1 w n t hz sl).I.T[53]?),by kernel_rfl,by kernel_rfl⟩
end
end
section
set_option genInjectivity false
set_option genSizeOfSpec false
theorem oG:@buildClass=zK (C3 stack Tq):=by
 rw[PySem.W.Fast.te1785580099245652887,s7,pG]
theorem HC.start (s:h.objs.size=n)(w:∀(k:Nat)(a:Ai)(o:Obj),(P::b)[k]? =Ab a->c[k]? =Ab o->h.get? a=Ab o)(z:∀a∈P::b,a<n)(A:P∉b):HC n (P::b) h h [] 0 c:=
 ⟨s,s,rfl,λ _ _ e=>((by contradiction)),w,λ _ _ e _=>e,z,λ k a C E=>by
   cases E
   cases k with
   |zero=>rfl
   |succ k=>exact absurd (Cp (l:=b) C) A⟩
section
theorem Qp {P:Ai}{g:Array CB}{os:GS}{z:Pz}{d:M9}(R:Xz z)(C:z.iN≠z.iL){b:List Ai}(O:z.oa=P::b)(W:P∉b)(Z:A.depth<O3)(c:h.objs.size=z.n+50)
 (e:∀(k:Nat)(a:Ai)(o:Obj),(P::b)[k]? =Ab a->z.O[k]? =Ab o->h.get? a=Ab o) (i:∀a∈P::b,a<z.n+50)
 (j:∀w,HC (z.n+50) (P::b) h w z.I.T z.I.m z.I.O->Q (ad z z.iK) ⟨w,g,d,z.t+z.I.i,os⟩):
 Av (model P1 z.w) A (buildClass "K" It [.type "object"] [] dM w5 ["obj"] PZ.line z.ii PZ Ah) Q E ⟨h,g,d,z.t,os⟩:=by
 let V:Fin->Aq->Prop:=λ H s=>match H with | .done (.ret v)=>Q v s |_=>False
 have x:Ow z A V E h g d os z.I:=⟨R.aI.all,λ w D=>by rw[R.pI,R.eI];exact Ar (j w (O▸D))⟩;have y:=Wf R C Z x;have D:HC (z.G 0).n (z.G 0).oa h h [] 0 z.O:=by
  show HC (z.n+50) z.oa h h [] 0 z.O;rw[O];exact HC.start c e i W
 have m:Mn P1 z.w A V E Ah (z.t0 (C3 stack Tq)) ⟨h,g,d,z.t+0,os⟩:=by
  unfold Pz.A1 Pz.nx Pz.nj at y;exact P7 ⟨rfl,rfl⟩ _ _ _ _ _ _ _ _ h D y
 intro l p N;have k:=m l p N;unfold Pz.t0 at k;rw[<-oG,<-PySem.W.R.bindR_eq] at k;rw[show ∀a f,Sem.bind a f=a >>=f from λ _ _=>rfl,Sem.wp_bind'] at k;exact k
end
section
noncomputable def dJ:List Str:=["__module__","__firstlineno__","__slots__","__init__","__lt__","__gt__","__eq__","__le__","__ge__","__hash__","__static_attributes__","obj","__doc__"]
theorem P2 {a:Nat->Nat}{u:Nat->Ae}:(ZC w a u).toList.map (·.key)=dJ.zipIdx.map λ x=>.str x.1 (a x.2):=rfl
theorem lY {a:Nat->Nat}{u:Nat->Ae}:StrKeys (ZC w a u):=λ e h=>by
 have q:e.key∈(ZC w a u).toList.map (·.key):=DR (IN.mpr h)
 rw[P2] at q;obtain⟨x,_,k⟩:=AF.mp q;exact⟨_,_,k.symm⟩
theorem dK {c:Nat->Nat}{u:Nat->Ae}:UniqKeys (ZC w c u):=by
 have q:((ZC w c u).toList.map (·.key)).Pairwise λ a b=>∀n,a.isStr n=Ag->b.isStr n=Ag->False:=by
  rw[P2,List.pairwise_map];refine List.Pairwise.imp (R:=λ a b=>a.1≠b.1) (λ h n k o=>h ?_) (by decide+kernel);exact(BO k).trans (BO o).symm
 exact List.pairwise_map.mp q
theorem Ui {a:Nat->Nat}{u:Nat->Ae}(h:x∉dJ):Ic (ZC w a u) x=Ah:=by
 simp only[Ic,findBy];rw[Option.map_eq_none_iff,Array.find?_eq_none];intro e k;have q:e.key∈(ZC w a u).toList.map (·.key):=DR (IN.mpr k)
 rw[P2] at q;obtain⟨y,o,hk⟩:=AF.mp q;rw[<-hk];intro z;exact h (BO z▸(List.mem_zipIdx o).2.2▸Dg _)
end
end
set_option genInjectivity false
set_option genSizeOfSpec false
section
noncomputable def kM (h:World)(k:Nat->Nat)(u:Nat->Ae)(x:Str):Option Ae:=if x="obj"\/x="__doc__" then Ah else Ic (ZC h k u) x
theorem Sr (h:Ai):∀i<6,(rK h i).name=J9.getD i "":=l6 rfl rfl rfl rfl rfl rfl
theorem lW (h:World)(k:Nat->Nat)(u:Nat->Ae)(o:i<6)(s:Ai):kM h k u (rK s i).name=Ab (u (3+i)):=by
 rw[Sr s i o];exact l6 (P:=λ i=>kM h k u (J9.getD i "")=Ab (u (3+i))) (by unfold kM;rfl) (by unfold kM;rfl) (by unfold kM;rfl) (by unfold kM;rfl) (by unfold kM;rfl) (by unfold kM;rfl) i o
theorem lV {b:Pz}{c:Nat->Nat}{u:Nat->Ae}(h:Qn.contains x=Au)(o:x∉J9):kM b.w c u x=Ah:=by
 unfold kM;split
 ·rfl
 ·rename_i q;refine Ui λ s=>?_;rcases(by decide+kernel:∀k∈dJ,Qn.contains k=Ag\/k∈J9\/k="obj"\/k="__doc__") x s with a |a |a
  ·cases h.symm.trans a
  ·exact o a
  ·exact q a
theorem rP {a:Pz}{b:Nat->Nat}{u:Nat->Ae}(x:Str)(h:u 11=.ref c)(k:u 12=.none):Ic (ZC a.w b u) x=ZN (ZN (sT (kM a.w b u) "__qualname__") "obj" (.ref c)) "__doc__" .none x:=by
 delta ZN sT
 split
 ·rename_i e;subst e;exact(show Ic (ZC a.w b u) "__doc__"=Ab (u 12) by kernel_rfl).trans (congrArg Ab k)
 ·rename_i o;split
  ·rename_i e;subst e;exact(show Ic (ZC a.w b u) "obj"=Ab (u 11) by kernel_rfl).trans (congrArg Ab h)
  ·rename_i s;split
   ·rename_i e;subst e;exact Ui (by decide+kernel)
   ·unfold kM;rw[if_neg λ q=>q.elim s o]
theorem dF {b:Pz}{c f:Nat->Nat}{u d:Nat->Ae}(F:Ws b c u f d)(D:HC (b.n+50) g h H b.I.T b.I.m b.I.O)(hc:∀i<6,Da H (d i) (b.qual i)):iI H (at_ b b.iK) It "obj" b.pm J9 (K9 (b.hz+1) dM):=by
 obtain⟨E,w,z⟩:=F.cls;obtain⟨s,A⟩:=F.mem;refine⟨kM b.w c u,⟨_,_,_,s,D.new _ _ w,rfl,rfl,rfl,z,⟨⟨_,_,D.new _ _ F.ns,lY,dK,λ x=>rP x F.uo F.ud⟩⟩,D.new _ _ A⟩,?_,λ x=>lV⟩;have k:∀i<6,∃a,kM b.w c u (rK (b.hz+1) i).name=Ab (.ref a)/\MY H a ((It++".")++(rK (b.hz+1) i).name) b.pm (rK (b.hz+1) i):=λ i o=>by
  obtain⟨C,e⟩:=F.mt i o;exact⟨_,(lW _ _ _ o _).trans (congrArg Ab (F.um i o)),d i,C,D.new _ _ e,hc i o⟩
 rw[Sp];exact x4 (k 0 (DN _)) (k 1 (AM rfl)) (k 2 (AM rfl)) (k 3 (AM rfl)) (k 4 (AM rfl)) (k 5 (An _))
end
variable {args:List PV} in
noncomputable def Rn (l:List Arg):D8:={posonlyargs:=[],args:=l,vararg:=Ah,kwonlyargs:=[],kw_defaults:=[],kwarg:=Ah,defaults:=[]}
variable {i:Nat}{a:List Str}{p:Evs} in
noncomputable def Wl (f:Nat->Pos):List Str->Nat->List Arg
 |[],_=>[]
 |p::a,i=>⟨p,Ah,f i⟩::Wl f a (i+1)
noncomputable def JX (o:List Str):Prop:=∀(k:Fz)(f:Nat->Pos),k.params=Rn (Wl f o 0)->k.defaults=.none->k.kwdefaults=.none->∀h:List Ae,h.length=o.length->bindArgs k ⟨h,[]⟩=(pure (o.zip h):Sem (List (Str×Ae)))
theorem IY (B:JX a){f:Nat->Pos}(s:fd.params=Rn (Wl f a 0))(w:fd.defaults=.none)(hk:fd.kwdefaults=.none)(k:BV)(h:List Ae)(o:Aq)(_:BA k k.h0 o.heap)(z:h.length=a.length):BindsTo o fd ⟨h,[]⟩ (a.zip h):=.of_eq (B fd f s w hk h z)
theorem Te:JX ["sequences"]:=λ k f o s hk h w=>by
 obtain⟨a,rfl⟩:=QR w;cases k;subst o;subst s;subst hk;rfl
theorem Tf:JX ["resp","peer"]:=λ k f o s hk h w=>by
 obtain⟨a,b,rfl⟩:=Nu w;cases k;subst o;subst s;subst hk;rfl
theorem oF:JX ["resp"]:=λ k f o s hk h w=>by
 obtain⟨a,rfl⟩:=QR w;cases k;subst o;subst s;subst hk;rfl
theorem Pi:JX ["mode"]:=λ k f o s hk h w=>by
 obtain⟨a,rfl⟩:=QR w;cases k;subst o;subst s;subst hk;rfl
theorem Q3:JX ["name","place"]:=λ k f o s hk h w=>by
 obtain⟨a,b,rfl⟩:=Nu w;cases k;subst o;subst s;subst hk;rfl
theorem Km:JX ["names","modes","spoiled"]:=λ k f o s hk h w=>by
 obtain⟨a,b,c,rfl⟩:=u6 w;cases k;subst o;subst s;subst hk;rfl
theorem Qy:JX ["state","reply"]:=λ k f o s hk h w=>by
 obtain⟨a,b,rfl⟩:=Nu w;cases k;subst o;subst s;subst hk;rfl
theorem QA:JX ["names","nexts"]:=λ k f o s hk h w=>by
 obtain⟨a,b,rfl⟩:=Nu w;cases k;subst o;subst s;subst hk;rfl
theorem Qz:JX ["state","nexts"]:=λ k f o s hk h w=>by
 obtain⟨a,b,rfl⟩:=Nu w;cases k;subst o;subst s;subst hk;rfl
theorem hM:JX ["pairs"]:=λ k f o s hk h w=>by
 obtain⟨a,rfl⟩:=QR w;cases k;subst o;subst s;subst hk;rfl
theorem Zo:JX ["script"]:=λ k f o s hk h w=>by
 obtain⟨a,rfl⟩:=QR w;cases k;subst o;subst s;subst hk;rfl
theorem hO:JX ["mycmp"]:=λ k f o s hk h w=>by
 obtain⟨a,rfl⟩:=QR w;cases k;subst o;subst s;subst hk;rfl
noncomputable abbrev Fa (h:World)(a:Ai):Fz:=V2 (K1 h) a
noncomputable abbrev GN (h:World)(k:AS):=(K1 h).In k
noncomputable abbrev Ko (k:World)(o:AS)(n:Ai)(h:Env)(s:AS):=XB (W1 k o) (Fa k n).scope h s
noncomputable abbrev GW (h:World)(k:AS)(o:GE)(s:Nat)(w z:Str->Option Ae):=EY (W1 h k) o s w z
noncomputable def MS (h:World)(a:Ai)(j:Nat):Pos:=match(Fa h a).params.args[j]? with |some x=>x.pos |none=>default
theorem vI {b:Bc->Option Ae}(I:GN w h)(T:Top c a b mg mb h):Gm (W1 w h) 35 (Fa w 35) ["sequences"] (BE P1 4):=Fh I T.nolimit rfl rfl (IY Te (f:=MS w 35) rfl rfl rfl _)
theorem Qf {b:Bc->Option Ae}(I:GN w h)(T:Top c a b mg mb h):Gm (W1 w h) 79 (Fa w 79) ["resp","peer"] (BE P1 9):=Fh I T.nolimit rfl rfl (IY Tf (f:=MS w 79) rfl rfl rfl _)
theorem SZ {b:Bc->Option Ae}(I:GN w h)(T:Top c a b mg mb h):Gm (W1 w h) 86 (Fa w 86) ["resp"] (BE P1 10):=Fh I T.nolimit rfl rfl (IY oF (f:=MS w 86) rfl rfl rfl _)
theorem Uv {b:Bc->Option Ae}(I:GN w h)(T:Top c a b mg mb h):Gm (W1 w h) 93 (Fa w 93) ["mode"] (BE P1 12):=Fh I T.nolimit rfl rfl (IY Pi (f:=MS w 93) rfl rfl rfl _)
theorem Xh {b:Bc->Option Ae}(I:GN w h)(T:Top c a b mg mb h):Gm (W1 w h) 100 (Fa w 100) ["mode"] (BE P1 13):=Fh I T.nolimit rfl rfl (IY Pi (f:=MS w 100) rfl rfl rfl _)
theorem OE {b:Bc->Option Ae}(I:GN w h)(T:Top c a b mg mb h):Gm (W1 w h) 140 (Fa w 140) ["mode"] (BE P1 34):=Fh I T.nolimit rfl rfl (IY Pi (f:=MS w 140) rfl rfl rfl _)
theorem Xg {b:Bc->Option Ae}(I:GN w h)(T:Top c a b mg mb h):Gm (W1 w h) 147 (Fa w 147) ["name","place"] (BE P1 36):=Fh I T.nolimit rfl rfl (IY Q3 (f:=MS w 147) rfl rfl rfl _)
theorem Xf {b:Bc->Option Ae}(I:GN w h)(T:Top c a b mg mb h):Gm (W1 w h) 154 (Fa w 154) ["names","modes","spoiled"] (BE P1 37):=Fh I T.nolimit rfl rfl (IY Km (f:=MS w 154) rfl rfl rfl _)
theorem fE {b:Bc->Option Ae}(I:GN w h)(T:Top c a b mg mb h):Gm (W1 w h) 161 (Fa w 161) ["state","reply"] (BE P1 38):=Fh I T.nolimit rfl rfl (IY Qy (f:=MS w 161) rfl rfl rfl _)
theorem Qe {b:Bc->Option Ae}(I:GN w h)(T:Top c a b mg mb h):Gm (W1 w h) 168 (Fa w 168) ["mode"] (BE P1 39):=Fh I T.nolimit rfl rfl (IY Pi (f:=MS w 168) rfl rfl rfl _)
theorem OD {b:Bc->Option Ae}(I:GN w h)(T:Top c a b mg mb h):Gm (W1 w h) 173 (Fa w 173) ["names","nexts"] (BE P1 40):=Fh I T.nolimit rfl rfl (IY QA (f:=MS w 173) rfl rfl rfl _)
theorem Xi {b:Bc->Option Ae}(I:GN w h)(T:Top c a b mg mb h):Gm (W1 w h) 178 (Fa w 178) ["state","nexts"] (BE P1 41):=Fh I T.nolimit rfl rfl (IY Qz (f:=MS w 178) rfl rfl rfl _)
theorem RP {b:Bc->Option Ae}(I:GN w h)(T:Top c a b mg mb h):Gm (W1 w h) 183 (Fa w 183) ["pairs"] (BE P1 42):=Fh I T.nolimit rfl rfl (IY hM (f:=MS w 183) rfl rfl rfl _)
theorem sE {b:Bc->Option Ae}(I:GN w h)(T:Top c a b mg mb h):Gm (W1 w h) 188 (Fa w 188) ["script"] Pc:=Fh I T.nolimit rfl rfl (IY Zo (f:=MS w 188) rfl rfl rfl _)
theorem V0 {b:Bc->Option Ae}(I:GN w h)(T:Top c a b mg mb h):Gm (W1 w h) 21 (Fa w 21) ["mycmp"] (BE P1 1):=Fh I T.nolimit rfl rfl (IY hO (f:=MS w 21) rfl rfl rfl _)
set_option genInjectivity false
set_option genSizeOfSpec false
theorem pQ (h:World)(n t k:Nat)(o:Array (Option Ae))(c P:Ai)(v:Nat->Ae)(m:Nat->Ai):(z2 h n t k o c P v m).I.O[0]? =Ab (lT c):=by kernel_rfl
theorem ZK (h:Pz)(k:i<6):h.qual i=(It++".")++(rK 0 i).name:=by
 show(It++".")++(rK (h.hz+1) i).name=_;rw[Sr _ i k,Sr _ i k]
section
theorem JG {a:AS}(s:BA (W1 w a) a h)(e:a.get? b=Ab o)(z:b≠16)(A:b≠170)(C:b≠185):h.get? b=Ab o:=by
 rcases s.1 b o e with k |⟨k,_⟩ |⟨k,_⟩
 ·exact k
 ·exact nomatch k.symm.trans e
 ·rcases Al.mp k with k |k
  ·exact absurd k z
  ·rcases Al.mp k with k |k
   ·exact absurd k A
   ·exact absurd (Ce.mp k) C
theorem gJ {d:Bc->Option Ae}(I:GN w a)(T:Top e b d mg mb a)(k:BA (W1 w a) a h):h.get? 2=Ab (ob w 2)/\h.get? 3=Ab (ob w 3)/\(∃s,h.get? 4=Ab ⟨.type "module",Ab 0,.plain,s⟩)/\h.get? 20=Ab (ob w 20)/\187<h.objs.size:=by
 refine⟨JG k (I _ _ rfl) (by decide) (by decide) (by decide),JG k (I _ _ rfl) (by decide) (by decide) (by decide),?_,JG k (I _ _ rfl) (by decide) (by decide) (by decide),AT (JG k (I 187 (ob w 187) rfl) (by decide) (by decide) (by decide))⟩;obtain⟨N,o,z,_,A,C,E,H⟩:=T.bmain;have q:mg "__builtins__"=Ab (.ref 4):=(Eh I T _).trans rfl;cases q.symm.trans z;obtain⟨c,O,Q,s⟩:=o;subst C;subst E;subst H;exact⟨s,JG k A (by decide) (by decide) (by decide)⟩
theorem C? {P:Ai->Obj->Prop}{os:List Obj}:∀(k:Nat)(x:Ai)(y:Obj),([]:List Ai)[k]? =Ab x->os[k]? =Ab y->P x y:=λ _ _ _ e=>(by contradiction)
theorem Wk {a:Ai}{P:Ai->Obj->Prop}{b:List Ai}{os:List Obj}(w:P a o)(z:∀(h:Nat)(x:Ai)(y:Obj),b[h]? =Ab x->os[h]? =Ab y->P x y)(h:Nat)(x:Ai)(y:Obj)(k:(a::b)[h]? =Ab x)(s:(o::os)[h]? =Ab y):P x y:=by
 cases h with
 |zero=>cases k;cases s;exact w
 |succ h=>exact z h x y k s
theorem U0 (h:a<n)(k:∀x∈b,x<n)(x:Ai)(o:x∈a::b):x<n:=by
 cases o with
 |head=>exact h
 |tail _ q=>exact k x q
theorem D':∀x∈([]:List Ai),x<n:=λ _ q=>nomatch q
theorem Zf {g:Array CB}{a:AS}{f:List Str}{j:Bc->Option Ae}{os:GS}{l:Fw}{d:M9}{t hz:Nat}(I:GN w a)(T:Top l f j mg mb a)(a0:BA (W1 w a) a h)(x:(W1 w a).di h)(O:A.depth<O3)
 (G:∀H J K,BA (W1 w a) h H->t<=J->h.get? K=Ah->iI H K It "obj" ((mg "__name__").getD .none) J9 (K9 (hz+1) dM)->Q (.ref K) ⟨H,g,d,J,os⟩):
 Av (model P1 w) A (buildClass "K" It [.type "object"] [] dM w5 ["obj"] PZ.line (B4 (Fa w 21) hz 21) PZ Ah) Q E ⟨h,g,d,t,os⟩:=by
 refine Jr λ gg kk=>?_;obtain⟨L,M,⟨V,R⟩,N,BX⟩:=gJ I T a0;refine kk ?_;have s:h.objs.size=(h.objs.size-50)+50:=(Nat.sub_add_cancel (AX (Cu (AM rfl) BX))).symm;generalize hn:h.objs.size-50=n at s
 replace G:=((by rw[Eh I T]:(mg "__name__").getD .none=(Ic (nM w 3) "__name__").getD .none))▸G
 have fresh:∀{oa:List Ai}{H:AS}{z:Pz},z.n=n->HC (z.n+50) oa h H z.I.T z.I.m z.I.O->∀k,h.get? (at_ z k)=Ah:=λ e D k=>by
  cases q:h.get? (at_ _ k) with
  |none=>rfl
  |some o=>
   have:=AT q;rw[s,<-e] at this;exact absurd this (B6.mpr (AR _ _))
 rcases x.1 with t0 |⟨c,P,v,m,t0⟩
 ·have z:=Qp (z:=z1 w n t hz V) (E:=E) (g:=g) (d:=d) (os:=os) (Q:=Q) (uL _ _ _ _ _) (show(56:Nat)≠7 by decide) rfl (by decide) O s (Wk t0 (Wk L (Wk M (Wk R (Wk N C?)))))
   (s▸U0 (AT t0) (U0 (AT L) (U0 (AT M) (U0 (AT R) (U0 (AT N) D'))))) λ H D=>?_
  ·skip
   exact z
  ·have C:=W? w n t hz V;have u:∀b o,b≠16->h.get? b=Ab o->H.get? b=Ab o:=λ b o U e=>D.keep b o e λ q=>U (AN q).symm;have y:=D.gi 0 16 _ rfl C.o;have W:∀i<6,Da H (.ref (n+50+(13+8*i))) ((z1 w n t hz V).qual i):=λ i Z=>by
    obtain⟨J,vs,e1,e2⟩:=C.m i Z;exact⟨_,_,vs,J,rfl,D.new _ _ e1,rfl,rfl,e2⟩
   have p:∀{b o},h.get? b=Ab o->o.cls=.type "code"->b≠16:=λ e hc q=>by
    subst q;obtain rfl:=A4 t0 e
    contradiction
   refine G H _ _ ⟨λ b o e=>?_,λ _=>⟨.inr ⟨n+50+5,n+50+4,_,λ i=>n+50+(13+8*i),y,D.new _ _ C.c,D.new _ _ C.tb,⟨Ao (AM rfl) (B7 (s▸BX:188<=n+50) 5),Ao (AM rfl) (B7 (s▸BX:188<=n+50) 4)⟩,λ i Z=>ZK (z1 w n t hz V) Z▸W i Z⟩,?_⟩⟩ (AR _ _) (fresh rfl D _) (dF (N? w n t hz V) D W)
   ·by_cases q:b=16
    ·subst q;obtain rfl:=A4 t0 e;exact .inr (.inr ⟨by exact Ad,#[],_,rfl,y.trans (by show _=Ab (Me (#[]++ #[BS PZ.line,BS PZ.col,.ref (n+50+5)]));rfl)⟩)
    ·exact .inl (u b o q e)
   ·intro t S;obtain⟨ps,T2,G2⟩:=x.2 t S;have B:t.1≠16/\t.2.1≠16:=by
     rcases Al.mp S with rfl |S
     ·exact⟨by decide,by decide⟩
     ·cases Ce.mp S
      exact⟨by decide,by decide⟩
    exact⟨ps,T2.extBut (λ b o U e=>u b o U e) B.1 B.2,λ r hr cv Y=>(G2 r hr cv Y).at_ λ b o e hc=>u b o (p e hc) e⟩
 ·have z:=Qp (z:=z2 w n t hz V c P v m) (E:=E) (g:=g) (d:=d) (os:=os) (Q:=Q) (uK _ _ _ _ _ _ _ _ _) (show(17:Nat)≠4 by decide) rfl
   (by
    have a1:=t0.k8.1;have a2:=t0.k8.2;intro q;simp only[Al,BG,or_false] at q;rcases q with q |q |q |q |q |q
    ·contradiction
    ·contradiction
    ·contradiction
    ·contradiction
    ·rw[<-q] at a1;exact absurd a1 (by decide)
    ·rw[<-q] at a2;exact absurd a2 (by decide)) O s (Wk t0.ji (Wk L (Wk M (Wk R (Wk N (Wk t0.code (Wk t0.sub C?)))))))
   (s▸U0 (AT t0.ji) (U0 (AT L) (U0 (AT M) (U0 (AT R) (U0 (AT N) (U0 (AT t0.code) (U0 (AT t0.sub) D'))))))) λ H D=>?_
  ·skip
   exact z
  ·have u:∀b o,h.get? b=Ab o->H.get? b=Ab o:=λ b o e=>by
    by_cases q:b=16
    ·subst q
     replace e:=t0.ji.symm.trans e
     cases e
     exact D.gi 0 16 _ rfl (pQ w n t hz V c P v m)
    ·exact D.keep b o e λ q'=>q (AN q').symm
   refine G H _ _ (.af u) (AR _ _) (fresh rfl D _) (dF (N! w n t hz V c P v m) D λ i Z=>?_);rw[ZK _ Z];exact(t0.db i Z).at_ λ b o e _=>u b o e
end
theorem gK (k:World)(h:Nat):(B4 (Fa k 21) h 21).cells.lookup ("mycmp":Str)=Ab (h+1):=rfl
theorem gL {e:Bc->Option Ae}(I:GN w a)(T:Top g c e mg mb a)(Y:EY (W1 w a) C i mg mb)(hA:CX (k+1) A)(G:Gd (W1 w a) s)(f:Ae)
 (hQ:∀t tk K u,BA (W1 w a) s.heap t->s.toks<=tk->s.heap.get? K=Ah->iI t K It "obj" ((mg "__name__").getD .none) J9 (K9 u dM)->t.IsCell u (Ab f)->s.heap.get? u=Ah->Q (.ref K) {s with heap:=t,toks:=tk}):
 Av (W1 w a).M A (call (.ref 21) [f]) Q E s:=by
 have fo:Gm (W1 w a) 21 (Fa w 21) ["mycmp"] [.ClassDef "K" [.Name "object" O?] [] dM [] [] w5 Ah "K" ["obj"] PZ,.Return (Ab (.Name "K" O!)) O']:=by have:=V0 I T;exact this
 have x:(Fa w 21).scope.names.lookup ("mycmp":Str)=Ab .cell:=rfl;have y:(Fa w 21).scope.names.lookup ("K":Str)=Ab .local:=rfl;have D:mg "object"=Ah/\mb "object"=Ab (.type "object"):=⟨(Eh I T _).trans rfl,PI T (by decide+kernel) rfl⟩;refine F8 fo hA G (X:=[]) (λ b q=>by contradiction) (args:=[.av f]) (.av .nil) rfl λ a3 a0 J he B a1 Z S=>?_;have h:=S.gd B;refine Ax ?_;refine Ac (Ar (Ac (AZ (Ac ?_))));unfold buildClassGuard;rw[S.F.blt];refine Ac (wpAny_nsGet (Dl h.ao Y.b) ?_);rw[PI T (by decide+kernel) (x:="__build_class__") (v:=.builtin "__build_class__") rfl];refine Ar (Ac (Br (Ac ?_)));refine Be (AE (CF Y S.F h rfl (.inr D) (A6 (Ac (AZ (Br ?_))))));subst he;have S':=S;refine Zf (hz:=s.heap.objs.size) I T h.ao h.dl (Cu (Ay (AR ..) (hA.down (B4 (Fa w 21) s.heap.objs.size 21)).depth) (by decide+kernel)) λ a2 O K j N hK kk=>?_;refine Ac (Ar (Ac (AZ (Ac ?_))));have z:=S.ae (tk:=O) j N;refine wpAny_bindName (z.putName B (x:="K") (sl:=.av (.ref K)) (by unfold A3;rw[y];decide+kernel) rfl (λ d q=>(by contradiction)) λ l V H W m=>Ar ?_);refine Ax (EM (FI.av H.F (by rw[B9,if_pos rfl]) ?_));have hk:=W.al z.F z.fc;obtain⟨a4,a5,n,p,r⟩:=H.F.cell "mycmp" (.inl x);obtain rfl:=A4 (gK w s.heap.objs.size) n;obtain⟨v,L,M⟩:=r (.av f) (by exact AC);have R:v=f:=M;cases R;subst L;have U:s.heap.get? K=Ah:=by
  exact BA.bh S.le hK
 exact hQ l V K _ H.le (Aa Z (Aa N m)) U (kk.al hk) p (by
  cases q:s.heap.get? (s.heap.objs.size+1) with
  |none=>rfl
  |some o=>exact absurd (AT q) (B6.mpr (Bo _)))
variable {a:List Ae} in
noncomputable def uH (h:Obj):Option (Array Ae):=if h.cls== .type "tuple"&&h.dict.isNone&&h.slots.isEmpty then(match h.data with | .seq a _=>if a.size<=BX then Ab a else Ah |_=>Ah) else Ah
theorem aN {a:Array Ae}(h:uH o=Ab a):∃m,o=M1 a m/\a.size<=BX:=by
 obtain⟨k,s,H,w⟩:=o;obtain⟨q,h⟩:=IA h;obtain⟨q,z⟩:=AB.mp q;obtain⟨A,C⟩:=AB.mp q
 (try clear q;try try skip)
 obtain rfl:k=.type "tuple":=BO A;obtain rfl:s=Ah:=Option.isNone_iff_eq_none.mp C;obtain rfl:w= #[]:=Array.isEmpty_iff.mp z
 (try clear C;try clear A;try clear z;try clear q;try clear w;try clear s;try clear k;try clear a;try clear o)
 cases H with
 |seq N m=>
  have E:=Le h;exact E.2▸⟨m,rfl,E.1⟩
 |_=>contradiction
variable {a:Ai}{i n:Nat}{v:Ae} in
noncomputable def uQ (K:Frag):Nat->Ae->Option PV
 |0,_=>Ah
 |n+1,v=>match v with
  | .int i _=>Ab (.int i)
  | .str x _=>if PB x then Ab (.str x) else Ah
  | .ref a=>(K.lookup a).bind λ o=>(uH o).bind λ h=>(h.toList.mapM (uQ K n)).map .ba
  |_=>Ah
theorem lD {f:Ae->Option PV}(z:∀v d,f v=Ab d->Rp W X h v d):∀{k:List Ae}{o:List PV},k.mapM f=Ab o->RpL W X h k o:=by
 intro k;induction k with
 |nil=>
  intro o e;cases e;exact .nil
 |cons v k s=>
  intro o e
  replace e:=HX.symm.trans e
  obtain⟨d,A,e⟩:=AL.mp e;obtain⟨C,w,e⟩:=AL.mp e;cases e;exact .cons (z v d A) (s w)
set_option tactic.hygienic true in
theorem uP {K:Frag}(I:K.In W.h0)(C:∀a∈X,W.h0.get? a=Ah):∀(n:Nat)(v:Ae)(d:PV),uQ K n v=Ab d->Rp W X W.h0 v d:=by
 intro n;induction n with
 |zero=>
  intro v d e
  contradiction
 |succ n s=>
  intro v d e;cases v with
  |int i t=>cases e;exact .int _ _
  |str x t=>
   obtain⟨k,e⟩:=IA e;have k:=AB.mp k;cases e;exact .str _ _ k.1 (of_decide_eq_true k.2)
  |ref a=>
   obtain⟨o,E,e⟩:=AL.mp e;obtain⟨N,H,e⟩:=AL.mp e;obtain⟨O,w,rfl⟩:=Bl.mp e;obtain⟨m,rfl,z⟩:=aN H;have A:=I a _ E;exact .ba A (λ q=>by replace A:=Eq.trans (Eq.symm (C a q)) A;contradiction) z (lD (λ v d h=>s v d h) w)
  |_=>contradiction
noncomputable def vM (l:List (Int×Str)):PV:=.ba (l.map λ p=>.ba [.int p.1,.str p.2])
noncomputable def sG:List (List (Int×Str)):=[[(40960,"l"),(49152,"s"),(32768,"-"),(24576,"b"),(16384,"d"),(8192,"c"),(4096,"p")],[(256,"r")],[(128,"w")],[(2112,"s"),(2048,"S"),(64,"x")],[(32,"r")],[(16,"w")],[(1032,"s"),(1024,"S"),(8,"x")],[(4,"r")],[(2,"w")],[(513,"t"),(512,"T"),(1,"x")]]
noncomputable def Xj:PV:=.ba (sG.map vM)
noncomputable def rX (x:Str):Option PV:=if x="_filemode_table" then Ab Xj else Ah
noncomputable def JQ (h:World)(a:Ai):ClassData:=match(ob h a).data with | .cls k=>k |_=>{name:="",bases:=[],mro:=[],ns:=0,qualname:=""}
noncomputable def QM (h:World)(a:Ai)(i:Nat):Option Ae:=(ob h a).slots.getD i Ah
set_option tactic.hygienic true in
theorem Ob (I:GN w h)(o:(K1 w).lookup a=Ab (ob w a))(s:(ob w a).data=.dict (nM w a) (zH w a))(z:(nM w a).toList.all (λ e=>match e.key with | .str _ _=>Ag |_=>Au)=Ag):h.Ns a (λ x=>Ic (nM w a) x):=
 ⟨ob w a,nM w a,zH w a,I _ _ o,s,(λ e A=>(by
  have:=AQ.mp z e (by simpa using A);generalize e.key=k at this;cases k with
  |str n t=>exact⟨n,t,rfl⟩
  |_=>exact Bv this)),λ x=>rfl⟩
theorem mM {b:Bc->Option Ae}(I:GN w h)(T:Top c a b mg mb h)(s:Cm c=Ag)(z:C.gv=rX)(A:∀r,C.rw r=Ah)(E:∀x g,C.fn x=Ab g->tL (W1 w h) k mg x g):GW w h C k mg mb where
 row:=λ r O e=>nomatch (A r).symm.trans e
 g:=T.g
 b:=T.b
 blt:=sY I T
 l9:=⟨(Eh I T _).trans rfl,PI T (by decide+kernel) rfl⟩
 l8:=by
  obtain⟨Q,⟨o,V,W,H,_⟩,_⟩:=(T.seer s).mods;exact⟨o,H⟩
 aa:=λ x d e=>by
  replace e:=(z)▸e
  unfold rX at e;split at e
  ·rename_i q;subst q;cases e;exact⟨.ref 133,(Eh I T _).trans (by kernel_rfl),λ X N=>uP I N 5 (.ref 133) Xj (by kernel_rfl)⟩
  ·contradiction
 fn:=E
noncomputable def Xt:List Ae:=[.ref 45,.type "Exception",.type "BaseException",.type "object"]
theorem fO {b:Bc->Option Ae}(I:GN w h)(T:Top c a b mg mb h):Gf (W1 w h) mg "error_reply" 58 Xt where
 bx:=(Eh I T _).trans rfl
 cls:=⟨(JQ w 58).name,(JQ w 58).qualname,57,(JQ w 58).bases,(JQ w 58).hasDict,(JQ w 58).slotNames,(JQ w 58).subclasses,(JQ w 58).abstract,(JQ w 58).collection,(ob w 58).dict,QM w 58 0,QM w 58 1,QM w 58 2,QM w 58 3,QM w 58 5,"Exception","Exception.__new__","Exception.__init__",[.type "Exception",.type "BaseException",.type "object"],_,"Exception",
  F.excBase_Exception,I 58 _ rfl,Ob I rfl rfl rfl,rfl,.own (I 45 {cls:=.type "type",dict:=(ob w 45).dict,data:=.cls (JQ w 45),slots:=(ob w 45).slots} rfl) (Ob (a:=44) I rfl rfl rfl) rfl .base,rfl,
  .own (I 45 {cls:=.type "type",dict:=(ob w 45).dict,data:=.cls (JQ w 45),slots:=(ob w 45).slots} rfl) (Ob (a:=44) I rfl rfl rfl) rfl .base,F.excStr_Exception⟩
theorem pH {b:Bc->Option Ae}(I:GN w h)(T:Top c a b mg mb h):Gf (W1 w h) mg "error_proto" 70 Xt where
 bx:=(Eh I T _).trans rfl
 cls:=⟨(JQ w 70).name,(JQ w 70).qualname,69,(JQ w 70).bases,(JQ w 70).hasDict,(JQ w 70).slotNames,(JQ w 70).subclasses,(JQ w 70).abstract,(JQ w 70).collection,(ob w 70).dict,QM w 70 0,QM w 70 1,QM w 70 2,QM w 70 3,QM w 70 5,"Exception","Exception.__new__","Exception.__init__",[.type "Exception",.type "BaseException",.type "object"],_,"Exception",
  F.excBase_Exception,I 70 _ rfl,Ob I rfl rfl rfl,rfl,.own (I 45 {cls:=.type "type",dict:=(ob w 45).dict,data:=.cls (JQ w 45),slots:=(ob w 45).slots} rfl) (Ob (a:=44) I rfl rfl rfl) rfl .base,rfl,
  .own (I 45 {cls:=.type "type",dict:=(ob w 45).dict,data:=.cls (JQ w 45),slots:=(ob w 45).slots} rfl) (Ob (a:=44) I rfl rfl rfl) rfl .base,F.excStr_Exception⟩
noncomputable def aW:List Bq:=(LY (BE P1 3) 1).b 0
noncomputable def WJ (q:Nat->Pos):List Bq:=XC q aW
noncomputable def rQ:Nat->Pos:=Nk WJ (BE P1 3)
theorem aV:BE P1 3=WJ rQ:=rfl
noncomputable def nU:Bf:=((LY ((LY (BE P1 4) 1).b 0) 0).e 0).sc
noncomputable def n5:Nat->Pos:=Nk (λ p=>Qt nU p λ _=>0) (BE P1 4)
theorem nS:BE P1 4=Qt nU n5 (λ _=>0):=rfl
noncomputable def Li:Expr:=((((LY ((LY (BE P1 38) 1).b 0) 0).e 0).e 1).e 1).x 0
noncomputable def Uq:Expr:=((LY (BE P1 38) 4).e 0).x 1
noncomputable def mK:Expr:=((LY (BE P1 38) 3).e 1).x 1
noncomputable def hP:Nat->Pos:=Nk (λ p=>IM "refused" Li Uq mK p λ _=>0) (BE P1 38)
noncomputable def hK:Nat->Nat:=uV (λ k=>IM "refused" Li Uq mK (λ _=>default) k) (BE P1 38)
theorem aU (E H:Str)(N:FuncBody)(O:Bf)(Q:Ai)(V:List (Str×Ai))(h o:Ae)(s:Option Ai)(w z:Ae)(A:Ai)(W Z d:Pos)(C:List Expr)(T:Ai)(x a b c:Ae):
 ∃k:Option (Array Ae)->Sem (List (Str×Ae)),bindArgs ⟨E,H,{posonlyargs:=[],args:=[⟨"function",Ah,W⟩,⟨"sequence",Ah,Z⟩,⟨"initial",Ah,d⟩],vararg:=Ah,kwonlyargs:=[],kw_defaults:=[],kwarg:=Ah,defaults:=C},N,O,Q,V,.ref T,.none,h,o,s,w,z,A⟩ ⟨[a,b,c],[]⟩=seqItems? (.ref T) >>=k/\
  k (Ab #[x])=pure ((["function","sequence","initial"]:List Str).zip [a,b,c]):=⟨_,rfl,rfl⟩
theorem X8 (s:fd.params={posonlyargs:=[],args:=[⟨"function",Ah,f⟩,⟨"sequence",Ah,g⟩,⟨"initial",Ah,i⟩],vararg:=Ah,kwonlyargs:=[],kw_defaults:=[],kwarg:=Ah,defaults:=d})(w:fd.defaults=.ref e)(hk:fd.kwdefaults=.none)
 (z:W.h0.get? e=Ab (M1 #[.ref x] n)) (h:List Ae) (o:Aq) (R:BA W W.h0 o.heap) (A:h.length=3):BindsTo o fd ⟨h,[]⟩ ((["function","sequence","initial"]:List Str).zip h):=by
 obtain⟨a,b,c,rfl⟩:=u6 A;cases fd;subst s;subst w;subst hk;obtain⟨k,C,E⟩:=aU _ _ _ _ _ _ _ _ _ _ _ _ f g i d e (.ref x) a b c;exact BindsTo.of_defaults rfl (R.keep z (by simp) (by simp)) rfl C E
theorem YO {b:Bc->Option Ae}(I:GN w h)(T:Top c a b mg mb h):Gm (W1 w h) 30 (Fa w 30) ["function","sequence","initial"] (BE P1 3):=
 Fh I T.nolimit rfl rfl (X8 rfl rfl rfl (I 23 _ rfl))
theorem uO {b:Bc->Option Ae}(I:GN w h)(T:Top d a b mg mb h):XA (W1 w h) mg mb 30:=
 have c:=BO (show((ob w 22).cls== .type "object")=Ag by kernel_rfl)
 ⟨Fa w 30,rQ,aW,(by have:=YO I T;rw[aV] at this;exact this),by kernel_rfl,by kernel_rfl,by kernel_rfl,by kernel_rfl,by kernel_rfl,by kernel_rfl,(Eh I T _).trans (by kernel_rfl),PI T (by decide+kernel) (by kernel_rfl),22,ob w 22,(Eh I T _).trans (by kernel_rfl),I 22 _ (by kernel_rfl),c▸by decide,c▸by decide,c▸nofun⟩
theorem Xu {b:Bc->Option Ae}(I:GN w h)(T:Top c a b mg mb h)(hP:4≠P):h.BuiltinsAt mg P:=by
 obtain⟨H,o,k,s,z,A,C,E⟩:=T.bmain;have e:mg "__builtins__"=Ab (.ref 4):=(Eh I T _).trans rfl;cases e.symm.trans k;exact⟨4,o,e,s,by decide,hP,z,A,C,E⟩
theorem vU {b:Bc->Option Ae}(I:GN w h)(T:Top d a b mg mb h)(z:GW w h C k mg mb):UV (W1 w h) mg mb C k 21:=
 ⟨λ A s k n f c N G O Q E V=>gL I T z N G (.ref f) λ W Z K e H l g i o j=>V _ W Z H l ⟨K,e,rfl,g,⟨dM,It,_,J9,rO,i,o⟩,j,O.ae H⟩⟩
theorem zJ:XI (Fa w 35).scope nU n5 where
 S:=⟨rfl,rfl,rfl,rfl⟩
 seq:=rfl
 nc:=rfl
 na:=rfl
 m9:=rfl
 m7:=La rfl
 m6:=rfl
 nk:=rfl
theorem vV (n:Nat):Dk [.Name "sequences" (n5 23)] (.ListComp (.Name "s" (n5 24)) [⟨.Name "s" (n5 25),.Name "sequences" (n5 26),[.Name "s" (n5 27)],0⟩] nU (n5 28)) (n5 29).line (B4 (Fa w 35) n 35)=pure Ag:=rfl
theorem mI:Lx (Fa w 161).scope "refused" Li Uq where
 st:=rfl
 mj:=rfl
 m0:=rfl
 nh:=rfl
 g1:=rfl
 g2:=rfl
 gs:=rfl
 ni:=rfl
 nl:=rfl
 x3:=.inr rfl
theorem kE (I:GN w h)(a:BA (W1 w h) h H):OldK h H:=by
 have code:∀b,b∈[16,170,185]->isCodeTable h b:=λ b Z=>by
  simp only[Al,BG,or_false] at Z;rcases Z with rfl |rfl |rfl
  ·obtain⟨o,C,z,c,s,d,E,A,f,N,O,Q,V,_⟩:=(Ph (c:=20) (P:=16) I rfl);exact⟨20,o,C,N,O,Q,V⟩
  ·obtain⟨o,C,z,c,s,d,E,A,f,N,O,Q,V,_⟩:=(Ph (c:=172) (P:=170) I rfl);exact⟨172,o,C,N,O,Q,V⟩
  ·obtain⟨o,C,z,c,s,d,E,A,f,N,O,Q,V,_⟩:=(Ph (c:=187) (P:=185) I rfl);exact⟨187,o,C,N,O,Q,V⟩
 refine⟨λ b o e=>?_,λ b o e=>BJ a ⟨o,e⟩⟩;rcases a.1 b o e with k |⟨n,_⟩ |⟨Z,C,W,rfl,k⟩
 ·exact .inl k
 ·exact Dn n e
 ·exact .inr (.inl ⟨code b Z,rfl,C,W,rfl,k⟩)
theorem XM (k:Well P h v (.list b)):∃a o,v=.ref a/\h.get? a=Ab {cls:=.type "list",data:=.seq (CE o)}:=by
 cases k with
 |list e _=>exact⟨_,_,rfl,e⟩
theorem qF {X:(Str->Option Ae)->AS->Prop}{d:DefRec}(B:d.name="law")(core:∀(w:World)(s:Aq)(V W:Str->Option Ae)(h:List Str)(z:Bc->Option Ae),GN w s.heap->(∀P∈[16,170,185],s.heap.get? P=Ab (Me #[]))->Top c h z V W s.heap->
 ∀(D:List Int)(v:Ae),Rp (W1 w s.heap) [] s.heap v (.list (D.map .int))->∀(Q:I9)(E:I9),(∀Z p,BA (W1 w s.heap) s.heap Z->Q (.bool Ag) {s with heap:=Z,toks:=p})->Av (W1 w s.heap).M callerA (call (.ref 188) [v]) Q E s):
 WalkO c l X (kmHook hk.1 hk.2.1 (λ _=>rfl) [16,170,185]).says (OpenLaw.row PySem.Challenge.rw_oy0180_02).toRowW d b λ f v=>call f v:=by
 intro w r A V W G Y fa o pm cd J dV kV ho L M hD g R args t as C N i j m;have I:=km_in_of Y;have S:=km_tabs_of Y;have T:=G.T;have e:V "law"=Ab (.ref 188):=(Eh I T _).trans rfl;have U:=B▸g;cases e.symm.trans U;refine Jr λ gg kk=>?_
 wrow_args C N i j m
 refine kk ?_;rename_i hL _ w1 _ u _ k _;obtain⟨_,_,x,y⟩:=XM w1;cases x
 ·obtain⟨o',n,a0,n',O⟩:=hL;obtain rfl:=A4 y n;cases O;refine core w A V W _ _ I (λ P hP=>S P (by simp only[Al,BG,or_false] at hP ⊢;rcases hP with q |q |q<;>simp[q])) T _ _ (.list y BG ?_ (RpL.dw u)) _ _ λ Z p H=>?_
  ·exact Aa (Az u.length) (Aa (ER.mp (Hq.mp k)) (AM rfl:63<=BX))
  ·exact⟨.inl ⟨.bool Ag,.bool Ag,[],rfl,λ _=>rfl,.bool Ag,(by kernel_rfl),λ _=>⟨.nil,λ a x=>(by contradiction)⟩⟩,kE I H,rfl,.of_eq R⟩
noncomputable def SX:List PV->Option PV:=g1 (tV λ m=>Ab (.int (AO m 4095)))
theorem mZ {b:Bc->Option Ae}(I:GN w h)(T:Top c a b mg mb h)(o:GW w h C k mg mb):Gn (W1 w h) (k+1) 93 SX:=by
 refine OC (Uv I T) λ args d e=>?_;obtain⟨_,rfl,e⟩:=Oi e;obtain⟨m,rfl,e⟩:=Np e;cases e;refine⟨rfl,λ A s E z B=>?_⟩
 conv in BE P1 12=>whnf
 exact Jn (G8 o z B (.bn (.am (.aa rfl) .int rfl)))
noncomputable def RM:List PV->Option PV:=g1 (tV λ m=>Ab (.int (AO m 61440)))
theorem sK {b:Bc->Option Ae}(I:GN w h)(T:Top c a b mg mb h)(o:GW w h C k mg mb):Gn (W1 w h) (k+1) 100 RM:=by
 refine OC (Xh I T) λ args d e=>?_;obtain⟨_,rfl,e⟩:=Oi e;obtain⟨m,rfl,e⟩:=Np e;cases e;refine⟨rfl,λ A s E z B=>?_⟩
 conv in BE P1 13=>whnf
 exact Jn (G8 o z B (.bn (.am (.aa rfl) .int rfl)))
theorem GJ (h:x.length+y.length<=BX):GC .Add (.str x) (.str y)=Ab (.str (x++y)):=by
 show(if x.length+y.length<=BX then Ab (PV.str (x++y)) else Ah)=_;rw[if_pos h]
theorem w6 (x y:Str):I6 .Eq (.str x) (.str y)=Ab (decide (x=y)):=rfl
theorem bY (x y:Str):I6 .NotEq (.str x) (.str y)=Ab (!decide (x=y)):=rfl
theorem ZG (x y:Int):I6 .Eq (.int x) (.int y)=Ab (decide (x=y)):=rfl
theorem jS {x a:Str}(k:PB y=Ag)(o:PB a=Ag)(h:(y==a)=Au)(s:x.length+(x.length+1)*a.length<=16777216)(w:PB (KE x y a)=Ag):
 (PB y&&PB a&&!(y==a)&&decide (x.length+(x.length+1)*a.length<=16777216)&&PB (KE x y a))=Ag:=by
 simp only[k,o,h,w,decide_eq_true s];rfl
theorem PN (x y:Str):(x++y).length=x.length+y.length:=by
 show(x.cps++y.cps).size=x.cps.size+y.cps.size;simp
noncomputable def iU (x:Str):Str:=KE x "\"" "\"\""
noncomputable def tU:Nat->Str
 |0=>"" |1=>" made" |2=>" \"new\"" |3=>"" |4=>" made" |5=>" \"new\"" |_=>""
noncomputable def Iq (x:Str)(n:Nat):Str:=if x=""/\n=1 then "257 made" else((("257 \"":Str)++iU x)++"\"")++tU n
noncomputable def LG (x:Str):Bool:=PB x&&PB (iU x)&&decide (x.length<=1000)&&decide ((iU x).length<=3000)
noncomputable def RL:List PV->Option PV:=g2 λ a b=>xV (λ x=>tV (λ i=>if LG x=Ag/\0<=i/\i<7 then Ab (.str (Iq x i.toNat)) else Ah) b) a
theorem sJ {b:Bc->Option Ae}(I:GN w h)(T:Top c a b mg mb h)(H:GW w h C k mg mb):Gn (W1 w h) (k+1) 147 RL:=by
 refine OC (Xg I T) λ args d e=>?_;obtain⟨_,_,rfl,e⟩:=rZ e;obtain⟨x,rfl,e⟩:=WM e;obtain⟨i,rfl,e⟩:=Np e
 ·obtain⟨⟨s,W,Z⟩,e⟩:=Le e;subst e;unfold LG at s;simp only[AG,decide_eq_true_eq] at s;obtain⟨n,rfl⟩:∃n:Nat,i=n:=⟨i.toNat,(Do W).symm⟩;have Q:=BM.mp Z;refine⟨rfl,λ A f J N B=>?_⟩
  conv in BE P1 36=>whnf
  have o:∀{g j l m p r t:Pos}{u v:Nat},KW C (Fa w 147).scope ((["name","place"]:List Str).zip ([PV.str x,PV.int n].map Ds.aa)) (.BoolOp .And [.Compare (.Name "name" g) [.Eq] [.Constant (.str "") u j] l,.Compare (.Name "place" m) [.Eq] [.Constant (.int 1) v p] r] t) (decide (x="")&&(decide ((n:Int)=1)&&Ag)):=λ{_ _ _ _ _ _ _ _ _}=>
   .all (.bu (.au (.aa (by kernel_rfl)) (.ag (d:=.str "") (by kernel_rfl)) rfl (w6 _ _)) λ _=>.bu (.au (.aa (by kernel_rfl)) .int rfl (ZG _ _)) λ _=>.nil)
  by_cases z:x=""/\n=1
  ·have hc:(decide (x="")&&(decide ((n:Int)=1)&&Ag))=Ag:=by rw[z.1,z.2];rfl
   rw[hc] at o;refine Jn (Gu H N B o ?_);refine DY (G8 H N B (.bn (.ag ?_)));unfold Iq;rw[show(n:Int).toNat=n from rfl,if_pos z];kernel_rfl
  ·have hc:(decide (x="")&&(decide ((n:Int)=1)&&Ag))=Au:=by
    cases q:(decide (x="")&&(decide ((n:Int)=1)&&Ag)) with
    |false=>rfl
    |true=>
     simp only[AG,decide_eq_true_eq,and_true] at q;exact absurd ⟨q.1,JB q.2⟩ z
   rw[hc] at o;refine K3 (Gu H N B o FO) ?_;have O:∀k,k<=15->5+(iU x).length+k<=BX:=λ k hk=>by rw[DQ 5,Et];exact Aa (A0 (A0 hk 5) _) (Aa (B7 s.2 20) (by decide+kernel))
   have E:("\"":Str).length=1:=by decide+kernel
   have V:(("257 \"":Str)++iU x).length=5+(iU x).length:=by rw[PN,(by decide+kernel:("257 \"":Str).length=5)]
   have y:((("257 \"":Str)++iU x)++"\"").length=5+(iU x).length+1:=by rw[PN,V,E]
   have D:(tU n).length<=6:=by
    have:∀n<7,(tU n).length<=6:=by decide+kernel
    exact this n Q
   refine Jn (G8 H N B (.bn (.am (.am (.am (.ag (d:=.str "257 \"") (by kernel_rfl)) (.jr (by decide+kernel) (.aa (d:=.str x) (by kernel_rfl)) (jS (by decide+kernel) (by decide+kernel) (by decide+kernel) (by
    have L:("\"\"":Str).length=2:=by decide+kernel
    exact Aa (FL s.1.2 (Nat.mul_le_mul_right 2 (Bt s.1.2))) (AM rfl)) s.1.1.2)) (GJ (O 0 (AY _)))) (.ag (d:=.str "\"") (by kernel_rfl)) (GJ (by rw[show KE x "\"" "\"\""=iU x from rfl,V,E];exact O 1 (DN _)))) (.sub (b:=.list [.str "",.str " made",.str " \"new\""]) (kd:=.int ((n:Int).fmod 3)) (d:=.str (tU n)) (.bn (.list (.cons (.ag (d:=.str "") (by kernel_rfl)) (.cons (.ag (d:=.str " made") (by kernel_rfl)) (.cons (.ag (d:=.str " \"new\"") (by kernel_rfl)) .nil rfl) rfl) rfl) (by decide+kernel))) (.am (.aa (d:=.int n) (by kernel_rfl)) .int rfl) (λ _ _=>rfl) ?_) ?_)))
   ·exact(show ∀n:Nat,n<7->ET (.list [.str "",.str " made",.str " \"new\""]) (.int ((n:Int).fmod 3))=Ab (.str (tU n)) from by
     repeat (refine Fc ?_ rfl)
     exact Kr) n Q
   ·have G:((("257 \"":Str)++iU x)++"\"").length+(tU n).length<=BX:=by rw[y,Et];exact O _ (Aa (A0 D 1) (AM rfl))
    refine(GJ G).trans ?_;unfold Iq;rw[show(n:Int).toNat=n from rfl,if_neg z]
noncomputable def Ga (c:Nat):Str:=⟨#[c]⟩
noncomputable def B5 (l:List Nat):Str:=⟨l.toArray⟩
theorem F4 (a b:List Nat):B5 a++B5 b=B5 (a++b):=by
 show(⟨a.toArray++b.toArray⟩:Str)=⟨(a++b).toArray⟩;simp
theorem C5 (a:List Nat):(B5 a).length=a.length:=by show a.toArray.size=_;simp
theorem Z0 (x:Str)(i:Int):ET (.str x) (.int i)=if QV i=Ag then((Gw i x.length).bind (x.cps[·]?)).map (λ c=>PV.str ⟨#[c]⟩) else Ah:=rfl
theorem Ps {i:Nat}(h:i=a.length)(k:(a++c::b).length<=BX):ET (.str (B5 (a++c::b))) (.int (i:Int))=Ab (.str (Ga c)):=by
 subst h;have o:(B5 (a++c::b)).length=a.length+(b.length+1):=by rw[C5];simp
 have s:QV ((a.length:Nat):Int)=Ag:=by
  exact Xl (Ao (by rw[AP];exact HD (DN _)) k)
 have w:Gw ((a.length:Nat):Int) (a.length+(b.length+1))=Ab a.length:=MD (HD (DN _));have z:(B5 (a++c::b)).cps[a.length]? =Ab c:=by
  show(a++c::b).toArray[a.length]? =_;simp
 refine(Z0 _ _).trans ?_;rw[if_pos s,o,w];simp only[Option.bind_some,z,Option.map_some];rfl
noncomputable def Fm (l:List Nat):List Nat:=l.flatMap λ c=>if c=34 then[34,34] else[c]
noncomputable def Jq (x d:Str)(i n:Int):A5:=[("resp",.aa (.str x)),("dirname",.aa (.str d)),("i",.aa (.int i)),("n",.aa (.int n))]
noncomputable def J8 (x d:Str)(i n:Int)(c:Str):A5:=[("resp",.aa (.str x)),("dirname",.aa (.str d)),("i",.aa (.int i)),("n",.aa (.int n)),("c",.aa (.str c))]
noncomputable def dE:List Str:=["resp","dirname","i","n"]
noncomputable def G5:Expr×List Bq×List Bq:=((LY (BE P1 10) 5).x 0,(LY (BE P1 10) 5).b 0,(LY (BE P1 10) 5).b 1)
theorem cG (x y:Int):I6 .Lt (.int x) (.int y)=Ab (decide (x<y)):=rfl
theorem yM (x y:Int):I6 .GtE (.int x) (.int y)=Ab (decide (y<=x)):=rfl
theorem Wp (x y:Int):GC .Add (.int x) (.int y)=Ab (.int (x+y)):=rfl
theorem Qq (c:Nat):decide (Ga c="\"")=decide (c=34):=by
 have:("\"":Str)=Ga 34:=rfl;rw[this];by_cases q:c=34
 ·subst q;simp
 ·rw[decide_eq_false q];refine decide_eq_false λ e=>q ?_;have:(Ga c).cps=(Ga 34).cps:=by rw[e]
  have:#[c]= #[34]:=this;simpa using this
theorem Sb (o:GW w h C k mg mb)(s:CX k A)(B:Ko w h 86 z N){a:List Nat}(E:(a++c::b).length<=BX)
 (H:FY (W1 w h) A (Fa w 86).scope z N (execs r z) (J8 (B5 (a++c::b)) d ((a.length:Nat)+1) f (Ga c)) l):
 FY (W1 w h) A (Fa w 86).scope z N (execs (.Assign [.Name "c" m] (.Subscript (.Name "resp" n) (.Name "i" p) q) t::.Assign [.Name "i" u] (.BinOp (.Name "i" v) .Add (.Constant (.int 1) x i) j) g::r) z) (Jq (B5 (a++c::b)) d (a.length:Nat) f) l:=by
 refine Fg (Bw o s B (.sub (.aa rfl) (.aa rfl) (λ _ _=>rfl) (Ps rfl E)) rfl (by rfl)) ?_;refine Fg (Bw o s B (.am (.aa rfl) .int (Wp _ _)) rfl (by rfl)) ?_;have e:Bs (Bs (Jq (B5 (a++c::b)) d (a.length:Nat) f) "c" (.aa (.str (Ga c)))) "i" (.aa (.int ((a.length:Nat)+1)))=J8 (B5 (a++c::b)) d ((a.length:Nat)+1) f (Ga c):=rfl;rw[e];exact H
theorem VG (h:List Nat)(x:Nat)(l:List Nat):((h.length:Nat):Int)<((h++x::l).length:Nat):=BM.mpr (by rw[AP];exact HD (DN _))
theorem lF (h:List Nat)(x y:Nat)(l:List Nat):((h.length:Nat):Int)+1<((h++x::y::l).length:Nat):=BM.mpr (by rw[AP];exact Nat.add_lt_add_left (IK (DN _)) _)
theorem lJ (H:GW w h C k mg mb)(O:CX k A)(B:Ko w h 86 z N)(p:a.head?≠Ab 34):∀(E o:List Nat)(d:List Nat),(o++(Fm E++34::a)).length<=BX->d.length+E.length<=BX->
 tF (W1 w h) A C (Fa w 86).scope z N G5.1 G5.2.1 G5.2.2 (E.length+1) (Jq (B5 (o++(Fm E++34::a))) (B5 d) (o.length:Nat) ((o++(Fm E++34::a)).length:Nat)) (.next (Jq (B5 (o++(Fm E++34::a))) (B5 (d++E)) ((o++(Fm E++[34])).length:Nat) ((o++(Fm E++34::a)).length:Nat))):=by
 intro E;induction E with
 |nil=>
  intro o d Q r;have b:(o++34::a).length<=BX:=Q;refine .brk ?_ ?_
  ·conv in G5.1=>whnf
   refine .au (.aa rfl) (.aa rfl) rfl ((cG _ _).trans ?_);exact congrArg Ab (decide_eq_true (VG o 34 a))
  ·conv in G5.2.1=>whnf
   refine Sb H O B b ?_;have V:Jq (B5 (o++(Fm []++34::a))) (B5 (d++[])) ((o++(Fm []++[34])).length:Nat) ((o++(Fm []++34::a)).length:Nat)=Jq (B5 (o++34::a)) (B5 d) ((o.length:Nat)+1) ((o++34::a).length:Nat):=by
    rw[DV];have:(o++(Fm []++[34])).length=o.length+1:=by simp[Fm]
    rw[this];rfl
   rw[V];have e:Ei dE (J8 (B5 (o++34::a)) (B5 d) ((o.length:Nat)+1) ((o++34::a).length:Nat) (Ga 34))=Jq (B5 (o++34::a)) (B5 d) ((o.length:Nat)+1) ((o++34::a).length:Nat):=rfl;rw[<-e];refine LC (FY.du ?_ EL);refine Gu H O B (c:=Ag) (.au (.aa (d:=.str (Ga 34)) (by kernel_rfl)) (.ag (by kernel_rfl)) rfl ((w6 _ _).trans (by rw[Qq];rfl))) ?_;rw[if_pos rfl];refine LC (Gu H O B ?_ (by rw[if_pos rfl];exact DY Nb));cases a with
   |nil=>
    have t1:∀u:Bool,(decide (((o++[34]).length:Nat)<=((o.length:Nat):Int)+1)||u)=Ag:=λ u=>by
     rw[decide_eq_true (by simp)];rfl
    refine Eq.mp (congrArg _ (t1 Au)) (.all (.dj (.au (.aa rfl) (.aa rfl) rfl (yM _ _)) λ q=>?_));rw[decide_eq_true (by simp)] at q;cases q
   |cons t0 f=>
    have x:t0≠34:=λ q=>p (by rw[q];rfl);have y:o++34::t0::f=(o++[34])++t0::f:=by simp
    have n:ET (.str (B5 (o++34::t0::f))) (.int ((o.length:Nat)+1))=Ab (.str (Ga t0)):=by
     rw[y];have:=Ps (a:=o++[34]) (b:=f) (c:=t0) (i:=o.length+1) (by simp) (by simpa using b);exact this
    have t1:(decide (((o++34::t0::f).length:Nat)<=((o.length:Nat):Int)+1)||((!decide (Ga t0="\""))||false))=Ag:=by
     rw[Qq,decide_eq_false x];simp
    refine Eq.mp (congrArg _ t1) (.all (.dj (.au (.aa (by kernel_rfl)) (.aa (by kernel_rfl)) rfl (yM _ _)) λ q=>.dj (.au (.sub (.aa (by kernel_rfl)) (.aa (by kernel_rfl)) (λ _ _=>rfl) n) (.ag (by kernel_rfl)) rfl (bY _ _)) λ _=>.nil))
 |cons c s g=>
  intro o d Q r;have vF:(B5 d).length+(Ga c).length<=BX:=by
   rw[C5];have:(Ga c).length=1:=rfl;rw[this];exact Aa (A0 (Bt (AY _)) _) r
  have i:=F4 d [c];have j:(d++[c]).length+s.length<=BX:=Aa (Az (by rw[AP,Et,DQ (BP [c])];rfl)) r;by_cases q:c=34
  ·subst q;have W:o++(Fm (34::s)++34::a)=o++34::(34::(Fm s++34::a)):=by simp[Fm]
   have V:o++34::(34::(Fm s++34::a))=(o++[34,34])++(Fm s++34::a):=by simp
   have l:o++34::(34::(Fm s++34::a))=(o++[34])++34::(Fm s++34::a):=by simp
   have e:(o++(Fm (34::s)++[34])).length=((o++[34,34])++(Fm s++[34])).length:=by simp[Fm]
   have m:=g (o++[34,34]) (d++[34]) (by rw[<-V,<-W];exact Q) j;rw[e,W];rw[W] at Q;rw[show d++34::s=(d++[34])++s by simp];rw[<-V] at m;refine .next ?_ ?_ m
   ·conv in G5.1=>whnf
    refine .au (.aa rfl) (.aa rfl) rfl ((cG _ _).trans ?_);exact congrArg Ab (decide_eq_true (VG o 34 _))
   ·conv in G5.2.1=>whnf
    refine Sb H O B Q ?_;have n:ET (.str (B5 (o++34::(34::(Fm s++34::a))))) (.int ((o.length:Nat)+1))=Ab (.str (Ga 34)):=by
     have:=Ps (a:=o++[34]) (i:=o.length+1) (by simp) (by rw[<-l];exact Q);rw[<-l] at this;exact this
    have v:decide (((o++34::(34::(Fm s++34::a))).length:Nat)<=((o.length:Nat):Int)+1)=Au:=decide_eq_false (Mx.mpr (lF o 34 34 _));have t1:(decide (((o++34::(34::(Fm s++34::a))).length:Nat)<=((o.length:Nat):Int)+1)||((!decide (Ga 34="\""))||false))=Au:=by
     rw[v,Qq];rfl
    generalize D:o++34::(34::(Fm s++34::a))=X at n t1 v;have Z:FY (W1 w h) A (Fa w 86).scope z N (execs ((LY G5.2.1 2).b 0) z) (J8 (B5 X) (B5 d) ((o.length:Nat)+1) (X.length:Nat) (Ga 34)) (.next (J8 (B5 X) (B5 d) ((o.length:Nat)+1+1) (X.length:Nat) (Ga 34))):=by
     conv in (LY G5.2.1 2).b 0=>whnf
     refine Fg (Gu H O B (c:=Au) ?_ (by rw[if_neg (by simp)];exact FO)) (DY ?_)
     ·exact Eq.mp (congrArg _ t1) (.all (.dj (.au (.aa (by kernel_rfl)) (.aa (by kernel_rfl)) rfl (yM _ _)) λ q=>.dj (.au (.sub (.aa (by kernel_rfl)) (.aa (by kernel_rfl)) (λ _ _=>rfl) n) (.ag (by kernel_rfl)) rfl (bY _ _)) λ _=>.nil))
     ·exact Bw H O B (.am (.aa rfl) .int (Wp _ _)) rfl (by rfl)
    refine Fg (Gu H O B (c:=Ag) (.au (.aa (d:=.str (Ga 34)) (by kernel_rfl)) (.ag (by kernel_rfl)) rfl ((w6 _ _).trans (by rw[Qq];rfl))) (by rw[if_pos rfl];exact Z)) (DY ?_);have t:Ei dE (Bs (J8 (B5 X) (B5 d) ((o.length:Nat)+1+1) (X.length:Nat) (Ga 34)) "dirname" (.aa (.str (B5 (d++[34])))))=Jq (B5 X) (B5 (d++[34])) ((o++[34,34]).length:Nat) (X.length:Nat):=by
     have:(((o++[34,34]).length:Nat):Int)=(o.length:Nat)+1+1:=by rw[AP];rfl
     rw[this];rfl
    rw[<-t];exact(Bw H O B (.am (.aa rfl) (.aa rfl) ((GJ vF).trans (by rw[i]))) rfl (by rfl)).post EL
  ·have W:o++(Fm (c::s)++34::a)=o++c::(Fm s++34::a):=by simp[Fm,q]
   have V:o++c::(Fm s++34::a)=(o++[c])++(Fm s++34::a):=by simp
   have e:(o++(Fm (c::s)++[34])).length=((o++[c])++(Fm s++[34])).length:=by simp[Fm,q]
   have m:=g (o++[c]) (d++[c]) (by rw[<-V,<-W];exact Q) j;rw[e,W];rw[W] at Q;rw[show d++c::s=(d++[c])++s by simp];rw[<-V] at m;refine .next ?_ ?_ m
   ·conv in G5.1=>whnf
    refine .au (.aa rfl) (.aa rfl) rfl ((cG _ _).trans ?_);exact congrArg Ab (decide_eq_true (VG o c _))
   ·conv in G5.2.1=>whnf
    refine Sb H O B Q ?_;generalize D:o++c::(Fm s++34::a)=X;refine Fg (Gu H O B (.au (.aa (by kernel_rfl)) (.ag (by kernel_rfl)) rfl ((w6 _ _).trans (by rw[Qq,decide_eq_false q]))) (by rw[if_neg (by simp)];exact FO)) (DY ?_);have t:Ei dE (Bs (J8 (B5 X) (B5 d) ((o.length:Nat)+1) (X.length:Nat) (Ga c)) "dirname" (.aa (.str (B5 (d++[c])))))=Jq (B5 X) (B5 (d++[c])) ((o++[c]).length:Nat) (X.length:Nat):=by
     have:(((o++[c]).length:Nat):Int)=(o.length:Nat)+1:=by simp
     rw[this];rfl
    rw[<-t];exact(Bw H O B (.am (.aa rfl) (.aa rfl) ((GJ vF).trans (by rw[i]))) rfl (by rfl)).post EL
open PySem.Builtin PySem.Builtin.Str
theorem o9 {i j n:Nat}(h:i<=j):min i n<=min j n:=Nat.le_min.mpr ⟨Aa (EH ..) h,FK ..⟩
theorem ZY (h:min j n-min i n=n):n=0\/i=0/\n<=j:=by
 rcases Nat.eq_zero_or_pos n with q |q
 ·exact .inl q
 ·rcases Nat.eq_zero_or_pos i with z |z
  ·subst z;exact .inr ⟨rfl,Aa (Az h.symm) (EH ..)⟩
  ·exact absurd h (Ct (Ao (Nat.sub_lt (Ao q (Aa (Az h.symm) (JY ..))) (Mt.mpr ⟨z,q⟩)) (FK ..)))
theorem Ny (i j n:Nat):Gp (Ab (i:Int)) (Ab (j:Int)) 1 n=Gp (Ab ((min i n:Nat):Int)) (Ab ((min j n:Nat):Int)) 1 n:=by
 have m k:min (min k n) n=min k n:=Dz (FK ..);simp only[Gp,qY,if_false,UF,m,show((1:Int)>0)=True from eq_true (by decide),if_true]
theorem No (x:Str):B5 x.cps.toList=x:=by show(⟨x.cps.toList.toArray⟩:Str)=x;simp
theorem Rg {i j:Nat}(l:List Nat)(o:i<=j):JR (B5 l) (Ab (i:Int)) (Ab (j:Int))=B5 ((l.drop i).take (j-i)):=by
 have w:=C5 l;have z:Gp (Ab i) (Ab j) 1 (B5 l).length=(Ap (min j l.length-min i l.length)).map (λ k=>min i l.length+k):=by
  simp only[Ny,w,StrLaws.strSliceIndices_plain (o9 o) (FK ..)]
 have A:(Gp (Ab i) (Ab j) 1 (B5 l).length).filterMap ((B5 l).cps[·]?)=(l.drop (min i l.length)).take (min j l.length-min i l.length):=by
  rw[Ny,StrLaws.sliced_plain (B5 l) (o9 o) (FK ..),w];rfl
 have C:(l.drop (min i l.length)).take (min j l.length-min i l.length)=(l.drop i).take (j-i):=by
  by_cases h:i<=l.length
  ·rw[Dz h];by_cases s:j<=l.length
   ·rw[Dz s]
   ·have s:=GX s;rw[GV s,EO (Az GT),EO (GT▸Nat.sub_le_sub_right s i)]
  ·have h:=GX h;rw[GV h,CP (An _),CP h,KJ,KJ]
 unfold Txt.slice;split
 ·rename_i q
  replace q:=(z)▸q
  simp[w] at q;obtain E |⟨H,N⟩:=ZY q
  ·have:=FG.mp E;subst this;rw[List.drop_nil,KJ]
  ·skip
   subst H;rw[List.drop_zero,Nat.sub_zero,EO N]
 ·rw[A,C];rfl
theorem Vj (l:List Nat)(j:Nat):JR (B5 l) Ah (Ab (j:Int))=B5 (l.take j):=by
 have:=Rg l (j:=j) (AY _);rw[<-this];have e:∀n:Nat,Gp Ah (Ab j) 1 n=Gp (Ab ((0:Nat):Int)) (Ab j) 1 n:=λ n=>by
  have h:=(UF 0 n).trans (congrArg _ (Nat.zero_min n));rfl
 unfold Txt.slice;rw[e]
theorem aK {i j:Nat}(l:List Nat)(h:i<=j):En (.str (B5 l)) (Ab (i:Int)) (Ab (j:Int)) Ah=Ab (.str (B5 ((l.drop i).take (j-i)))):=by
 show(if(Ah:Option Int)=Ah then Ab (PV.str (JR (B5 l) (Ab i) (Ab j))) else Ah)=_;rw[if_pos rfl,Rg l h]
theorem O2 (l:List Nat)(j:Nat):En (.str (B5 l)) Ah (Ab (j:Int)) Ah=Ab (.str (B5 (l.take j))):=by
 show(if(Ah:Option Int)=Ah then Ab (PV.str (JR (B5 l) Ah (Ab j))) else Ah)=_;rw[if_pos rfl,Vj]
theorem O8:B5 a=B5 b↔a=b:=by
 constructor
 ·intro e;have:(B5 a).cps=(B5 b).cps:=by rw[e]
  have:=congrArg Array.toList this;simpa[B5] using this
 ·rintro rfl;rfl
theorem fP (t:List Nat):t.length<=(Fm t).length:=by
 induction t with
 |nil=>exact An _
 |cons c r h=>
  have:Fm (c::r)=(if c=34 then[34,34] else[c])++Fm r:=rfl;rw[this];split<;>simp<;>omega
variable {c:Ai}{r:List Bq} in
noncomputable def t9:List Nat->Option (List Nat)
 |[]=>Ah
 |[c]=>if c=34 then Ab [] else Ah
 |c::e::r=>if c=34 then(if e=34 then(t9 r).map (34::·) else Ab []) else(t9 (e::r)).map (c::·)
theorem ZO (l t:List Nat)(k:t9 l=Ab t):∃h,l=Fm t++34::h/\h.head?≠Ab 34:=by
 have A:∀n l t,l.length<=n->t9 l=Ab t->∃h,l=Fm t++34::h/\h.head?≠Ab 34:=by
  intro n;induction n with
  |zero=>intro l t s k;rw[FG.mp (Nat.le_zero.mp s)] at k;contradiction
  |succ n O=>
   intro l t s k;cases l with
   |nil=>contradiction
   |cons c l=>
    have o:=Mv s;clear s;by_cases q:c=34
    ·subst q;cases l with
     |nil=>cases (if_pos rfl).symm.trans k;exact⟨[],rfl,nofun⟩
     |cons e r=>
      have k:=(if_pos rfl).symm.trans k;by_cases C:e=34
      ·subst C;obtain⟨w,E,rfl⟩:=Bl.mp ((if_pos rfl).symm.trans k);obtain⟨h,H,N⟩:=O r w (CM o) E;exact⟨h,congrArg (λ x=>34::34::x) H,N⟩
      ·cases (if_neg C).symm.trans k
       exact⟨e::r,rfl,λ z=>C (AN z)⟩
    ·cases l with
     |nil=>exact absurd ((if_neg q).symm.trans k) nofun
     |cons e r=>
      obtain⟨w,E,rfl⟩:=Bl.mp ((if_neg q).symm.trans k);obtain⟨h,H,N⟩:=O (e::r) w o E;exact⟨h,(congrArg (c::·) H).trans (congrArg (λ x=>(x++Fm w)++34::h) (if_neg q:(if c=34 then[34,34] else[c])=[c]).symm),N⟩
 exact A l.length l t (An _) k
noncomputable def Ww (l:List Nat):Option (List Nat):=
 if l.take 3=[50,53,55] then(if(l.drop 3).take 2=[32,34] then t9 (l.drop 5) else Ab []) else Ah
noncomputable def QT:List PV->Option PV:=g1 (xV λ r=>if r.length<=4000 then(Ww r.cps.toList).map (λ t=>.str (B5 t)) else Ah)
theorem ZQ:("257":Str)=B5 [50,53,55]:=rfl
theorem oV:(" \"":Str)=B5 [32,34]:=rfl
theorem vO {b:Bc->Option Ae}(I:GN w h)(T:Top c a b mg mb h)(o:GW w h C k mg mb):Gn (W1 w h) (k+1) 86 QT:=by
 refine oW (Cl:=58) (SZ I T) λ args d e=>?_;obtain⟨_,rfl,e⟩:=Oi e;obtain⟨r,rfl,e⟩:=WM e
 ·obtain⟨W,e⟩:r.length<=4000/\(Ww r.cps.toList).map (λ t=>PV.str (B5 t))=Ab d:=by
   by_cases q:r.length<=4000
   ·exact⟨q,(if_pos q).symm.trans e⟩
   ·exact absurd ((if_neg q).symm.trans e) nofun
  ·skip
   obtain⟨t,z,rfl⟩:=Bl.mp e
   (try clear e;try try clear T;try clear I)
   obtain⟨l,rfl⟩:∃l,r=B5 l:=⟨_,(No r).symm⟩;rw[C5] at W;have z:Ww l=Ab t:=by simpa[B5] using z
   refine⟨rfl,λ A i m s B=>?_⟩
   conv in BE P1 10=>whnf
   unfold Ww at z;split at z
   ·rename_i Z;have n:=Kx;have f:=aK l (i:=3) (j:=5) (Ak _ _);refine K2 o s B (.au (.slice (.aa (by kernel_rfl)) .no (.int .int) .no (O2 l 3)) (.ag (d:=.str "257") (by kernel_rfl)) rfl ((bY _ _).trans ?_)) ?_
    ·rw[Z,ZQ];rfl
    ·split at z
     ·rename_i N;have Q:l=[50,53,55,32,34]++l.drop 5:=by
       have O:l=l.take 3++((l.drop 3).take 2++(l.drop 3).drop 2):=by rw[E4,E4]
       simp only[Z,N,List.drop_drop] at O;exact O
      obtain⟨E,O,j⟩:=ZO _ _ z;rw[O] at Q;have p:=fP t;have H:([50,53,55,32,34]++(Fm t++34::E)).length<=BX:=by rw[<-Q];exact Aa W (of_decide_eq_true (_root_.id (Cx Ag)))
      have V:([]:List Nat).length+t.length<=BX:=by simp at H ⊢;omega
      refine K2 o s B (.au (.slice (.aa (by kernel_rfl)) (.int .int) (.int .int) .no f) (.ag (d:=.str " \"") (by kernel_rfl)) rfl ((bY _ _).trans ?_)) ?_
      ·rw[N,oV];rfl
      ·refine JD (Bw o s B (.ag (d:=.str "") (by kernel_rfl)) (by kernel_rfl) (by rfl)) ?_;refine JD (Bw o s B .int rfl (by rfl)) ?_;refine JD (Bw o s B (d:=.int l.length) (.blt rfl rfl (.cons (.aa rfl) .nil rfl) ?_) rfl (by rfl)) ?_
       ·show Ab (PV.int ((B5 l).length:Nat))=_;rw[C5]
       ·have g:=lJ o s B j t [50,53,55,32,34] [] H V;rw[<-Q] at g;have u:Bs (Bs (Bs ((["resp"]:List Str).zip ([PV.str (B5 l)].map Ds.aa)) "dirname" (.aa (.str ""))) "i" (.aa (.int 5))) "n" (.aa (.int l.length))=Jq (B5 l) (B5 []) (([50,53,55,32,34]:List Nat).length:Nat) (l.length:Nat):=by rfl
        refine JD ((Z5 o s B g).pre (λ _ _ q=>q)) ?_;exact U7 (G8 o s B (.aa rfl))
     ·rename_i N;cases z;refine U7 (Gu o s B (c:=Ag) (.au (.slice (.aa (by kernel_rfl)) (.int .int) (.int .int) .no f) (.ag (d:=.str " \"") (by kernel_rfl)) rfl ((bY _ _).trans ?_)) ?_)
      ·rw[oV,decide_eq_false (λ q=>N (O8.mp q))];rfl
      ·skip
       exact DY (G8 o s B (.bn (.ag (by kernel_rfl))))
   ·contradiction
open PySem.NumText
noncomputable def dg (i:Int):List Nat:=(Fn (O0 i)).cps.toList
theorem qQ (i:Int):B5 (dg i)=Fn (O0 i):=No _
theorem sS (m:Nat):dg (m:Int)=(Ig 10 m).map JW:=KIN.signs_num m
theorem sR (m:Nat)(h:0<m):dg (-(m:Int))=45::(Ig 10 m).map JW:=by
 obtain⟨n,rfl⟩:∃n,m=n+1:=⟨m-1,(Nat.sub_add_cancel h).symm⟩;have e:O0 (-((n+1:Nat):Int))="-"++Nat.repr (n+1):=rfl;unfold dg;rw[signs_ofString,String.toList_append,Dx,Nat.toList_repr];rfl
theorem Kh (m:Nat):AllDigits ((Ig 10 m).map JW):=λ c hc=>by
 obtain⟨k,h,e⟩:=AF.mp hc;rw[<-e];exact digit_range (Nat.isDigit_of_mem_toDigits (DN _) (An _) h)
theorem RS (m:Nat):(Ig 10 m).map JW≠[]:=λ e=>by
 have h:=toDigits_len_ge 10 m;rw[List.map_eq_nil_iff.mp e] at h;exact absurd h (by decide)
theorem Qk (m:Nat)(h:m<10^10):((Ig 10 m).map JW).length<=10:=by
 rw[Aj];exact toDigits_len_pow (by decide) (by decide) h
theorem Ql (i:Int)(h:i.natAbs<10^10):∃m:Nat,m<10^10/\((i=m/\dg i=(Ig 10 m).map JW)\/(i=-(m:Int)/\0<m/\dg i=45::(Ig 10 m).map JW)):=by
 refine⟨i.natAbs,h,?_⟩;by_cases q:0<=i
 ·have e:=(Int.natAbs_of_nonneg q).symm;exact .inl ⟨e,by rw[<-sS,<-e]⟩
 ·have q:=Mx.mp q;have e:i=-((i.natAbs:Nat):Int):=by rw[Int.ofNat_natAbs_of_nonpos (Int.le_of_lt q),Int.neg_neg]
  have p:=Int.natAbs_pos.mpr (Int.ne_of_lt q);exact .inr ⟨e,p,by rw[<-sR _ p,<-e]⟩
theorem nL (i:Int)(h:i.natAbs<10^10):∀c∈dg i,c=45\/(48<=c/\c<=57):=λ c hc=>by
 obtain⟨m,k,⟨_,e⟩ |⟨_,_,e⟩⟩:=Ql i h<;>replace hc:=(e)▸hc
 ·exact .inr (Kh m c hc)
 ·rcases Al.mp hc with q |q
  ·exact .inl q
  ·exact .inr (Kh m c q)
theorem V8 (i:Int)(k:i.natAbs<10^10):(dg i).length<=11:=by
 obtain⟨m,h,⟨_,e⟩ |⟨_,_,e⟩⟩:=Ql i k<;>rw[e]
 ·exact BC (Qk m h)
 ·exact Bt (Qk m h)
theorem S5 (i:Int)(k:i.natAbs<10^10):M8 (B5 (dg i))=Ab i:=by
 have hc:(B5 (dg i)).cps.toList=dg i:=by rfl
 have o:(B5 (dg i)).length<=4300:=by rw[C5];have:=V8 i k;exact Aa this (of_decide_eq_true (_root_.id (Cx Ag)))
 obtain⟨m,s,⟨h,e⟩ |⟨h,_,e⟩⟩:=Ql i k
 ·have:=intText_digits (by rw[hc,e];exact Kh m) (by rw[hc,e];exact RS m) o;rw[this,hc,e,KIN.val_back,<-h]
 ·have:=intText_neg (by rw[hc,e]) (Kh m) (RS m) o;rw[this,KIN.val_back,<-h]
variable {r:List Bq} in
noncomputable def HM (c:Nat):Nat->List Nat->List Nat
 |_,[]=>[]
 |k,x::r=>if x=c then k::HM c (k+1) r else HM c (k+1) r
theorem Nh:HM c k []=[]:=rfl
theorem Rm:HM c k (x::r)=if x=c then k::HM c (k+1) r else HM c (k+1) r:=rfl
theorem Ni (c:Nat):∀(a b:List Nat)(k:Nat),HM c k (a++b)=HM c k a++HM c (k+a.length) b:=by
 intro a;induction a with
 |nil=>
  intro b k;exact rfl
 |cons x r h=>
  intro b k;have e:k+(x::r).length=k+1+r.length:=by simp;exact Eq.symm (Cg k 1 (BP r))
  rw[e];show(if x=c then k::HM c (k+1) (r++b) else HM c (k+1) (r++b))=(if x=c then k::HM c (k+1) r else HM c (k+1) r)++_;rw[(h b (k+1))];split<;>rfl
theorem Su (c:Nat):∀(a:List Nat)(k:Nat),c∉a->HM c k a=[]:=by
 intro a;induction a with
 |nil=>
  intro k h;exact rfl
 |cons x r o=>
  intro k h;have q:¬x=c:=λ q=>h (by rw[q];exact Ad);refine Eq.trans (if_neg q) ?_;exact o (k+1) λ q=>h (Af _ q)
open PySem.StrLaws in
theorem Ra (h:i<l.length):subAt (B5 l) (Ga c) i=decide (l[i]=c):=by
 have e:(B5 l).cps.extract i (i+1)= #[l[i]]:=by
  show l.toArray.extract i (i+1)=_;simp;rw[Fe h];rfl
 show((B5 l).cps.extract i (i+1)== #[c])=_;rw[e];by_cases q:l[i]=c
 ·simp[q]
 ·simp[q]
open PySem.StrLaws in
theorem bN (l:List Nat)(c o:Nat):∀(n k:Nat)(st:Array Nat×Nat),k+n=l.length+1->st.2<=k->
 ((forIn (m:=Id) (List.range' k n) st (occBody (B5 l) (Ga c) l.length o)).run.fst).toList=st.1.toList++(HM c k (l.drop k)).take (o-st.1.size):=by
 intro n;induction n with
 |zero=>
  intro k st hk w;rw[CP (CM (Az hk.symm))];simp[Nh]
 |succ n s=>
  intro k st hk w;rw[List.range'_succ,EF];unfold occBody;by_cases h:k<l.length
  ·rw[(Fe h)];have A:HM c k (l[k]::l.drop (k+1))=if l[k]=c then k::HM c (k+1) (l.drop (k+1)) else HM c (k+1) (l.drop (k+1)):=rfl
   rw[A];split
   ·rename_i hc;have z:=hc.2;rw[Ra h] at z;rw[if_pos (of_decide_eq_true z)];have:o-st.1.size=(o-(st.1.push k).size)+1:=by rw[Array.size_push];exact(Nat.sub_one_add_one (Nat.sub_ne_zero_of_lt hc.1.1.1)).symm
    rw[this,List.take_succ_cons];refine(s (k+1) (st.1.push k,k+1) ((Nat.succ_add_eq_add_succ k n).trans hk) (An _)).trans ?_;simp
   ·rename_i hc;refine(s (k+1) (st.1,st.2) ((Nat.succ_add_eq_add_succ k n).trans hk) (BC w)).trans ?_;by_cases q:l[k]=c
    ·have:¬st.1.size<o:=λ C=>hc ⟨⟨⟨C,w⟩,h⟩,by rw[Ra h,decide_eq_true q]⟩;rw[Nat.sub_eq_zero_of_le (B6.mp this)];rfl
    ·rw[if_neg q]
  ·rw[CP (B6.mp h)];have E:=Nat.le_zero.mp (Nat.le_of_add_le_add_left (Aa (Az (Hk hk)) (B6.mp h)));subst E;rw[if_neg (λ q=>h (q.1.2)),Nh,KJ,DV];rfl
open PySem.StrLaws in
theorem PC (l:List Nat)(c lo h:Nat)(k:lo<=l.length):occurrences (B5 l) (Ga c) lo l.length h=(HM c lo (l.drop lo)).take h:=by
 rw[occ_eq,bN l c h _ lo (#[],lo) (EE (BC k)) (An _)];rfl
theorem mV (h:HM c 0 l=i::r):Txt.find (B5 l) (Ga c)=i:=by
 unfold Txt.find;rw[C5,PC l c 0 1 (AY _),List.drop_zero,h];rfl
theorem fJ {i:Nat}{l:List Nat}{c lo:Nat}{r:List Nat}(h:lo<=l.length)(k:HM c lo (l.drop lo)=i::r):Txt.find3 (B5 l) (Ga c) lo=i:=by
 unfold Txt.find3;have:fromIndex (B5 l).length lo=lo:=by unfold fromIndex;rfl
 rw[this,C5,PC l c lo 1 h,k];rfl
theorem dG (x y:Str)(h:EB y=1):decide (EB x<EB y)=Au:=by
 refine decide_eq_false ?_;rw[h];unfold PySem.Builtin.Str.strKind;split
 ·exact EW 1
 ·split<;>omega
theorem jG (l:List Nat)(i j:Nat):strSub (B5 l) i j=B5 ((l.drop i).take (j-i)):=by
 show(⟨l.toArray.extract i j⟩:Str)=⟨((l.drop i).take (j-i)).toArray⟩;congr 1;apply Array.toList_inj.mp;simp
noncomputable def Jf:List Nat:=[124,33,120,40]
theorem jZ:StrLaws.partsFrom x b a (c::r)=strSub x a c::StrLaws.partsFrom x b (c+b) r:=rfl
theorem qN {x:Str}:StrLaws.partsFrom x b a []=[strSub x a x.length]:=rfl
theorem TC (w:m∈Jf)(z:m∉a):IJ (B5 ([m,m,m]++(a++[m]))) (Ga m)=[B5 [],B5 [],B5 [],B5 a,B5 []]:=by
 have hk:EB (Ga m)=1:=by
  have:∀m∈Jf,EB (Ga m)=1:=by decide+kernel
  exact this m w
 have o:(B5 ([m,m,m]++(a++[m]))).length=a.length+4:=by rw[C5];simp
 have s:∀h,4<=h->occurrences (B5 ([m,m,m]++(a++[m]))) (Ga m) 0 (B5 ([m,m,m]++(a++[m]))).length h=[0,1,2,3+a.length]:=λ h k=>by
  rw[C5,PC _ m 0 h (AY _),List.drop_zero,Ni,Ni,Su m a _ z];have:HM m 0 [m,m,m]=[0,1,2]:=by simp[Rm,Nh]
  rw[this];simp only[Rm,Nh,if_true,DU,Ec,List.length_nil,Ee];rw[EO (by simpa using k)]
 unfold Txt.split;rw[if_neg (by
  rw[dG _ _ hk,o];have:(Ga m).length=1:=rfl;rw[this];simp),if_neg (by rw[s _ (by rw[o];exact Ak 4 (BP a+1))];simp),s _ (by rw[o];exact Ak 4 (BP a+1)),StrLaws.partsBetween_eq]
 have A:(Ga m).length=1:=rfl;simp only[jZ,qN,A,o,jG];have C:(List.take (3+a.length-(2+1)) (List.drop (2+1) ([m,m,m]++(a++[m]))))=a:=by
  show List.take (3+a.length-3) (a++[m])=a;rw[show 3+a.length-3=a.length by omega,List.take_left'];rfl
 have E:List.take (a.length+4-(3+a.length+1)) (List.drop (3+a.length+1) ([m,m,m]++(a++[m])))=[]:=by
  rw[show a.length+4-(3+a.length+1)=0 by omega];rfl
 rw[C,E];rfl
noncomputable def FP:List Nat:=[50,50,57,32,105,116,32,108,105,101,115,32,97,116,32]
noncomputable def Jo:List Nat:=[32,40,124,124,124,55,124,41]
noncomputable def Cb (m:Nat)(h:List Nat):List Nat:=FP++(40::([m,m,m]++(h++(m::41::Jo))))
theorem Vg (x y:Int):GC .Sub (.int x) (.int y)=Ab (.int (x-y)):=rfl
theorem fH (m:Nat)(h:List Nat):Mf .find (.str (B5 (Cb m h))) [.str "("]=Ab (.int 15):=by
 have e:("(":Str)=Ga 40:=rfl;have k:HM 40 0 (Cb m h)=15::HM 40 16 ([m,m,m]++(h++(m::41::Jo))):=by
  unfold Cb;rw[Ni,Su 40 FP 0 (by decide)];rfl
 show Ab (PV.int (Txt.find (B5 (Cb m h)) "("))=_;rw[e,mV k];rfl
theorem YS (m:Nat)(h:List Nat)(s:m∈Jf)(w:∀c∈h,c=45\/(48<=c/\c<=57)):Mf .find (.str (B5 (Cb m h))) [.str ")",.int 16]=Ab (.int ((20+h.length:Nat):Int)):=by
 have e:(")":Str)=Ga 41:=rfl;have z:(41:Nat)∉[m,m,m]++(h++[m]):=by
  have k:(41:Nat)≠m:=λ q=>by rw[<-q] at s;exact absurd s (by decide)
  have o:(41:Nat)∉h:=λ q=>(w 41 q).elim (λ q=>absurd q (by decide)) λ q=>absurd q.1 (by decide);simp[k,o]
 have A:(Cb m h).drop 16=[m,m,m]++(h++[m])++41::Jo:=by simp[Cb,FP]
 have C:HM 41 16 ((Cb m h).drop 16)=(20+h.length)::HM 41 (16+([m,m,m]++(h++[m])).length+1) Jo:=by
  rw[A,Ni,Su 41 _ 16 z];have:16+([m,m,m]++(h++[m])).length=20+h.length:=by rw[AP,AP,DQ h.length];exact(Et 16 3 _).symm.trans (Et 19 1 _).symm
  rw[this];rfl
 show Ab (PV.int (Txt.find3 (B5 (Cb m h)) ")" ((16:Nat):Int)))=_;rw[e,fJ (by simp[Cb,FP]) C]
theorem qO {f:Bc->Option Ae}(I:GN w h)(T:Top g d f mg mb h)(o:GW w h C k mg mb)(W:m∈Jf){a:List Nat}(Z:∀c∈a,c=45\/(48<=c/\c<=57))(p:a.length<=20)(r:M8 (B5 a)=Ab i)(b:PV)(s:CX k A)(B:Ko w h 79 z N):
 Q4 (W1 w h) A (Fa w 79).scope z N 58 (BE P1 9) ((["resp","peer"]:List Str).zip ([PV.str (B5 (Cb m a)),PV.ba [.str "peer",b]].map Ds.aa)) (.ret (.ba [.str "peer",.int i])):=by
 conv in BE P1 9=>whnf
 have y:=Kx;have j:m∉a:=λ q=>by
  have:∀m∈Jf,¬(m=45\/(48<=m/\m<=57)):=by decide
  exact this m W (Z m q)
 have E:(Cb m a).length<=BX:=by simp[Cb,FP,Jo];omega
 have t:En (.str (B5 (Cb m a))) Ah (Ab 3) Ah=Ab (.str (B5 [50,50,57])):=O2 (Cb m a) 3;have H:("229":Str)=B5 [50,50,57]:=rfl;have O:Cb m a=(FP++[40])++m::([m,m]++(a++(m::41::Jo))):=by simp[Cb]
 have Q:ET (.str (B5 (Cb m a))) (.int 16)=Ab (.str (Ga m)):=by
  have:=Ps rfl (by rw[<-O];exact E);rw[<-O] at this;exact this
 have V:Cb m a=(FP++(40::([m,m,m]++a)))++m::(41::Jo):=by simp[Cb]
 have l:ET (.str (B5 (Cb m a))) (.int (((20+a.length:Nat):Int)-1))=Ab (.str (Ga m)):=by
  have:=Ps (a:=FP++(40::([m,m,m]++a))) (by simp[FP];exact DQ 19 (BP a)) (by rw[<-V];exact E);rw[<-V] at this;rw[((congrArg (λ n:Nat=>(n:Int)-1) (Nat.succ_add 19 a.length)).trans (Int.add_sub_cancel ((19+a.length:Nat):Int) 1))];exact this
 have u:En (.str (B5 (Cb m a))) (Ab 16) (Ab ((20+a.length:Nat):Int)) Ah=Ab (.str (B5 ([m,m,m]++(a++[m])))):=by
  have:=aK (Cb m a) (i:=16) (j:=20+a.length) (Aa (by decide) (AR 20 _));refine this.trans ?_;have e:((Cb m a).drop 16).take (20+a.length-16)=[m,m,m]++(a++[m]):=by
   have:(Cb m a).drop 16=([m,m,m]++(a++[m]))++41::Jo:=by simp[Cb,FP]
   rw[this];exact List.take_left' (by simp;omega)
  rw[e]
 have v:Mf .split (.str (B5 ([m,m,m]++(a++[m])))) [.str (Ga m)]=Ab (.list [.str (B5 []),.str (B5 []),.str (B5 []),.str (B5 a),.str (B5 [])]):=by
  have x:PB (B5 a)=Ag:=by
   unfold PB;rw[AG];refine⟨?_,by rw[C5];exact decide_eq_true (Aa p (of_decide_eq_true (_root_.id (Cx Ag))))⟩;unfold PyData.strOk;rw[HI];intro c hc;have:c∈a:=by simpa[B5] using hc
   have:=Z c this;simp;omega
  show(if(!((Ga m).length==0)&&(IJ (B5 ([m,m,m]++(a++[m]))) (Ga m)).all PB&&decide ((IJ (B5 ([m,m,m]++(a++[m]))) (Ga m)).length<=BX))=Ag then Ab (PV.list ((IJ (B5 ([m,m,m]++(a++[m]))) (Ga m)).map .str)) else Ah)=_;rw[TC W j,if_pos]
  ·rfl
  ·have:(Ga m).length=1:=rfl;rw[this];simp[(by decide+kernel:PB (B5 [])=Ag),x];decide+kernel
 refine K2 o s B (.au (.slice (.aa (by kernel_rfl)) .no (.int .int) .no t) (.ag (d:=.str "229") (by kernel_rfl)) rfl ((bY _ _).trans (by rw[H];simp))) ?_;refine JD (Bw o s B (.bw (by kernel_rfl) (by kernel_rfl) (.aa (by kernel_rfl)) (.cons (.ag (by kernel_rfl)) .nil rfl) (by simp) (fH m a)) (by kernel_rfl) (by rfl)) ?_;refine K2 o s B (.au (.aa rfl) .int rfl ((cG _ _).trans rfl)) ?_;refine JD (Bw o s B (.bw (by kernel_rfl) (by kernel_rfl) (.aa (by kernel_rfl)) (.cons (.ag (by kernel_rfl)) (.cons (.am (.aa (d:=.int 15) (by kernel_rfl)) .int rfl) .nil rfl) rfl) (by simp) (YS m a W Z)) (by kernel_rfl) (by rfl)) ?_;refine K2 o s B (.au (.aa rfl) .int rfl ((cG _ _).trans (by rw[decide_eq_false (Hq.mpr (BD _))]))) ?_;refine K2 o s B (.au (.sub (.aa rfl) (.am (.aa rfl) .int rfl) (λ _ _=>rfl) Q) (.sub (.aa rfl) (.am (.aa rfl) .int (Vg _ _)) (λ _ _=>rfl) l) rfl ((bY _ _).trans (by simp))) ?_;refine JD (Bw o s B (.bw rfl rfl (.slice (.aa rfl) (.int (.am (.aa rfl) .int rfl)) (.int (.aa rfl)) .no u) (.cons (.sub (.aa rfl) (.am (.aa rfl) .int rfl) (λ _ _=>rfl) Q) .nil rfl) (by simp) v) rfl (by rfl)) ?_;refine K2 o s B (.au (.blt rfl rfl (.cons (.aa rfl) .nil rfl) rfl) .int rfl rfl) ?_;refine JD (Bw o s B (.sub (.aa rfl) .int (λ _ _=>rfl) rfl) rfl (by rfl)) ?_;refine JD (Bw o s B (d:=.int i) (.blt rfl rfl (.cons (.sub (.aa rfl) .int (λ _ _=>rfl) rfl) .nil rfl) ?_) rfl (by rfl)) ?_
 ·show(if decide ((B5 a).length<=640)=Ag then(M8 (B5 a)).map PV.int else Ah)=_;rw[if_pos (decide_eq_true (by rw[C5];exact Aa p (of_decide_eq_true (_root_.id (Cx Ag))))),r];rfl
 ·exact U7 (G8 o s B (.bn (.ba (.cons (.aa rfl) (.cons (.aa rfl) .nil rfl) rfl) (Ak 2 1048574))))
open Classical in
noncomputable def Xb (args:List PV):Option PV:=if h:∃i:Int,i.natAbs<10^10/\∃m∈Jf,args=[.str (B5 (Cb m (dg i))),.ba [.str "peer",.int 21]] then Ab (.ba [.str "peer",.int h.choose]) else Ah
theorem iZ (h:Cb m a=Cb n b):a=b:=by
 have e:m=n:=by
  have:=congrArg (λ l:List Nat=>l.getD 16 0) h;exact this
 subst e;unfold Cb at h;simpa using h
theorem eQ (o:m∈Jf)(k:i.natAbs<10^10):Xb [.str (B5 (Cb m (dg i))),.ba [.str "peer",.int 21]]=Ab (.ba [.str "peer",.int i]):=by
 have h:∃j:Int,j.natAbs<10^10/\∃n∈Jf,[PV.str (B5 (Cb m (dg i))),.ba [.str "peer",.int 21]]=[.str (B5 (Cb n (dg j))),.ba [.str "peer",.int 21]]:=⟨i,k,m,o,rfl⟩;refine(dif_pos h).trans ?_;obtain⟨s,n,_,e⟩:=h.choose_spec;injection e with e;injection e with e;have:=iZ (O8.mp e);have r:=S5 i k;rw[this,S5 _ s] at r;rw[AN r]
theorem vP {b:Bc->Option Ae}(I:GN w h)(T:Top c a b mg mb h)(z:GW w h C k mg mb):Gn (W1 w h) (k+1) 79 Xb:=by
 refine oW (Cl:=58) (Qf I T) λ args d e=>?_;by_cases h:∃i:Int,i.natAbs<10^10/\∃m∈Jf,args=[.str (B5 (Cb m (dg i))),.ba [.str "peer",.int 21]]
 ·have e:=(dif_pos h).symm.trans e;cases e;obtain⟨o,m,E,s⟩:=h.choose_spec;generalize h.choose=j at o s ⊢;subst s;exact⟨rfl,λ A H O N B=>qO I T z E (nL _ o) (by have:=V8 _ o;exact Aa this (of_decide_eq_true (_root_.id (Cx Ag)))) (S5 _ o) _ N B⟩
 ·exact absurd ((dif_neg h).symm.trans e) nofun
noncomputable def Tm (k:BV)(w:Nat)(a:Ai)(args:List PV)(Cl:Ai)(x:Str):Prop:=
 ∀(A:Dj)(s:Aq)(X:List Ai)(h:List Ae)(l:List Env),CX w A->A.frames=Ab l->Ba k s.heap l->Gd k s->(∀b∈X,k.h0.get? b=Ah/\∃o,s.heap.get? b=Ab o)->RpL k X s.heap h args->Rz k A (call (.ref a) h) s l Cl x
theorem t6 {b:Bc->Option Ae}(I:GN w h)(T:Top c a b mg mb h)(H:GW w h C k mg mb){l:List Nat}(N:l.take 3≠[50,53,55]):Tm (W1 w h) (k+1) 86 [.str (B5 l)] 58 (B5 l):=λ A s X E V o z St G O r=>by
 refine ZR (x:="error_reply") (SZ I T) rfl (λ A Q W o B=>?_) o z St G O r
 conv in BE P1 10=>whnf
 refine N0 H o B (.au (.slice (b:=.str (B5 l)) (.aa (by kernel_rfl)) .no (.int .int) .no (O2 l 3)) (.ag (d:=.str "257") (by kernel_rfl)) rfl ((bY _ _).trans ?_)) (fO I T) (by kernel_rfl) rfl (.aa (by kernel_rfl));rw[ZQ,decide_eq_false (λ q=>N (O8.mp q))];rfl
theorem yR {b:Bc->Option Ae}(I:GN w h)(T:Top c a b mg mb h)(H:GW w h C k mg mb){l:List Nat}(N:l.take 3≠[50,50,57]):Tm (W1 w h) (k+1) 79 [.str (B5 l),.ba [.str "peer",.int 21]] 58 (B5 l):=λ A s X E V o z St G O r=>by
 refine ZR (x:="error_reply") (Qf I T) rfl (λ A Q W o B=>?_) o z St G O r
 conv in BE P1 9=>whnf
 refine N0 H o B (.au (.slice (.aa (by kernel_rfl)) .no (.int .int) .no (O2 l 3)) (.ag (d:=.str "229") (by kernel_rfl)) rfl ((bY _ _).trans ?_)) (fO I T) (by kernel_rfl) rfl (.aa (by kernel_rfl));rw[show("229":Str)=B5 [50,50,57] by kernel_rfl,decide_eq_false (λ q=>N (O8.mp q))];rfl
noncomputable def MC:List Str:=["229 at 272)","229 at (|||7|x","229 at (||7|)","229 at (|||7||)","229 at (|||7|!)"]
noncomputable def D? (x:Str):Prop:=En (.str x) Ah (Ab 3) Ah=Ab (.str "229")/\∃l,Mf .find (.str x) [.str "("]=Ab (.int l)/\(decide (l<0)=Ag\/decide (l<0)=Au/\∃r,Mf .find (.str x) [.str ")",.int (l+1)]=Ab (.int r)/\(decide (r<0)=Ag\/decide (r<0)=Au/\
 ∃a b,ET (.str x) (.int (l+1))=Ab (.str a)/\ET (.str x) (.int (r-1))=Ab (.str b)/\((!decide (a=b))=Ag\/(!decide (a=b))=Au/\∃y h n,En (.str x) (Ab (l+1)) (Ab r) Ah=Ab (.str y)/\Mf .split (.str y) [.str a]=Ab (.list h)/\Q0 .len [.list h]=Ab (.int n)/\(!decide (n=5))=Ag)))
theorem xW (h:x∈MC):D? x:=by
 rcases Al.mp h with rfl |h
 ·exact⟨by kernel_rfl,-1,by kernel_rfl,.inl rfl⟩
 rcases Al.mp h with rfl |h
 ·exact⟨by kernel_rfl,7,by kernel_rfl,.inr ⟨rfl,-1,by kernel_rfl,.inl rfl⟩⟩
 rcases Al.mp h with rfl |h
 ·exact⟨by kernel_rfl,7,by kernel_rfl,.inr ⟨rfl,12,by kernel_rfl,.inr ⟨rfl,"|","|",by kernel_rfl,by kernel_rfl,.inr ⟨by decide+kernel,"||7|",[.str "",.str "",.str "7",.str ""],4,by kernel_rfl,by kernel_rfl,by kernel_rfl,rfl⟩⟩⟩⟩
 rcases Al.mp h with rfl |h
 ·exact⟨by kernel_rfl,7,by kernel_rfl,.inr ⟨rfl,14,by kernel_rfl,.inr ⟨rfl,"|","|",by kernel_rfl,by kernel_rfl,.inr ⟨by decide+kernel,"|||7||",[.str "",.str "",.str "",.str "7",.str "",.str ""],6,by kernel_rfl,by kernel_rfl,by kernel_rfl,rfl⟩⟩⟩⟩
 rcases Al.mp h with rfl |h
 ·exact⟨by kernel_rfl,7,by kernel_rfl,.inr ⟨rfl,14,by kernel_rfl,.inr ⟨rfl,"|","!",by kernel_rfl,by kernel_rfl,.inl (by decide+kernel)⟩⟩⟩
 contradiction
theorem t7 {d:Bc->Option Ae}(I:GN w h)(T:Top e c d mg mb h)(E:GW w h C k mg mb)(o:D? x):Tm (W1 w h) (k+1) 79 [.str x,.ba [.str "peer",.int 21]] 70 x:=λ A s X V M z O St G f r=>by
 refine ZR (x:="error_proto") (Qf I T) rfl (λ A g R z B=>?_) z O St G f r;obtain⟨i,l,j,o⟩:=o
 conv in BE P1 9=>whnf
 have N:=pH I T;refine K2 E z B (.au (.slice (.aa (by kernel_rfl)) .no (.int .int) .no i) (.ag (d:=.str "229") (by kernel_rfl)) rfl (by kernel_rfl)) ?_;refine JD (Bw E z B (.bw (by kernel_rfl) (by kernel_rfl) (.aa (by kernel_rfl)) (.cons (.ag (by kernel_rfl)) .nil rfl) (by decide) j) (by kernel_rfl) (by rfl)) ?_;have L:∀{W:A5}{p:Pos},W.lookup ("left":Str)=Ab (.aa (.int l))->∀q k m,Dc C (Fa w 79).scope W (.BinOp (.Name "left" p) .Add (.Constant (.int 1) k q) m) (.int (l+1)):=λ h _ _ _=>.am (.aa h) .int rfl;rcases o with o |⟨o,r,t,H⟩
 ·exact N0 E z B (.au (.aa rfl) .int rfl ((cG _ _).trans (congrArg Ab o))) N rfl rfl (.aa rfl)
 refine K2 E z B (.au (.aa rfl) .int rfl ((cG _ _).trans (congrArg Ab o))) ?_;refine JD (Bw E z B (.bw (by kernel_rfl) (by kernel_rfl) (.aa (by kernel_rfl)) (.cons (.ag (by kernel_rfl)) (.cons (L (by kernel_rfl) _ _ _) .nil rfl) rfl) (by decide) t) (by kernel_rfl) (by rfl)) ?_;rcases H with o |⟨o,a,b,Q,Z,H⟩
 ·exact N0 E z B (.au (.aa rfl) .int rfl ((cG _ _).trans (congrArg Ab o))) N rfl rfl (.aa rfl)
 refine K2 E z B (.au (.aa rfl) .int rfl ((cG _ _).trans (congrArg Ab o))) ?_;rcases H with o |⟨o,y,S,n,u,v,D,J⟩
 ·exact N0 E z B (.au (.sub (.aa rfl) (L rfl _ _ _) (λ _ _=>rfl) Q) (.sub (.aa rfl) (.am (.aa rfl) .int rfl) (λ _ _=>rfl) Z) rfl ((bY _ _).trans (congrArg Ab o))) N rfl rfl (.aa rfl)
 refine K2 E z B (.au (.sub (.aa rfl) (L rfl _ _ _) (λ _ _=>rfl) Q) (.sub (.aa rfl) (.am (.aa rfl) .int rfl) (λ _ _=>rfl) Z) rfl ((bY _ _).trans (congrArg Ab o))) ?_;refine JD (Bw E z B (.bw rfl rfl (.slice (.aa rfl) (.int (L rfl _ _ _)) (.int (.aa rfl)) .no u) (.cons (.sub (.aa rfl) (L rfl _ _ _) (λ _ _=>rfl) Q) .nil rfl) (by decide) v) rfl (by rfl)) ?_;exact N0 E z B (.au (.blt rfl rfl (.cons (.aa rfl) .nil rfl) D) .int rfl (Eq.trans (by rfl) (congrArg Ab J))) N rfl rfl (.aa rfl)
theorem uY (h:x.natAbs<4294967296):GC .Mult (.int x) (.int y)=Ab (.int (x*y)):=by
 show(if x.natAbs<4294967296 then Ab (PV.int (x*y)) else Ah)=_;rw[if_pos h]
theorem QX (h:y≠0/\y.natAbs<1073741824):GC .FloorDiv (.int x) (.int y)=Ab (.int (x.fdiv y)):=by
 show(if y≠0/\y.natAbs<1073741824 then Ab (PV.int (x.fdiv y)) else Ah)=_;rw[if_pos h]
theorem SH (h:y≠0):GC .Mod (.int x) (.int y)=Ab (.int (x.fmod y)):=by
 show(if y≠0 then Ab (PV.int (x.fmod y)) else Ah)=_;rw[if_pos h]
theorem qL (h:0<=n/\n<=64/\x.natAbs<1048576):GC .Pow (.int x) (.int n)=Ab (.int (x^n.toNat)):=by
 show(if 0<=n/\n<=64/\x.natAbs<1048576 then Ab (PV.int (x^n.toNat)) else Ah)=_;rw[if_pos h]
theorem Oj {x y:Int}(h:0<=y):x.fdiv y=x/y:=Int.fdiv_eq_ediv_of_nonneg x h
theorem MM {x y:Int}(h:0<=y):x.fmod y=x%y:=Int.fmod_eq_emod_of_nonneg x h
noncomputable def PY:List Nat:=[63,112,99,63,100,63,98,63,45,63,108,63,115,63,63,63]
noncomputable def wW (h:Nat)(D X:Int):List Nat:=
 [if 4<=D then 114 else 45,if D/2%2=1 then 119 else 45,
  if h=0 then[45,120,84,116].getD (D%2+X*2).toNat 0 else[45,120,83,115].getD (D%2+X*2).toNat 0]
noncomputable def C6 (m:Int)(h:Nat):Int:=m/8^h%8
noncomputable def JO (m:Int)(h:Nat):Int:=m/512/2^h%2
noncomputable def R8 (m:Int)(h:Nat):List Nat:=wW h (C6 m h) (JO m h)
noncomputable def Nr (m:Int):List Nat:=[PY.getD (m/4096%16).toNat 0]++R8 m 2++R8 m 1++R8 m 0
noncomputable def P9:List PV->Option PV:=g1 (tV λ m=>Ab (.str (B5 (Nr m))))
noncomputable def WZ (m:Int)(l:List Nat):A5:=[("mode",.aa (.int m)),("signs",.aa (.str (B5 l)))]
noncomputable def pB (m:Int)(l:List Nat)(h:Nat):A5:=[("mode",.aa (.int m)),("signs",.aa (.str (B5 l))),("k",.aa (.int (h:Nat)))]
noncomputable def cR (m:Int)(l:List Nat)(h:Nat)(D:Int):A5:=[("mode",.aa (.int m)),("signs",.aa (.str (B5 l))),("k",.aa (.int (h:Nat))),("digit",.aa (.int D))]
noncomputable def yA:List Str:=["mode","signs"]
noncomputable def WX:Expr×List Bq×List Bq:=((LY (BE P1 39) 1).x 0,(LY (BE P1 39) 1).b 0,(LY (BE P1 39) 1).b 1)
theorem ZV (h:n<16):ET (.str "?pc?d?b?-?l?s???") (.int (n:Nat))=Ab (.str (B5 [PY.getD n 0])):=by
 exact(show ∀n:Nat,n<16->ET (.str "?pc?d?b?-?l?s???") (.int n)=Ab (.str (B5 [PY.getD n 0])) from by
  repeat (refine Fc ?_ rfl)
  exact Kr) n h
theorem o3 {D:Int}(h:0<=D)(k:D<8):ET (.str "-r") (.int (D.fdiv 4))=Ab (.str (B5 [if 4<=D then 114 else 45])):=by
 obtain⟨n,rfl,o⟩:=uB h k;exact(show ∀n:Nat,n<8->ET (.str "-r") (.int ((n:Int).fdiv 4))=Ab (.str (B5 [if 4<=(n:Int) then 114 else 45])) from by
  repeat (refine Fc ?_ rfl)
  exact Kr) n o
theorem o0 {D:Int}(h:0<=D)(k:D<8):ET (.str "-w") (.int ((D.fdiv 2).fmod 2))=Ab (.str (B5 [if D/2%2=1 then 119 else 45])):=by
 obtain⟨n,rfl,o⟩:=uB h k;exact(show ∀n:Nat,n<8->ET (.str "-w") (.int (((n:Int).fdiv 2).fmod 2))=Ab (.str (B5 [if(n:Int)/2%2=1 then 119 else 45])) from by
  repeat (refine Fc ?_ rfl)
  exact Kr) n o
theorem oZ (t:Str)(l:List Nat)(k:t=B5 l)(o:l.length=4){D X:Int}(z:0<=X)(s:X<2):ET (.str t) (.int (D%2+X*2))=Ab (.str (B5 [l.getD (D%2+X*2).toNat 0])):=by
 subst k;obtain⟨n,w,h⟩:=uB (x:=D%2+X*2) (n:=4) (by omega) (by omega);rw[w];exact(x5 (P:=λ l=>∀n:Nat,n<4->ET (.str (B5 l)) (.int n)=Ab (.str (B5 [l.getD n 0]))) (λ a b c d=>by
  repeat (refine Fc ?_ (by rfl))
  exact Kr) l o) n h
theorem J3 (f:GW w h C k mg mb)(g:CX k A)(B:Ko w h 168 z N)(m:Int)(i:j<=2)(hl:l.length<=100):
 FY (W1 w h) A (Fa w 168).scope z N (execs WX.2.1 z) (pB m l j) (.next (WZ m (l++R8 m j))):=by
 have o:0<=C6 m j:=Gb _ (by decide);have s:C6 m j<8:=Hs _ (by decide);have E:0<=JO m j:=Gb _ (by decide);have H:JO m j<2:=Hs _ (by decide);have Q:(0:Int)<=8^j:=Int.le_of_lt (Int.pow_pos (BW (8-BZ 0)));have V:(0:Int)<=2^j:=Int.le_of_lt (Int.pow_pos (BW (2-BZ 0)));have u:(8:Int)^j≠0/\((8:Int)^j).natAbs<1073741824:=(by decide:∀j<3,(8:Int)^j≠0/\((8:Int)^j).natAbs<1073741824) j (CK i);have v:(2:Int)^j≠0/\((2:Int)^j).natAbs<1073741824:=(by decide:∀j<3,(2:Int)^j≠0/\((2:Int)^j).natAbs<1073741824) j (CK i)
 conv in WX.2.1=>whnf
 have y:(m.fdiv (8^j)).fmod 8=C6 m j:=by rw[Oj Q,MM (BW (8+0))];rfl
 have D:((m.fdiv 512).fdiv (2^j)).fmod 2=JO m j:=by rw[Oj V,Oj (BW (512+0)),MM (BW (2+0))];rfl
 refine Fg (Bw f g B (.am (.am (.aa rfl) (.am .int (.aa rfl) (qL ⟨BW (j+0),by omega,by decide⟩)) (QX u)) .int ((SH (by decide)).trans (congrArg (λ x=>Ab (PV.int x)) y))) rfl (by rfl)) ?_;have G:Bs (pB m l j) "digit" (.aa (.int (C6 m j)))=cR m l j (C6 m j):=rfl;rw[G];have n:5000<=BX:=by decide+kernel
 have p:GC .Add (.str (B5 l)) (.str (B5 [if 4<=C6 m j then 114 else 45]))=Ab (.str (B5 (l++[if 4<=C6 m j then 114 else 45]))):=by
  rw[GJ (by rw[C5,C5];simp;omega),F4]
 have q:GC .Add (.str (B5 (l++[if 4<=C6 m j then 114 else 45]))) (.str (B5 [if C6 m j/2%2=1 then 119 else 45]))=Ab (.str (B5 ((l++[if 4<=C6 m j then 114 else 45])++[if C6 m j/2%2=1 then 119 else 45]))):=by
  rw[GJ (by rw[C5,C5];simp;omega),F4]
 have r:∀c,GC .Add (.str (B5 ((l++[if 4<=C6 m j then 114 else 45])++[if C6 m j/2%2=1 then 119 else 45]))) (.str (B5 [c]))=Ab (.str (B5 (((l++[if 4<=C6 m j then 114 else 45])++[if C6 m j/2%2=1 then 119 else 45])++[c]))):=λ c=>by
  rw[GJ (by rw[C5,C5];simp;omega),F4]
 have O:∀{I V J L M R S Q T W Z a b d e p16:Pos}{U Y k3 k4 k5:Nat},Dc C (Fa w 168).scope (cR m l j (C6 m j)) (.BinOp (.BinOp (.Name "digit" I) .Mod (.Constant (.int 2) U V) J) .Add (.BinOp (.BinOp (.BinOp (.BinOp (.Name "mode" L) .FloorDiv (.Constant (.int 512) Y M) R) .FloorDiv (.BinOp (.Constant (.int 2) k3 S) .Pow (.Name "k" Q) T) W) .Mod (.Constant (.int 2) k4 Z) a) .Mult (.Constant (.int 2) k5 b) d) e) (.int (C6 m j%2+JO m j*2)):=λ{_ _ _ _ _ _ _ _ _ _ _ _ _ _ _ _ _ _ _ _ _}=>
  .am (.am (.aa (d:=.int (C6 m j)) rfl) .int (SH (by decide))) (.am (.am (.am (.am (.aa (d:=.int m) rfl) .int (QX (by decide))) (.am .int (.aa (d:=.int (j:Nat)) rfl) (qL ⟨BW (j+0),by omega,by decide⟩)) (QX v)) .int ((SH (by decide)).trans (congrArg (λ x=>Ab (PV.int x)) D))) .int (uY (tD (Hr (by decide) E) (Int.lt_trans H (by decide))))) ((Wp _ _).trans (congrArg (λ x=>Ab (PV.int x)) (by rw[MM (BW (2+0))])))
 have e2:Ei yA (Bs (cR m l j (C6 m j)) "signs" (.aa (.str (B5 (l++R8 m j)))))=WZ m (l++R8 m j):=rfl;rw[<-e2];refine DY ((Bw f g B ?_ rfl (by rfl)).post EL);by_cases t:j=0
 ·subst t;refine .am (.am (.am (.aa (by kernel_rfl)) (.sub (.bn (.ag (by kernel_rfl))) (.am (.aa (by kernel_rfl)) .int (QX (by decide))) (λ _ _=>rfl) (o3 o s)) p) (.sub (.bn (.ag (by kernel_rfl))) (.am (.am (.aa (by kernel_rfl)) .int (QX (by decide))) .int (SH (by decide))) (λ _ _=>rfl) (o0 o s)) q) (.sub (b:=.str "-xTt") (.bn (.ja (.au (.aa (d:=.int 0) (by kernel_rfl)) .int rfl ((ZG _ _).trans rfl)) (.ag (by kernel_rfl)))) (O (p16:=default)) (λ _ _=>rfl) (oZ _ [45,120,84,116] (by kernel_rfl) rfl E H)) ((r _).trans ?_);rw[BQ,BQ];rfl
 ·refine .am (.am (.am (.aa (by kernel_rfl)) (.sub (.bn (.ag (by kernel_rfl))) (.am (.aa (by kernel_rfl)) .int (QX (by decide))) (λ _ _=>rfl) (o3 o s)) p) (.sub (.bn (.ag (by kernel_rfl))) (.am (.am (.aa (by kernel_rfl)) .int (QX (by decide))) .int (SH (by decide))) (λ _ _=>rfl) (o0 o s)) q) (.sub (b:=.str "-xSs") (.bn (.ja (.au (.aa (d:=.int j) (by kernel_rfl)) .int rfl ((ZG _ _).trans (by rw[decide_eq_false (by omega)]))) (.ag (by kernel_rfl)))) (O (p16:=default)) (λ _ _=>rfl) (oZ _ [45,120,83,115] (by kernel_rfl) rfl E H)) ((r _).trans ?_);unfold R8 wW;rw[if_neg t,BQ,BQ];rfl
theorem YW {b:Bc->Option Ae}(I:GN w h)(T:Top c a b mg mb h)(o:GW w h C k mg mb):Gn (W1 w h) (k+1) 168 P9:=by
 refine OC (Qe I T) λ args d e=>?_;obtain⟨_,rfl,e⟩:=Oi e;obtain⟨m,rfl,e⟩:=Np e
 ·cases e
  refine⟨rfl,λ A z H s B=>?_⟩
  conv in BE P1 39=>whnf
  have hk:((m.fdiv 4096).fmod 16)=((m/4096%16).toNat:Nat):=by rw[Oj (BW (4096+0)),MM (BW (16+0))];exact(Do (Gb _ (by decide))).symm
  refine K3 (Bw o s B (.sub (.bn (.ag (by kernel_rfl))) (.am (.am (.aa (by kernel_rfl)) .int (QX (by decide))) .int ((SH (by decide)).trans (congrArg (λ x=>Ab (PV.int x)) hk))) (λ _ _=>rfl) (ZV (xZ _ (by decide)))) (by kernel_rfl) (by rfl)) ?_;have E:Bs ((["mode"]:List Str).zip ([PV.int m].map Ds.aa)) "signs" (.aa (.str (B5 [PY.getD (m/4096%16).toNat 0])))=WZ m [PY.getD (m/4096%16).toNat 0]:=rfl;rw[E];refine K3 (J4 o s B (fl:=.next (WZ m (Nr m))) (.ba (.ba (.cons .int (.cons .int (.cons .int .nil rfl) rfl) rfl) (by decide+kernel)) rfl) ?_) ?_
  ·refine .next rfl (J3 o s B m (by omega) (by simp)) ?_;refine .next rfl (J3 o s B m (by omega) (by simp[R8,wW])) ?_;refine .next rfl (J3 o s B m (by omega) (by simp[R8,wW])) ?_;exact .nil FO
  ·exact Jn (G8 o s B (.aa rfl))
theorem XR (H:∀x k,ρ'.lookup x=Ab k->∃e,k=.aa e/\(O.lookup x=Ab (.aa e)\/O.lookup x=Ab (.own e)))(c:Tk W A V z N b ρ' d):Tk W A V z N b O d:=.mk λ Z X s Q E S f=>by
 refine c.go Z Z s Q E ⟨S.F.re S.F.bb (λ _ h=>h) (λ a h=>S.F.alive a (S.F.zx a h)) (λ _ _=>rfl) (λ x k w=>?_) (λ x y d e w=>?_),S.le,S.tk,λ a h C=>absurd h C,S.fc⟩ f
 ·obtain⟨e,rfl,q |q⟩:=H x k w
  ·exact⟨_,q,λ v _ r=>Rp.ai S.F.zx r⟩
  ·refine⟨_,q,λ v _ r=>?_⟩;obtain⟨a,rfl,h,C,o⟩:=r;exact o.rp C S.F.zx
 ·obtain⟨_,q,_⟩:=H x _ w
  contradiction
theorem Ox (a b:Nat):a&&& b=2*(a/2&&& b/2)+(a%2)*(b%2):=by
 have h:(a&&& b)%2=(a%2)*(b%2):=by
  have:=Nat.and_mod_two_pow (a:=a) (b:=b) (n:=1);refine this.trans ?_;rcases GL a with e |e<;>rcases GL b with q |q<;>rw[e,q]<;>rfl
 rw[<-Nat.and_div_two,<-h,Nat.div_add_mod]
theorem Qv (n c:Nat):AO (NY n) (c:Int)=(c:Int)-((c&&& n:Nat):Int):=by
 have e:(Gg (NY n)).toNat=n:=by
  show((((n+1:Nat):Int)-1)).toNat=n;simp only[Int.natCast_add,Int.natCast_one,Int.add_sub_cancel];rfl
 rw[<-congrArg (λ z:Nat=>c-((c&&& z:Nat):Int)) e];rfl
theorem aR (h X n r:Int):2*h+r-(2*X+r*n)=2*(h-X)+(1-n)*r:=by grind
theorem kP (n:Nat):NY n%2=1-((n%2:Nat):Int):=by
 show Int.subNatNat 2 (n%2+1)=_;rcases GL n with e |e<;>rw[e]<;>rfl
theorem HA (m:Int)(c:Nat):AO m (c:Int)=2*AO (m/2) ((c/2:Nat):Int)+m%2*((c%2:Nat):Int):=by
 cases m with
 |ofNat n=>
  show(((n&&& c:Nat)):Int)=2*(((n/2&&& c/2:Nat)):Int)+((n%2*(c%2):Nat):Int);rw[Ox n c];rfl
 |negSucc n=>
  rw[Qv,show NY n/2=NY (n/2) from rfl,Qv,Ox c n,kP];refine Eq.trans ?_ (aR _ _ _ _);show c-_=((2*(c/2)+c%2:Nat):Int)-_;rw[Nat.div_add_mod];rfl
theorem NL:∀(k:Nat)(m:Int),AO m ((2^k:Nat):Int)=m/((2^k:Nat):Int)%2*((2^k:Nat):Int):=by
 intro k;induction k with
 |zero=>
  intro m;rw[HA,bitAnd_zero,Int.ediv_one,Int.mul_zero,Int.zero_add]
 |succ k h=>
  intro m;rw[HA,KX,LV _ (Jj),Nat.mul_mod_right,h,Hn,Cj (by decide:(0:Int)<=2),Int.natCast_zero,Int.mul_zero,My];exact KM ..
theorem Th (j:Nat):∀(k:Nat)(m:Int),AO m ((2^k*(2*2^j+1):Nat):Int)=m/((2^k*(2*2^j):Nat):Int)%2*((2^k*(2*2^j):Nat):Int)+m/((2^k:Nat):Int)%2*((2^k:Nat):Int):=by
 intro k;induction k with
 |zero=>
  intro m;simp only[Nat.pow_zero,Nat.one_mul];rw[HA,Nat.mul_add_div Jj,Nat.mul_add_mod,Nat.add_zero,NL j,Hn,Cj (by decide:(0:Int)<=2),Int.ediv_one];congr 1;exact KM ..
 |succ k h=>
  intro m;have e:∀x:Nat,2^(k+1)*x=2*(2^k*x):=λ x=>by rw[KX,KY]
  rw[e,e,HA,LV _ (Jj),Nat.mul_mod_right,h,KX,Hn,Hn,Cj (by decide:(0:Int)<=2),Cj (by decide:(0:Int)<=2),Int.natCast_zero,Int.mul_zero,My,Int.mul_add];congr 1<;>exact KM ..
theorem kU (m:Int)(p:Nat):m%((2*p:Nat):Int)=2*(m/2%(p:Int))+m%2:=by
 simp only[Int.emod_def,Int.emod_def,Int.emod_def,Hn,show((2:Nat):Int)=2 from rfl,((Cj (by decide)).symm:m/(2*p)=m/2/p),Int.mul_sub,IZ];generalize p*(m/2/p)=z;omega
theorem UC (h:0<p):(2*p-1)/2=p-1/\(2*p-1)%2=1:=by
 obtain⟨q,rfl⟩:∃q,p=q+1:=⟨p-1,(Nat.sub_add_cancel h).symm⟩;exact⟨Nat.mul_add_div Jj q 1,Nat.mul_add_mod 2 q 1⟩
theorem UQ:∀(k:Nat)(m:Int),AO m ((2^k-1:Nat):Int)=m%((2^k:Nat):Int):=by
 intro k;induction k with
 |zero=>
  intro m;rw[bitAnd_zero,Int.emod_one]
 |succ k h=>
  intro m;have:=Nat.two_pow_pos k;rw[HA,KX,kU,(UC this).1,(UC this).2,h];rw[Int.mul_one]
theorem Zp (c:Nat):∀(k:Nat)(m:Int),AO m ((2^k*c:Nat):Int)=AO (m/((2^k:Nat):Int)) (c:Int)*((2^k:Nat):Int):=by
 intro k;induction k with
 |zero=>
  intro m;rw[Nat.pow_zero,Nat.one_mul,Int.ediv_one,Int.mul_one]
 |succ k h=>
  intro m;rw[KX,KY,HA,LV _ (Jj),Nat.mul_mod_right,h,Hn,Cj (by decide:(0:Int)<=2),Int.natCast_zero,Int.mul_zero,My];exact KM ..
theorem oL (m:Int):AO m 61440=m/4096%16*4096:=(Zp 15 12 m).trans (congrArg (·*(4096:Int)) (UQ 4 (m/4096)))
theorem hW (m:Int):AO m 4095=m%4096:=UQ 12 m
noncomputable def HK:List (List (Int×Nat)):=[[(40960,108),(49152,115),(32768,45),(24576,98),(16384,100),(8192,99),(4096,112)],[(256,114)],[(128,119)],[(2112,115),(2048,83),(64,120)],[(32,114)],[(16,119)],[(1032,115),(1024,83),(8,120)],[(4,114)],[(2,119)],[(513,116),(512,84),(1,120)]]
noncomputable def vR (p:Int×Nat):PV:=.ba [.int p.1,.str (Ga p.2)]
noncomputable def X6 (r:List (Int×Nat)):PV:=.ba (r.map vR)
theorem fF:Xj=.ba (HK.map X6):=rfl
variable {c:Ai}{r:List Bq} in
noncomputable def ME (q:Int->Bool)(d:Nat):List (Int×Nat)->Nat
 |[]=>d
 |(b,c)::r=>if q b then c else ME q d r
theorem K5 (q:Int->Bool)(d:Nat):ME q d []=d:=rfl
theorem LF (q:Int->Bool)(d:Nat)(b:Int)(c:Nat)(r:List (Int×Nat)):ME q d ((b,c)::r)=if q b then c else ME q d r:=rfl
noncomputable def Lg (m:Int)(i:Nat)(b:Int):Bool:=if i=0 then decide (AO m 61440=b) else decide (AO m b=b)
noncomputable def DK (m:Int)(i:Nat)(r:List (Int×Nat)):Nat:=ME (Lg m i) (if i=0 then 63 else 45) r
variable {i:Nat}{a:List Ai}{r:List Bq} in
noncomputable def Gi (m:Int):Nat->List (List (Int×Nat))->List Nat
 |_,[]=>[]
 |i,r::a=>DK m i r::Gi m (i+1) a
noncomputable def To (l:List Nat):List PV:=l.map λ c=>.str (Ga c)
noncomputable def RB (m:Int)(l:List Nat):A5:=[("mode",.aa (.int m)),("perm",.own (.list (To l)))]
noncomputable def JM (m:Int)(l:List Nat)(i:Nat)(r:List (Int×Nat)):A5:=[("mode",.aa (.int m)),("perm",.own (.list (To l))),("index",.aa (.int (i:Nat))),("table",.aa (X6 r))]
noncomputable def PS (m:Int)(l:List Nat)(i:Nat)(r:List (Int×Nat))(b:Int)(c:Nat):A5:=[("mode",.aa (.int m)),("perm",.own (.list (To l))),("index",.aa (.int (i:Nat))),("table",.aa (X6 r)),("bit",.aa (.int b)),("char",.aa (.str (Ga c)))]
noncomputable def yC:List Str:=["mode","perm"]
noncomputable def vA:List Str:=["mode","perm","index","table"]
noncomputable def Kg:Expr×List Bq:=((LY (BE P1 34) 1).x 0,(LY (BE P1 34) 1).b 0)
noncomputable def YQ:Expr×List Bq×List Bq:=((LY Kg.2 0).x 0,(LY Kg.2 0).b 0,(LY Kg.2 0).b 1)
theorem Sl (l:List Nat)(c:Nat):To l++[.str (Ga c)]=To (l++[c]):=by simp[To]
theorem vJ (E:GW w h C k mg mb)(H:CX k A)(B:Ko w h 140 z N)(j:C.fn "S_IFMT"=Ab RM)(m:Int)(i:Nat)(o:List (Int×Nat))(d:l.length<100):∀r:List (Int×Nat),
 H7 (W1 w h) A (Fa w 140).scope z N YQ.1 YQ.2.1 YQ.2.2 (r.map vR) (JM m l i o) (.next (JM m (l++[ME (Lg m i) (if i=0 then 63 else 45) r]) i o)):=by
 intro r;induction r with
 |nil=>
  have W:(To l).length<BX:=by
   have:5000<=BX:=by decide+kernel
   simp[To];exact Ao d (of_decide_eq_true (_root_.id (Cx Ag)))
  refine .nil ?_
  conv in YQ.2.2=>whnf
  refine DY (Gu E H B (c:=decide (((i:Nat):Int)=0)) (.au (.aa (d:=.int (i:Nat)) rfl) .int rfl (ZG _ _)) ?_);by_cases O:i=0
  ·rw[decide_eq_true (by omega),if_pos rfl];have e:JM m (l++[ME (Lg m i) (if i=0 then 63 else 45) []]) i o=Bs (JM m l i o) "perm" (.own (.list (To l++[.str (Ga 63)]))):=by
    rw[Sl];rw(occs:=.all) [K5];rw[if_pos O];rfl
   rw[e];exact DY (N2 E H B (by kernel_rfl) (by kernel_rfl) (.ag (d:=.str (Ga 63)) (by kernel_rfl)) W)
  ·rw[decide_eq_false (by omega),if_neg (by simp)];have e:JM m (l++[ME (Lg m i) (if i=0 then 63 else 45) []]) i o=Bs (JM m l i o) "perm" (.own (.list (To l++[.str (Ga 45)]))):=by
    rw[Sl];rw(occs:=.all) [K5];rw[if_neg O];rfl
   rw[e];exact DY (N2 E H B (by kernel_rfl) (by kernel_rfl) (.ag (d:=.str (Ga 45)) (by kernel_rfl)) W)
 |cons n r Z=>
  obtain⟨b,c⟩:=n;have W:(To l).length<BX:=by
   have:5000<=BX:=by decide+kernel
   simp[To];exact Ao d (of_decide_eq_true (_root_.id (Cx Ag)))
  have p:=Z;have V:∀{q t f a u:Pos}{Q:Pos},(Q.endLine==f.line)=Ag->FY (W1 w h) A (Fa w 140).scope z N (execs [.Expr (.Call (.Attribute (.Name "perm" q) "append" Q) [.Name "char" t] [] f) a,.Break u] z) (PS m l i o b c) (.brk (JM m (l++[c]) i o)):=λ{_ _ _ _ _ _} v=>by
   have e:JM m (l++[c]) i o=Ei vA (Bs (PS m l i o b c) "perm" (.own (.list (To l++[.str (Ga c)])))):=by rw[Sl];rfl
   rw[e];exact FY.du (Fg (N2 E H B (by rw[v];rfl) rfl (.aa (d:=.str (Ga c)) rfl) W) (DY Nb)) EL
  have no:FY (W1 w h) A (Fa w 140).scope z N (execs [] z) (PS m l i o b c) (.next (JM m l i o)):=by
   have e:JM m l i o=Ei vA (PS m l i o b c):=rfl;rw[e];exact FO.post EL
  have g:∀{x y D:Pos},Dc C (Fa w 140).scope (PS m l i o b c) (.Call (.Name "S_IFMT" x) [.Name "mode" y] [] D) (.int (AO m 61440)):=λ{_ _ _}=>.fn rfl j (.cons (.aa (d:=.int m) rfl) .nil rfl) rfl;by_cases s:Lg m i b=Ag
  ·have e:ME (Lg m i) (if i=0 then 63 else 45) ((b,c)::r)=c:=by rw(occs:=.all) [LF];rw[if_pos s]
   rw[e];refine .brk (ρb:=PS m l i o b c) rfl ?_
   conv in YQ.2.1=>whnf
   refine LC (Gu E H B (c:=decide (((i:Nat):Int)=0)) (.au (.aa (d:=.int (i:Nat)) rfl) .int rfl (ZG _ _)) ?_);unfold Lg at s;by_cases O:i=0
   ·rw[if_pos O] at s;rw[decide_eq_true (by omega),if_pos rfl];refine LC (Gu E H B (c:=Ag) (.au g (.aa (d:=.int b) rfl) rfl ((ZG _ _).trans (congrArg Ab s))) ?_);rw[if_pos rfl];exact V rfl
   ·rw[if_neg O] at s;rw[decide_eq_false (by omega),if_neg (by simp)];refine LC (Gu E H B (c:=Ag) (.au (.am (.aa (d:=.int m) rfl) (.aa (d:=.int b) rfl) (d:=.int (AO m b)) rfl) (.aa (d:=.int b) rfl) rfl ((ZG _ _).trans (congrArg Ab s))) ?_);rw[if_pos rfl];exact V rfl
  ·have e:ME (Lg m i) (if i=0 then 63 else 45) ((b,c)::r)=ME (Lg m i) (if i=0 then 63 else 45) r:=by
    show(if Lg m i b=Ag then c else _)=_;rw[if_neg s]
   rw[e];refine .next (ρb:=PS m l i o b c) rfl ?_ p
   conv in YQ.2.1=>whnf
   refine DY (Gu E H B (c:=decide (((i:Nat):Int)=0)) (.au (.aa (d:=.int (i:Nat)) rfl) .int rfl (ZG _ _)) ?_);have s:Lg m i b=Au:=by simpa using s
   unfold Lg at s;by_cases O:i=0
   ·rw[if_pos O] at s;rw[decide_eq_true (by omega),if_pos rfl];refine DY (Gu E H B (c:=Au) (.au g (.aa (d:=.int b) rfl) rfl ((ZG _ _).trans (congrArg Ab s))) ?_);rw[if_neg (by simp)];exact no
   ·rw[if_neg O] at s;rw[decide_eq_false (by omega),if_neg (by simp)];refine DY (Gu E H B (c:=Au) (.au (.am (.aa (d:=.int m) rfl) (.aa (d:=.int b) rfl) (d:=.int (AO m b)) rfl) (.aa (d:=.int b) rfl) rfl ((ZG _ _).trans (congrArg Ab s))) ?_);rw[if_neg (by simp)];exact no
theorem sF (o:GW w h C k mg mb)(s:CX k A)(B:Ko w h 140 z N)(E:C.fn "S_IFMT"=Ab RM)(m:Int)(i:Nat)(r:List (Int×Nat))(H:l.length<100):
 FY (W1 w h) A (Fa w 140).scope z N (execs Kg.2 z) (JM m l i r) (.next (RB m (l++[DK m i r]))):=by
 have e:RB m (l++[DK m i r])=Ei yC (JM m (l++[DK m i r]) i r):=rfl;rw[e];have:=vJ o s B E m i r H r
 conv in Kg.2=>whnf
 exact DY ((J4 o s B (.ba (.aa rfl) rfl) this).post EL)
theorem YM (l:List Nat):Txt.join "" (l.map Ga)=B5 l:=by
 have k:∀l(a:List Nat),(l.map Ga).foldl (λ h p=>h++("":Str).cps++p.cps) a.toArray=(a++l).toArray:=by
  intro l;induction l with
  |nil=>intro a;simp
  |cons c r o=>
   intro a;show(r.map Ga).foldl _ (a.toArray++("":Str).cps++(Ga c).cps)=_;have e:a.toArray++("":Str).cps++(Ga c).cps=(a++[c]).toArray:=by
    have:("":Str).cps= #[]:=rfl;rw[this];show a.toArray++ #[]++ #[c]=_;simp
   rw[e,o];simp
 cases l with
 |nil=>rfl
 |cons c r=>
  show(⟨(r.map Ga).foldl (λ h p=>h++("":Str).cps++p.cps) (Ga c).cps⟩:Str)=_;have:=k r [c];have e:(Ga c).cps=[c].toArray:=rfl;rw[e,this];rfl
theorem XZ:∀l:List Nat,G7 (To l)=Ab (l.map Ga):=by
 intro l;induction l with
 |nil=>
  exact rfl
 |cons c r h=>
  have k:=h;unfold G7 at k ⊢;rw[HX,k];rfl
theorem dN (x:Str)(h:List PV):Mf .join (.str x) [.list h]=dO x h:=rfl
theorem VN (l:List Nat)(h:l.length<=100):JoinOk "" (l.map Ga)=Ag:=by
 have k:∀(l:List Nat) n,(l.map Ga).foldl (λ a x=>a+x.length+("":Str).length) n=n+l.length:=by
  intro l;induction l with
  |nil=>intro n;rfl
  |cons c r o=>
   intro n;rw[o];have:(Ga c).length=1:=rfl;have s:("":Str).length=0:=rfl;rw[this,s];simp;exact Cg n 1 (BP r)
 unfold JoinOk;rw[List.foldl_toArray,k];have:∀n≤100,tooLong n=Au:=by decide+kernel
 rw[Cs,this _ h];rfl
noncomputable def L? (l:List Nat):Prop:=∀c∈l,c<1114112
theorem kF (h:L? l)(k:l.length<=1000):PB (B5 l)=Ag:=by
 have o:=Kx;unfold PB;rw[AG];refine⟨?_,by rw[C5];exact decide_eq_true (Aa k (of_decide_eq_true (_root_.id (Cx Ag))))⟩;unfold PyData.strOk;rw[HI];intro c hc;have:c∈l:=by simpa[B5] using hc
 simpa using h c this
theorem bK (q:Int->Bool)(d:Nat):∀r:List (Int×Nat),ME q d r=d\/∃p:Int×Nat,p∈r/\ME q d r=p.2:=by
 intro r;induction r with
 |nil=>
  exact .inl rfl
 |cons k r h=>
  obtain⟨b,c⟩:=k;show(if q b=Ag then c else ME q d r)=d\/∃p:Int×Nat,p∈_/\(if q b=Ag then c else ME q d r)=p.2;split
  ·exact .inr ⟨_,Ad,rfl⟩
  ·rcases h with e |⟨p,o,e⟩
   ·exact .inl e
   ·exact .inr ⟨p,Af _ o,e⟩
theorem YU (m:Int):∀(k:List (List (Int×Nat)))(i:Nat),(∀r∈k,∀p∈r,p.2<1000)->∀c∈Gi m i k,c<1000:=by
 intro k;induction k with
 |nil=>
  intro i h c hc;exact nomatch hc
 |cons r k o=>
  intro i h c hc;rcases Al.mp hc with e |e
  ·rw[e];unfold DK;rcases bK (Lg m i) (if i=0 then 63 else 45) r with q |⟨p,s,q⟩
   ·rw[q];split<;>omega
   ·rw[q];exact h r Ad p s
  ·exact o (i+1) (λ r w=>h r (Af _ w)) c e
theorem V1 (m:Int):∀(h:List (List (Int×Nat)))(i:Nat),(Gi m i h).length=h.length:=by
 intro h;induction h with
 |nil=>
  intro _;exact rfl
 |cons r h k=>
  intro i;exact congrArg (·+1) (k (i+1))
noncomputable def Xc:List PV->Option PV:=g1 (tV λ m=>Ab (.str (B5 (Gi m 0 HK))))
theorem vL (O:GW w h C k mg mb)(Q:CX k A)(B:Ko w h 140 z N)(V:C.fn "S_IFMT"=Ab RM)(m:Int)(W:∀l i r,GB (Fa w 140).scope t (.ba [.int (i:Nat),X6 r]) (RB m l)=Ab (JM m l i r)):∀(o:List (List (Int×Nat)))(i:Nat)(l:List Nat),l.length+o.length<=100->
 H7 (W1 w h) A (Fa w 140).scope z N t Kg.2 [] (Uz i (o.map X6)) (RB m l) (.next (RB m (l++Gi m i o))):=by
 intro o;induction o with
 |nil=>
  intro i l s;exact .nil ((DV l).symm▸FO)
 |cons r o E=>
  intro i l s;have H:=E (i+1) (l++[DK m i r]) (by simp at s ⊢;omega);rw[BQ] at H;exact .next (W l i r) (sF O Q B V m i r (by simp at s;omega)) H
theorem sM {b:Bc->Option Ae}(I:GN w h)(T:Top f a b mg mb h)(s:GW w h C k mg mb)(N:C.fn "S_IFMT"=Ab RM)(O:C.gv=rX):Gn (W1 w h) (k+1) 140 Xc:=by
 refine OC (OE I T) λ args d e=>?_;obtain⟨_,rfl,e⟩:=Oi e;obtain⟨m,rfl,e⟩:=Np e
 ·cases e
  refine⟨rfl,λ A Q g z B=>?_⟩;have V:=Kx;have E:mg "enumerate"=Ah/\mb "enumerate"=Ab (.type "enumerate"):=⟨(Eh I T _).trans rfl,PI T (by decide+kernel) rfl⟩;have H:=vL s z B N m (t:=Kg.1) (λ l i r=>rfl) HK 0 [] (by decide);rw[DU] at H
  conv in BE P1 34=>whnf
  refine R9 s z B (d':=.list []) (.list .nil (AY _)) rfl ?_ (by rfl);refine K3 (ρ1:=RB m (Gi m 0 HK)) (fC s z B E rfl (ds:=HK.map X6) (.name ?_) (by rw[Aj];exact Aa (by decide) V) H) ?_
  ·have:Rt C (Fa w 140).scope (Bs ((["mode"]:List Str).zip ([PV.int m].map Ds.aa)) "perm" (.own (.list []))) "_filemode_table"=C.gv "_filemode_table":=rfl;rw[this,O];show Ab Xj=_;rw[fF]
  ·refine XR (ρ':=[("perm",.aa (.list (To (Gi m 0 HK))))]) (λ x W Z=>?_) (Jn (G8 s z B (.bn (.bw (b:=.str "") (mf:=.join) (by kernel_rfl) (by kernel_rfl) (.ag (by kernel_rfl)) (.cons (.aa (d:=.list (To (Gi m 0 HK))) (by kernel_rfl)) .nil rfl) (by simp) ?_))))
   ·have o:(if(x=="perm")=Ag then Ab (Ds.aa (.list (To (Gi m 0 HK)))) else Ah)=Ab W:=by
     rw[<-Z];show _=C9 x [("perm",Ds.aa (.list (To (Gi m 0 HK))))];rw[List.lookup_cons];cases (x==("perm":Str))<;>rfl
    split at o
    ·rename_i q;cases o;have:x="perm":=by simpa using q
     subst this;exact⟨_,rfl,.inr rfl⟩
    ·cases o
   ·have j:(Gi m 0 HK).length=10:=V1 m HK 0;rw[dN,dO];rw[XZ,Option.bind_some,YM,VN _ (Ak (BP (Gi m 0 HK)) 90),kF (λ c hc=>by have:=YU m HK 0 (by decide) c hc;exact Ao this (of_decide_eq_true (_root_.id (Cx Ag)))) (Ak (BP (Gi m 0 HK)) 990)];rfl
theorem yJ (m b:Int):Lg m 0 b=decide (m/4096%16*4096=b):=by unfold Lg;rw[if_pos rfl,oL]
theorem vE (m:Int)(i:Nat)(b:Int)(h:i≠0):Lg m i b=decide (AO m b=b):=by unfold Lg;rw[if_neg h]
theorem lR (m:Int):DK m 0 [(40960,108),(49152,115),(32768,45),(24576,98),(16384,100),(8192,99),(4096,112)]=PY.getD (m/4096%16).toNat 0:=by
 obtain⟨n,k,h⟩:=uB (x:=m/4096%16) (Gb _ (by decide)) (Hs _ (by decide));unfold DK;simp only[LF,K5,yJ,k,if_pos];have:∀n:Nat,n<16->(if decide ((n:Int)*4096=40960)=Ag then 108 else if decide ((n:Int)*4096=49152)=Ag then 115 else if decide ((n:Int)*4096=32768)=Ag then 45 else if decide ((n:Int)*4096=24576)=Ag then 98 else if decide ((n:Int)*4096=16384)=Ag then 100 else if decide ((n:Int)*4096=8192)=Ag then 99 else if decide ((n:Int)*4096=4096)=Ag then 112 else 63)=PY.getD ((n:Int).toNat) 0:=by decide
 exact this n h
theorem N9 (m:Int)(i:Nat)(h:i≠0)(b:Int)(c:Nat)(p:Prop) [Decidable p] (k:AO m b=b↔p):DK m i [(b,c)]=if p then c else 45:=by
 unfold DK;simp only[LF,K5,vE m i b h,if_neg h];by_cases q:p
 ·rw[if_pos q,if_pos (decide_eq_true (k.mpr q))]
 ·rw[if_neg q,if_neg (λ z=>q (k.mp (of_decide_eq_true z)))]
theorem Po (m:Int)(i:Nat)(s:i≠0)(h k o:Int)(w z A:Nat)(D X:Int)(C:D=0\/D=1)(E:X=0\/X=1)(H:AO m h=h↔(D=1/\X=1))(N:AO m k=k↔X=1)(O:AO m o=o↔D=1):
 DK m i [(h,w),(k,z),(o,A)]=[45,A,z,w].getD (D+X*2).toNat 0:=by
 unfold DK;simp only[LF,K5,vE m i _ s,if_neg s];rcases C with rfl |rfl<;>rcases E with rfl |rfl<;>simp[H,N,O]
theorem hF (a:Int):a%2=0\/a%2=1:=Int.emod_two_eq a
theorem tT (a b:Int)(h:b≠0):a%2*b=b↔a%2=1:=by
 rcases hF a with e |e<;>rw[e]
 ·rw[Int.zero_mul];exact⟨λ q=>absurd q.symm h,λ q=>absurd q (by decide)⟩
 ·rw[Int.one_mul];exact⟨λ _=>rfl,λ _=>rfl⟩
theorem vS (a:Int):a/2%2=a%8/2%2/\a/4%2=a%8/4%2:=by
 have e:=Int.emod_add_mul_ediv a 8;generalize a%8=r at e ⊢;generalize a/8=q at e;subst e;have h:r+8*q=r+(2*q)*4:=congrArg (r+·) ((IZ 2 4 q).trans (by rw[Int.mul_comm 4 q,IZ]))
 constructor
 ·rw[(congrArg (r+·) ((IZ 4 2 q).trans (by rw[Int.mul_comm 2 q,IZ])):r+8*q=r+(4*q)*2),Int.add_mul_ediv_right _ _ (by decide),IZ 2 2 q,J1]
 ·rw[h,Int.add_mul_ediv_right _ _ (by decide),J1]
theorem xJ (a b:Int)(h:b≠0):a/4%2*b=b↔4<=a%8:=(tT _ b h).trans (by
 rw[(vS a).2];obtain⟨m,e,k⟩:=uB (n:=8) (Gb _ (by decide)) (Hs _ (by decide));rw[e];exact(by decide:∀m:Nat,m<8->((m:Int)/4%2=1↔4<=(m:Int))) m k)
theorem xK (a b:Int)(h:b≠0):a/2%2*b=b↔a%8/2%2=1:=(tT _ b h).trans (by rw[(vS a).1])
theorem o8 (a:Int):a%8%2=a%2:=Int.emod_emod_of_dvd a (by decide)
theorem xL (a b:Int)(h:b≠0):a%2*b=b↔a%8%2=1:=by rw[o8];exact tT a b h
theorem xH (x y b c:Int)(h:b≠0)(hc:c≠0)(k:b+c≠0):x%2*b+y%2*c=b+c↔(y%8%2=1/\x%2=1):=by
 rw[o8];rcases hF x with e |e<;>rcases hF y with f |f<;>rw[e,f]<;>simp only[Int.zero_mul,Int.one_mul,Int.zero_add,My]<;>skip<;>first |omega |simp
theorem Kl (h:Nat)(m a b c:Int)(k:0<=a)(hc:c=((2^h:Nat):Int))(o:a*b=c):AO m c=m/a/b%2*c:=by
 rw[Cj k,o,hc];exact NL h m
theorem oB (m:Int):AO m 256=256↔4<=C6 m 2:=by
 rw[Kl 8 m 64 4 256 (by decide) rfl rfl];exact xJ (m/64) 256 (by decide)
theorem s4 (m:Int):AO m 32=32↔4<=C6 m 1:=by
 rw[Kl 5 m 8 4 32 (by decide) rfl rfl];exact xJ (m/8) 32 (by decide)
theorem wE (m:Int):AO m 4=4↔4<=C6 m 0:=by
 rw[Kl 2 m 1 4 4 (by decide) rfl rfl];exact xJ (m/1) 4 (by decide)
theorem oC (m:Int):AO m 128=128↔C6 m 2/2%2=1:=by
 rw[Kl 7 m 64 2 128 (by decide) rfl rfl];exact xK (m/64) 128 (by decide)
theorem s5 (m:Int):AO m 16=16↔C6 m 1/2%2=1:=by
 rw[Kl 4 m 8 2 16 (by decide) rfl rfl];exact xK (m/8) 16 (by decide)
theorem wF (m:Int):AO m 2=2↔C6 m 0/2%2=1:=by
 rw[Kl 1 m 1 2 2 (by decide) rfl rfl];exact xK (m/1) 2 (by decide)
theorem sZ (m:Int):AO m 64=64↔C6 m 2%2=1:=by
 rw[NL 6 m];exact xL (m/64) 64 (by decide)
theorem wD (m:Int):AO m 8=8↔C6 m 1%2=1:=by
 rw[NL 3 m];exact xL (m/8) 8 (by decide)
theorem wG (m:Int):AO m 1=1↔C6 m 0%2=1:=by
 rw[NL 0 m];exact xL (m/1) 1 (by decide)
theorem gX (m:Int):AO m 2048=2048↔JO m 2=1:=by
 rw[Kl 11 m 512 4 2048 (by decide) rfl rfl];exact tT (m/512/4) 2048 (by decide)
theorem gZ (m:Int):AO m 1024=1024↔JO m 1=1:=by
 rw[Kl 10 m 512 2 1024 (by decide) rfl rfl];exact tT (m/512/2) 1024 (by decide)
theorem oA (m:Int):AO m 512=512↔JO m 0=1:=by
 rw[Kl 9 m 512 1 512 (by decide) rfl rfl];exact tT (m/512/1) 512 (by decide)
theorem gV (m:Int):AO m 2112=2112↔(C6 m 2%2=1/\JO m 2=1):=by
 rw[show AO m 2112=m/512/4%2*2048+m/64%2*64 by rw[(Cj (by decide))];exact Th 4 6 m];exact xH (m/512/4) (m/64) 2048 64 (by decide) (by decide) (by decide)
theorem gY (m:Int):AO m 1032=1032↔(C6 m 1%2=1/\JO m 1=1):=by
 rw[show AO m 1032=m/512/2%2*1024+m/8%2*8 by rw[(Cj (by decide))];exact Th 6 3 m];exact xH (m/512/2) (m/8) 1024 8 (by decide) (by decide) (by decide)
theorem n9 (m:Int):AO m 513=513↔(C6 m 0%2=1/\JO m 0=1):=by
 rw[show AO m 513=m/512/1%2*512+m/1%2*1 by rw[(Cj (by decide))];exact Th 8 0 m];exact xH (m/512/1) (m/1) 512 1 (by decide) (by decide) (by decide)
theorem YT (m:Int):Gi m 0 HK=Nr m:=by
 have h:∀k,C6 m k%2=0\/C6 m k%2=1:=λ k=>Int.emod_two_eq _;have o:∀k,JO m k=0\/JO m k=1:=λ k=>Int.emod_two_eq _;have e:Gi m 0 HK=[DK m 0 [(40960,108),(49152,115),(32768,45),(24576,98),(16384,100),(8192,99),(4096,112)],DK m 1 [(256,114)],DK m 2 [(128,119)],DK m 3 [(2112,115),(2048,83),(64,120)],DK m 4 [(32,114)],DK m 5 [(16,119)],DK m 6 [(1032,115),(1024,83),(8,120)],DK m 7 [(4,114)],DK m 8 [(2,119)],DK m 9 [(513,116),(512,84),(1,120)]]:=rfl;rw[e,lR,N9 m 1 (by decide) _ _ _ (oB m),N9 m 2 (by decide) _ _ _ (oC m),Po m 3 (by decide) _ _ _ _ _ _ _ _ (h 2) (o 2) (gV m) (gX m) (sZ m),
  N9 m 4 (by decide) _ _ _ (s4 m),N9 m 5 (by decide) _ _ _ (s5 m),Po m 6 (by decide) _ _ _ _ _ _ _ _ (h 1) (o 1) (gY m) (gZ m) (wD m),
  N9 m 7 (by decide) _ _ _ (wE m),N9 m 8 (by decide) _ _ _ (wF m),Po m 9 (by decide) _ _ _ _ _ _ _ _ (h 0) (o 0) (n9 m) (oA m) (wG m)]
 rfl
theorem N1 (h:List PV)(i:Int):ET (.list h) (.int i)=if QV i=Ag then(Gw i h.length).bind (h[·]?) else Ah:=rfl
theorem G6 (o:a.length<=BX)(h:a[i]? =Ab d):ET (.list a) (.int (i:Nat))=Ab d:=by
 have k:=(Cn.mp h).1;have s:QV (i:Int)=Ag:=Xl (Ao k o);have w:Gw (i:Int) a.length=Ab i:=MD k;refine(N1 a i).trans ?_;rw[if_pos s,w];exact h
noncomputable def Gh:List Str:=["a\"b","","z","\"","\"\"","zz"]
noncomputable def qZ:List Nat:=[124,33,120,40,124,33]
noncomputable def Bi (l:List Str):PV:=.list (l.map .str)
structure Tl (mo:List Int)(so:List (List Str)):Prop where
 ma:mo.length=6
 nf:∀p∈mo,p.natAbs<1000000000
 lh:so.length=6
 mu:∀l∈so,l.length<=9
noncomputable def WB (h:List Int)(k:List (List Str)):List PV:=[Bi Gh,.list (h.map .int),.list (k.map Bi)]
noncomputable def tR (p:Nat):Str:=Iq (Iq (Gh.getD p "") p) (p+1)
noncomputable def Pq (h:List Int)(k:List (List Str))(p:Nat):List PV:=.str (tR p)::((k.getD p []).map .str++[.str (B5 (Cb (qZ.getD p 0) (dg (h.getD p 0))))])
noncomputable def Tx (h:List Int)(k:List (List Str)):List PV:=.str "226 all told"::(Ap 6).flatMap (Pq h k)
noncomputable def PR (h:List Int)(k:List (List Str))(o:List PV):A5:=[("names",.aa (Bi Gh)),("modes",.aa (.list (h.map .int))),("spoiled",.aa (.list (k.map Bi))),("talk",.own (.list o))]
noncomputable def x9:List Str:=["names","modes","spoiled","talk"]
noncomputable def oX (i:Nat):List Bq:=(LY (BE P1 37) i).b 0
theorem xY (h:m∈Jf):GC .Mult (.str (Ga m)) (.int 3)=Ab (.str (B5 [m,m,m])):=by
 unfold Jf at h;simp only[Al,BG,or_false] at h;rcases h with rfl |rfl |rfl |rfl<;>kernel_rfl
theorem lB (h:a<6):ET (.str "|!x(|!") (.int (a:Nat))=Ab (.str (Ga (qZ.getD a 0))):=
 NM (P:=λ a=>ET (.str "|!x(|!") (.int (a:Nat))=Ab (.str (Ga (qZ.getD a 0)))) rfl rfl rfl rfl rfl rfl a h
theorem WT (h:a<6):qZ.getD a 0∈Jf:=by
 have:∀a<6,qZ.getD a 0∈Jf:=by decide
 exact this a h
theorem qD (h:p<6):RL [.str (Gh.getD p ""),.int (p:Nat)]=Ab (.str (Iq (Gh.getD p "") p)):=by
 have:∀s<6,LG (Gh.getD s "")=Ag:=by decide+kernel
 show(if LG (Gh.getD p "")=Ag/\0<=(p:Int)/\(p:Int)<7 then Ab (PV.str (Iq (Gh.getD p "") (p:Int).toNat)) else Ah)=_;rw[if_pos ⟨this p h,BD _,BM.mpr (Ao h (by decide))⟩];rfl
theorem qC (h:p<6):RL [.str (Iq (Gh.getD p "") p),.int ((p:Nat)+1)]=Ab (.str (tR p)):=by
 have:∀s<6,LG (Iq (Gh.getD s "") s)=Ag:=by decide+kernel
 show(if LG (Iq (Gh.getD p "") p)=Ag/\0<=(p:Int)+1/\(p:Int)+1<7 then Ab (PV.str (Iq (Iq (Gh.getD p "") p) ((p:Int)+1).toNat)) else Ah)=_;rw[if_pos ⟨this p h,BD (p+1),(BM).mpr (IK h)⟩];rfl
theorem Kf {i:Nat}{a:Type}{l:List a}{d:a}(h:i<l.length):l[i]? =Ab (l.getD i d):=by
 rw[Am,AA h];rfl
theorem getD_mem {i:Nat}{a:Type}{l:List a}{d:a}(h:i<l.length):l.getD i d∈l:=by
 rw[Am,AA h];exact Dg h
open Classical in
noncomputable def JI (a:List PV)(r:PV):List PV->Option PV:=λ args=>if args=a then Ab r else Ah
section
theorem pV (r:GW w h C k mg mb)(u:CX k A)(B:Ko w h 154 z N)(M:C.fn "_law_said"=Ab RL)(O:Tl a b)(S:∀s(p:Nat),GB (Fa w 154).scope t (.int p) (PR a b s)=Ab (Bs (PR a b s) "place" (.aa (.int p)))):∀(V:List Nat)(s:List PV),(∀p∈V,p<6)->s.length+11*V.length<=100->
 H7 (W1 w h) A (Fa w 154).scope z N t (oX 1) [] (V.map λ(i:Nat)=>.int (0+(i:Int)*1)) (PR a b s) (.next (PR a b (s++V.flatMap (Pq a b)))):=by
 intro V;induction V with
 |nil=>
  intro s v e;rw[List.flatMap_nil,DV];exact .nil FO
 |cons p V y=>
  intro s v e;have d:=Kx;have E:=v p Ad;have W:=O.mu _ (getD_mem (d:=[]) (by rw[O.lh];exact E));have Q:(Pq a b p).length<=11:=by
   unfold Pq;rw[Ec,AP,Aj,MU];exact Bt (Bt W)
  have D:=y (s++Pq a b p) (λ q T=>v q (Af _ T)) (by rw[AP,Et];exact Aa (A0 (Aa (B7 Q _) (Az (by rw[Ec,Nat.mul_succ,DQ]))) _) e);rw[BQ] at D;have f:(a.getD p 0).natAbs<1000000000:=O.nf _ (getD_mem (by rw[O.ma];exact E));have U:(0+(p:Int)*1)=(p:Int):=zL _;show H7 _ _ _ _ _ _ _ _ (.int (0+(p:Int)*1)::_) _ _;rw[U];refine .next (S s p) ?_ D;have g:ET (.list (a.map .int)) (.int (p:Nat))=Ab (.int (a.getD p 0)):=G6 (by rw[Aj,O.ma];exact Aa (by decide) d) (by rw[Bk,Kf (d:=0) (by rw[O.ma];exact E)];rfl);have j:ET (.list (b.map Bi)) (.int (p:Nat))=Ab (Bi (b.getD p [])):=G6 (by rw[Aj,O.lh];exact Aa (by decide) d) (by rw[Bk,Kf (d:=[]) (by rw[O.lh];exact E)];rfl);have name:ET (Bi Gh) (.int (p:Nat))=Ab (.str (Gh.getD p "")):=G6 (by rw[Aj];exact Aa (by decide) d) (by rw[Bk,Kf (d:=("":Str)) E];rfl);have R:Pq a b p=.str (tR p)::((b.getD p []).map .str++[.str (B5 (Cb (qZ.getD p 0) (dg (a.getD p 0))))]):=rfl;have Y:=WT E;have G:=lB E;have s1:=qD E;have s2:=qC E
  conv in oX 1=>whnf
  rw[R];clear R D Q;generalize b.getD p []=Z at*;generalize a0:a.getD p 0=o at*;have l:("229 it lies at (":Str)=B5 (FP++[40]):=rfl;have n:(") (|||7|)":Str)=B5 (41::Jo):=rfl;have c:=V8 o (Cu f (by decide));have I:Q0 .str [.int o]=Ab (.str (B5 (dg o))):=by
   show(if o.natAbs<1000000000 then Ab (PV.str (Fn (O0 o))) else Ah)=_;rw[if_pos f,qQ]
  generalize qZ.getD p 0=m at*;generalize Gh.getD p ""=x at*;generalize tR p=H at*;refine Fg (Bw r u B (.sub (.bn (.ag (by kernel_rfl))) (.aa (by kernel_rfl)) (λ _ _=>rfl) G) (by kernel_rfl) (by rfl)) ?_;have a1:GC .Add (.str "229 it lies at (") (.str (B5 [m,m,m]))=Ab (.str (B5 ((FP++[40])++[m,m,m]))):=by
   rw[l,GJ (by rw[C5,C5];exact AM rfl),F4]
  have a2:GC .Add (.str (B5 ((FP++[40])++[m,m,m]))) (.str (B5 (dg o)))=Ab (.str (B5 (((FP++[40])++[m,m,m])++dg o))):=by
   rw[GJ (by rw[C5,C5];exact Aa (A0 c _) (AM rfl)),F4]
  have a3:GC .Add (.str (B5 (((FP++[40])++[m,m,m])++dg o))) (.str (Ga m))=Ab (.str (B5 ((((FP++[40])++[m,m,m])++dg o)++[m]))):=by
   have:Ga m=B5 [m]:=rfl;rw[this,GJ (by rw[C5,C5,AP];exact Aa (B7 (A0 c _) _) (AM rfl)),F4]
  have a4:GC .Add (.str (B5 ((((FP++[40])++[m,m,m])++dg o)++[m]))) (.str ") (|||7|)")=Ab (.str (B5 (Cb m (dg o)))):=by
   rw[n,GJ (by rw[C5,C5,AP,AP];exact Aa (B7 (B7 (A0 c _) _) _) (AM rfl)),F4];have:((((FP++[40])++[m,m,m])++dg o)++[m])++(41::Jo)=Cb m (dg o):=by simp only[Cb,BQ,Ee,DU]
   rw[this]
  have J:(s++[PV.str H]).length+(Z.map PV.str).length<=BX:=by rw[AP,Aj];exact Aa (FL (Bt (Ih e)) W) (Aa (by decide) d)
  have L:((s++[PV.str H])++Z.map PV.str).length<BX:=by rw[AP,AP,Aj];exact Ay (FL (Bt (Ih e)) W) (Ao (by decide) d)
  refine Fg (N2 (xs:=s) (d:=.str H) r u B rfl rfl (.fn rfl M (.cons (.fn rfl M (.cons (.sub (b:=Bi Gh) (.aa rfl) (.aa (d:=.int (p:Nat)) rfl) (λ _ _=>rfl) name) (.cons (.aa (d:=.int (p:Nat)) rfl) .nil rfl) rfl) s1) (.cons (.am (.aa (d:=.int (p:Nat)) rfl) .int (Wp _ _)) .nil rfl) rfl) s2) (Ay (Ih e) (Ao (by decide) d))) ?_;refine Fg (p0 r u B rfl rfl (.sub (.aa rfl) (.aa rfl) (λ _ _=>rfl) j) J) ?_;have e9:PR a b (s++(.str H::(Z.map .str++[.str (B5 (Cb m (dg o)))])))=Ei x9 (Bs (Bs (Bs (Bs (Bs (PR a b s) "place" (.aa (.int p))) "mark" (.aa (.str (Ga m)))) "talk" (.own (.list (s++[.str H])))) "talk" (.own (.list ((s++[.str H])++Z.map .str)))) "talk" (.own (.list (((s++[.str H])++Z.map .str)++[.str (B5 (Cb m (dg o)))])))):=by
   rw[show s++(PV.str H::(Z.map .str++[.str (B5 (Cb m (dg o)))]))=((s++[.str H])++Z.map .str)++[.str (B5 (Cb m (dg o)))] by simp];rfl
  rw[e9];exact DY ((N2 r u B (by kernel_rfl) (by kernel_rfl) (.am (.am (.am (.am (.ag (by kernel_rfl)) (.am (.aa (by kernel_rfl)) .int (xY Y)) a1) (.blt (by kernel_rfl) (by kernel_rfl) (.cons (.sub (.aa (by kernel_rfl)) (.aa (by kernel_rfl)) (λ _ _=>rfl) g) .nil rfl) I) a2) (.aa (by kernel_rfl)) a3) (.ag (by kernel_rfl)) a4) L).post EL)
theorem sI {f:Bc->Option Ae}(I:GN w h)(T:Top g c f mg mb h)(o:GW w h C k mg mb)(z:C.fn "_law_said"=Ab RL)(E:Tl a b):Gn (W1 w h) (k+1) 154 (JI (WB a b) (.list (Tx a b))):=by
 refine OC (Xf I T) λ args d e=>?_;unfold JI at e;split at e
 ·rename_i H;subst H;cases e;refine⟨rfl,λ A N V s B=>?_⟩
  conv in BE P1 37=>whnf
  refine R9 o s B (d':=.list [.str "226 all told"]) (.list (.cons (.ag (by kernel_rfl)) .nil rfl) (by decide+kernel)) (by kernel_rfl) ?_ (by rfl);have O:Bs ((["names","modes","spoiled"]:List Str).zip ((WB a b).map Ds.aa)) "talk" (.own (.list [.str "226 all told"]))=PR a b [.str "226 all told"]:=rfl;rw[O];refine K3 (J4 o s B (.range (ds:=[.int 6]) rfl (.cons .int .nil rfl) rfl) ((λ q=>pV o s B z E (t:=.Name "place" q) (λ W p=>rfl) (Ap 6) [.str "226 all told"] (λ p Q=>As.mp Q) (AM rfl)) _)) ?_;exact Jn (G8 o s B (.own rfl))
 ·cases e
end
theorem T4 (n:Nat):∀h:List Str,lvlL (n+1) (h.map PV.str)=Ag:=by
 intro h;induction h with
 |nil=>
  exact rfl
 |cons s r k=>
  show(SM (n+1) (PV.str s)&&lvlL (n+1) (r.map PV.str))=Ag;rw[k];rfl
theorem V5 (h:List Str):NW (Bi h) (.list [])=Ab h.isEmpty:=by
 cases h with
 |nil=>rfl
 |cons s r=>
  unfold NW;rw[if_pos]
  ·rfl
  ·show(lvlL 5 ((s::r).map PV.str)&&Ag)=Ag;rw[T4 4];rfl
theorem W6 (x:Str)(h:List Str):ZD (.str x) (Bi h)=Ab (h.any λ y=>y==x):=by
 unfold ZD Bi;show(if(SM 6 (.str x)&&lvlL 6 (h.map PV.str))=Ag then Ab ((toPyL (h.map PV.str)).any λ y=>C7 y (Ik (.str x))) else Ah)=_;rw[T4 5,if_pos (by rfl)];congr 1;induction h with
 |nil=>rfl
 |cons s r k=>
  show(C7 (.str s) (.str x)||(toPyL (r.map PV.str)).any λ y=>C7 y (Ik (.str x)))=((s==x)||r.any λ y=>y==x);rw[k];rfl
noncomputable def bH (p:Str×Str):PV:=.ba [.str p.1,.str p.2]
noncomputable def Hb (l:List (Str×Str)):PV:=.list (l.map bH)
noncomputable def ZM (h:List (Str×Str))(left:List Str):List Str:=(h.filter λ p=>left.any (·==p.1)).map (·.2)
noncomputable def OA (h:List (Str×Str))(left:List Str):List Str:=(left.filter λ n=>!(ZM h left).any (·==n)).take 2
noncomputable def WY (h:List (Str×Str))(left:List Str):List Str:=left.filter λ n=>!(OA h left).any (·==n)
noncomputable def Ks (h:List (Str×Str))(p:List PV×List Str):List PV×List Str:=(if(OA h p.2).isEmpty then p.1 else p.1++[Bi (OA h p.2)],WY h p.2)
noncomputable def Rc (p:List PV×List Str):PV:=.ba [.list p.1,Bi p.2]
theorem Pu:∀h:List Str,G7 (h.map .str)=Ab h:=by
 intro h;induction h with
 |nil=>rfl
 |cons s r k=>
  unfold G7 at k ⊢;rw[Bu,HX,k];rfl
open Classical in
noncomputable def RN (k:List (Str×Str))(args:List PV):Option PV:=if h:∃p:List PV×List Str,args=[Rc p,Hb k]/\p.1.length<=100/\p.2.length<=100 then Ab (Rc (Ks k h.choose)) else Ah
theorem jK (o:Rc p=Rc q):p=q:=by
 have h:=HZ (PV.ba.inj o);have k:=congrArg G7 (PV.list.inj (HZ h.2).1);rw[Pu,Pu] at k;exact Prod.ext (PV.list.inj h.1) (AN k)
theorem mG {p:List PV×List Str}(k:p.1.length<=100)(o:p.2.length<=100):RN nx [Rc p,Hb nx]=Ab (Rc (Ks nx p)):=by
 have h:∃q:List PV×List Str,[Rc p,Hb nx]=[Rc q,Hb nx]/\q.1.length<=100/\q.2.length<=100:=⟨p,rfl,k,o⟩;exact(dif_pos h).trans (congrArg (λ q=>Ab (Rc (Ks nx q))) (jK (HZ h.choose_spec.1).1).symm)
theorem eM (e:RN a args=Ab d):∃p:List PV×List Str,args=[Rc p,Hb a]/\p.1.length<=100/\p.2.length<=100/\d=Rc (Ks a p):=by
 unfold RN at e;split at e
 ·rename_i h;have s:=h.choose_spec;exact⟨_,s.1,s.2.1,s.2.2,(AN e).symm⟩
 ·contradiction
theorem PE (x:Str)(h:List Str):I6 .NotIn (.str x) (Bi h)=Ab (!h.any λ y=>y==x):=by
 show(ZD (.str x) (Bi h)).map (!·)=_
 rw[W6];rfl
section
theorem sL {c:Bc->Option Ae}{a:List (Str×Str)}(I:GN w h)(T:Top f b c mg mb h)(N:GW w h C k mg mb)(j:a.length<=100):Gn (W1 w h) (k+1) 178 (RN a):=by
 refine OC (Xi I T) λ args d e=>?_;obtain⟨⟨V,left⟩,rfl,W,z,rfl⟩:=eM e;refine⟨rfl,λ A l v O B=>?_⟩;have g:=Kx;have Q:100<=BX:=Aa (by decide) g;have W:=W;have z:=z;obtain⟨s,E⟩:∃s,s=ZM a left:=⟨_,rfl⟩;obtain⟨o,H⟩:∃o,o=OA a left:=⟨_,rfl⟩;have m:Rc (Ks a (V,left))=.ba [.list (if o.isEmpty then V else V++[Bi o]),.list ((left.filter λ n=>!o.any (·==n)).map PV.str)]:=by rw[H];rfl
 have r:Bi s=.list ((a.filter λ p=>left.any (·==p.1)).map λ p=>PV.str p.2):=by rw[E];exact congrArg PV.list Bd
 have t:Bi o=.list (((left.filter λ n=>!s.any (·==n)).map PV.str).take 2):=by rw[H,E,<-Hg];rfl
 have Z:I6 .NotEq (Bi o) (.list [])=Ab (!o.isEmpty):=by
  show(NW _ _).map (!·)=_
  rw[V5];rfl
 have u:∀(y:Str)(i:List Str),((left.filter λ n=>!i.any (·==n)).map PV.str).length<=BX:=λ _ i=>by rw[Aj];exact Aa (AW ..) (Aa z Q)
 rw[m]
 conv in BE P1 41=>whnf
 refine K3 (Pw N O B (.aa rfl) rfl rfl rfl rfl) ?_;refine K3 (DS N O B (d:=Bi s) (by
  rw[r];exact .T (l:=a) (g:=bH) (λ p=>left.any (·==p.1)) (λ p=>PV.str p.2) (.list (.aa rfl) rfl) rfl rfl (λ p _=>⟨[("b",.aa (.str p.2)),("a",.aa (.str p.1)),("left",.aa (Bi left))],rfl,.bq (.cq (.aa rfl) (.aa rfl) rfl (.inl rfl) (W6 p.1 left)),λ _=>.aa rfl⟩) (Aa j Q)) rfl) ?_
 refine K3 (Bw N O B (x:="free") (d:=Bi o) (by
  rw[t];exact .slice (l:=Ah) (u:=Ab 2) (t:=Ah) (.bn (ED.ev<| .T (l:=left) (λ n=>!s.any (·==n)) PV.str (.list (.aa rfl) rfl) rfl rfl (λ n _=>⟨[("name",.aa (.str n)),("waiting",.aa (Bi s))],rfl,.bq (.cq (.aa rfl) (.aa rfl) rfl (.inr rfl) (PE n s)),λ _=>.aa rfl⟩) (Aa z Q))) .no (.int .int) .no (N4 _ 2 (u default s))) rfl (by rfl)) ?_
 refine Jn (G8 N O B (.bn (.ba (.cons (.ja (.au (.aa rfl) (.list .nil (AY _)) rfl Z) ?_) (.cons (ED.ev (.T (l:=left) (λ n=>!o.any (·==n)) PV.str (.list (.aa rfl) rfl) rfl rfl (λ n _=>⟨[("name",.aa (.str n)),("free",.aa (Bi o))],rfl,.bq (.cq (.aa rfl) (.aa rfl) rfl (.inr rfl) (PE n o)),λ _=>.aa rfl⟩) (Aa z Q))) .nil rfl) rfl) (Ak _ _))))
 cases q:o.isEmpty with
 |true=>exact .aa rfl
 |false=>exact .am (.aa rfl) (.list (.cons (.aa rfl) .nil rfl) (Ak _ _)) ((if_pos (Aa (Bt W) (Aa (by decide) g))).trans rfl)
end
noncomputable def D4 (l:List Int):PV:=.list (l.map .int)
noncomputable def Bh (l:List Nat):PV:=.list (l.map λ n=>.int (n:Nat))
noncomputable def o7 (p:Nat×Nat):PV:=.ba [.int p.1,.int p.2]
noncomputable def Iy (l:List (Nat×Nat)):PV:=.list (l.map o7)
theorem qM (h:Nat):((2:Int)^h)=((2^h:Nat):Int):=by push_cast;rfl
theorem oE (c h:Nat):((c:Int).fdiv (2^h)).fmod 2=((c/2^h%2:Nat):Int):=by
 rw[qM,Oj (BD _),MM (BW (2+0))];rfl
theorem TL (h:Nat)(k:h<12):GC .Pow (.int 2) (.int (h:Nat))=Ab (.int ((2^h:Nat):Int)):=by
 rw[qL ⟨BW (h+0),ER.mpr (Aa (AX k) (by decide)),AM rfl⟩,show(h:Int).toNat=h from rfl,qM]
theorem Hc (e:a=Ei ks ρ1)(h:FY W A V z N t O (.next ρ1)):FY W A V z N t O (.next a):=e▸h.post EL
theorem Ka (l:List Int):Hw (l.map PV.int)=Ab l:=by
 unfold Hw;rw[Ym (g:=λ d=>match d with | .int i=>i |_=>0) λ x h=>?_,Bd]
 ·congr 1;exact List.map_id l
 ·obtain⟨i,_,rfl⟩:=AF.mp h;rfl
theorem oK (a b:Nat):GC .BitAnd (.int (a:Nat)) (.int (b:Nat))=Ab (.int ((a&&& b:Nat):Int)):=by
 show Ab (PV.int (AO a b))=_;rw[bitAnd_pp (BW (a+0)) (BW (b+0))];rfl
theorem Sw (a b:Nat):GC .BitOr (.int (a:Nat)) (.int (b:Nat))=Ab (.int ((a|||b:Nat):Int)):=by
 show Ab (PV.int (Gg (AO (Gg a) (Gg b))))=_;have h:∀a:Nat,¬0<=Gg a:=λ a=>Mx.mpr (Int.sub_one_lt_of_le (Int.neg_nonpos_of_nonneg (BD a)));rw[bitAnd_nn (h _) (h _)];have e:∀x:Int,Gg (Gg x)=x:=λ x=>by show -(-x-1)-1=x;rw[Int.neg_sub,Int.sub_neg,Int.add_comm,Int.add_sub_cancel]
 rw[e,e,e];rfl
theorem u0 (a b:Int):Q0 .min [.int a,.int b]=Ab (.int (if b<a then b else a)):=rfl
noncomputable def Dv (h:List (Nat×Nat))(k:Nat):Nat:=((h.filter λ p=>p.2==k).map λ p=>2^p.1).sum
noncomputable def FQ (h:List (Nat×Nat)):List Nat:=(Ap 6).map (Dv h)
noncomputable def Ub (h:List (Nat×Nat))(t:List Nat):A5:=[("pairs",.aa (Iy h)),("needs",.aa (Bh (FQ h))),("fewest",.own (Bh t))]
noncomputable def RC (h:List (Nat×Nat))(t:List Nat)(d:Nat)(k:List Nat):A5:=[("pairs",.aa (Iy h)),("needs",.aa (Bh (FQ h))),("fewest",.own (Bh t)),("done",.aa (.int (d:Nat))),("free",.aa (Bh k))]
noncomputable def Mi (h:List (Nat×Nat))(t:List Nat)(d:Nat)(k:List Nat)(i:Nat):A5:=[("pairs",.aa (Iy h)),("needs",.aa (Bh (FQ h))),("fewest",.own (Bh t)),("done",.aa (.int (d:Nat))),("free",.aa (Bh k)),("place",.aa (.int (i:Nat)))]
noncomputable def A? :List Str:=["pairs","needs","fewest"]
noncomputable def yD:List Str:=["pairs","needs","fewest","done","free"]
noncomputable def yB:List Str:=["pairs","needs","fewest","done","free","place"]
noncomputable def Xd:List Bq:=(LY (BE P1 42) 2).b 0
noncomputable def yQ:List Bq:=(LY Xd 0).b 0
noncomputable def r9:List Bq:=(LY yQ 1).b 0
noncomputable def sA:List Bq:=(LY r9 0).b 0
noncomputable def qK (h:List Nat)(d:Nat)(k:Nat):Bool:=d/2^k%2==0&&(d&&& h.getD k 0)==h.getD k 0
theorem Ye (h:List (Nat×Nat))(hk:k<6):(FQ h).getD k 0=Dv h k:=by
 unfold FQ;simp[Am,hk]
theorem sC (h:List (Nat×Nat))(d:Nat):Eu (Dv h) d=((Ap 6).filter (qK (FQ h) d)).map (2^·):=by
 have:∀k∈Ap 6,(d/2^k%2==0&&(d&&& Dv h k)==Dv h k)=qK (FQ h) d k:=λ k hk=>by
  unfold qK;rw[Ye h (As.mp hk)]
 unfold Eu;exact congrArg _ (Cr this)
section
theorem Sf {l:List Nat}(h:l.length<=1000)(k:i<l.length):ET (Bh l) (.int (i:Nat))=Ab (.int ((l.getD i 0:Nat):Int)):=by
 have o:=Kx;exact G6 (by rw[Aj];exact Aa h (of_decide_eq_true (_root_.id (Cx Ag)))) (by rw[Bk,Kf (d:=0) k];rfl)
theorem jA {i:Nat}(Q:GW w h C k mg mb)(V:CX k A)(B:Ko w h 183 z N){t:List Nat}(E:t.length=64)(W:a.length<=6)(Z:i<a.length)(f:d<64)(g:d|||a.getD i 0|||c<64):
 FY (W1 w h) A (Fa w 183).scope z N (execs sA z) (Bs (Mi b t d a i) "other" (.aa (.int (c:Nat)))) (.next (Mi b (EU d (d|||a.getD i 0|||c) t) d a i)):=by
 obtain⟨n,H⟩:∃n,n=d|||a.getD i 0|||c:=⟨_,rfl⟩
 have o:t.length<=1000:=Aa (Az E) (by decide);have s:n<t.length:=Ao (H▸g) (Az E.symm);have j:=Sf (l:=t) (i:=d) o (Ao f (Az E.symm))
 conv in sA=>whnf
 refine Fg (Bw Q V B (x:="new") (d:=.int (n:Nat)) (.am (.am (.aa (d:=.int (d:Nat)) rfl) (.sub (b:=Bh a) (.aa rfl) (.aa (d:=.int (i:Nat)) rfl) (λ _ _=>rfl) (Sf (l:=a) (i:=i) (Aa W (of_decide_eq_true (_root_.id (Cx Ag)))) Z)) (Sw _ _)) (.aa rfl) (by rw[H];exact Sw _ _)) rfl (by rfl)) ?_;rw[<-H];have em:Q0 .min [.int ((t.getD n 0:Nat):Int),.int ((t.getD d 0:Nat)+1)]=Ab (.int ((min (t.getD n 0) (t.getD d 0+1):Nat):Int)):=by
  have e:(if((t.getD d 0:Nat):Int)+1<((t.getD n 0:Nat):Int) then((t.getD d 0:Nat):Int)+1 else((t.getD n 0:Nat):Int))=((min (t.getD n 0) (t.getD d 0+1):Nat):Int):=by
   split
   ·rename_i h;rw[GV (AX ((BM).mp h))];rfl
   ·rename_i h;rw[Dz (By λ q=>h ((BM).mpr q))]
  rw[u0,e]
 have st:qB (Bh t) (.int n) (.int ((min (t.getD n 0) (t.getD d 0+1):Nat):Int))=Ab (Bh (EU d n t)):=by
  show(if 0<=(n:Int)/\(n:Int)<(t.map λ n=>PV.int (n:Nat)).length then Ab (PV.list ((t.map λ n=>PV.int (n:Nat)).set (n:Int).toNat _)) else Ah)=_;rw[if_pos ⟨BW (n+0),by rw[Aj];exact BM.mpr s⟩];unfold Bh EU;rw[List.map_set];rfl
 have l:∀O,Mi b O d a i=Ei yB (Bs (Bs (Bs (Mi b t d a i) "other" (.aa (.int c))) "new" (.aa (.int n))) "fewest" (.own (Bh O))):=λ O=>rfl;exact Hc (l _) (DY (WF Q V B rfl (.blt rfl rfl (.cons (.sub (.own rfl) (.aa rfl) (λ _ _=>rfl) (Sf o s)) (.cons (.am (.sub (.own rfl) (.aa rfl) (λ _ _=>rfl) j) .int rfl) .nil rfl) rfl) em) (.aa rfl) st (by rfl)))
theorem lH {i:Nat}(O:GW w h C k mg mb)(Q:CX k A)(B:Ko w h 183 z N)(V:a.length<=6)(W:i<a.length)(Z:d<64)(s:∀t x,GB (Fa w 183).scope tg x (Mi prs t d a i)=Ab (Bs (Mi prs t d a i) "other" (.aa x))):∀(l t:List Nat),t.length=64->(∀o∈l,d|||a.getD i 0|||o<64)->
 H7 (W1 w h) A (Fa w 183).scope z N tg sA [] (l.map λ n=>PV.int (n:Nat)) (Mi prs t d a i) (.next (Mi prs (l.foldl (λ t o=>EU d (d|||a.getD i 0|||o) t) t) d a i)):=by
 intro l;induction l with
 |nil=>exact λ _ _ _=>.nil FO
 |cons o l b=>exact λ t E H=>.next (s t _) (jA O Q B E V W Z (H o Ad)) (b _ (O4.trans E) λ x c=>H x (Af _ c))
theorem TJ:∀(l t:List Nat),(l.foldl (λ t o=>EU d (d|||v|||o) t) t).length=t.length:=by
 intro l;induction l with
 |nil=>exact λ _=>rfl
 |cons o l h=>exact λ t=>(h _).trans O4
theorem lG {a:List Nat}(H:GW w h C k mg mb)(O:CX k A)(B:Ko w h 183 z N)(Q:a.length<=6)(V:d<64)(s:∀v∈a,v<64)(E:∀t x,GB (Fa w 183).scope c x (RC b t d a)=Ab (Bs (RC b t d a) "place" (.aa x))):∀(l t:List Nat),t.length=64->(∀i∈l,i<a.length)->
 H7 (W1 w h) A (Fa w 183).scope z N c r9 [] (l.map λ n=>PV.int (n:Nat)) (RC b t d a) (.next (RC b (l.foldl (λ t i=>(a.drop i).foldl (λ t o=>EU d (d|||a.getD i 0|||o) t) t) t) d a)):=by
 intro l;induction l with
 |nil=>exact λ _ _ _=>.nil FO
 |cons i l f=>
  intro t W Z;have e:=Z i Ad;refine .next (E t _) ?_ (f _ ((TJ ..).trans W) λ x g=>Z x (Af _ g))
  conv in r9=>whnf
  rw[(rfl:Bs (RC b t d a) "place" (.aa (.int (i:Nat)))=Mi b t d a i)];refine Hc (ks:=yD) (ρ1:=Mi b ((a.drop i).foldl (λ t o=>EU d (d|||a.getD i 0|||o) t) t) d a i) rfl (DY (J4 H O B (.list (.slice (b:=Bh a) (l:=Ab (i:Int)) (u:=Ah) (t:=Ah) (.aa rfl) (.int (.aa rfl)) .no .no (Oq _ i (by rw[Aj];exact Aa Q (of_decide_eq_true (_root_.id (Cx Ag)))))) rfl) ?_));rw[<-List.map_drop];exact(λ q=>lH (prs:=b) H O B Q e V (tg:=.Name "other" q) (λ t x=>rfl) (a.drop i) t W (λ o j=>Gj (n:=6) (Gj (n:=6) V (s _ (getD_mem e))) (s o (NP j)))) _
end
section
theorem nH (a b:Nat):I6 .Eq (.int (a:Nat)) (.int (b:Nat))=Ab (a==b):=
 (ZG _ _).trans (congrArg Ab (BH.mpr (decide_eq_true_iff.trans (KZ.trans beq_iff_eq.symm))))
theorem nK (d i:Nat)(h:i<12):GC .FloorDiv (.int (d:Nat)) (.int ((2^i:Nat):Int))=Ab (.int ((d:Int).fdiv (2^i))):=by
 have:=(by decide:∀i<12,0<2^i/\2^i<=4096) i h;exact(QX ⟨λ q=>Dy this.1 (Int.ofNat_eq_zero.mp q),(Ay this.2 (by decide):2^i<1073741824)⟩).trans (by rw[qM])
theorem Tb (k:Dc C V O b (.int (d:Nat)))(o:Dc C V O c (.int (i:Nat)))(h:i<12):
 Dc C V O (.BinOp (.BinOp b .FloorDiv (.BinOp (.Constant (.int 2) e f) .Pow c g) j) .Mod (.Constant (.int 2) a l) m) (.int ((d/2^i%2:Nat):Int)):=by
 refine .am (.am k (.am .int o (TL i h)) (nK d i h)) .int ?_;rw[<-oE];exact SH (by decide)
theorem jB (H:GW w h C k mg mb)(O:CX k A)(B:Ko w h 183 z N){t:List Nat}(V:t.length=64)(Z:d<64):
 FY (W1 w h) A (Fa w 183).scope z N (execs Xd z) (Bs (Ub a t) "done" (.aa (.int (d:Nat)))) (.next (Ub a (GI (Dv a) t d))):=by
 have g:=Kx
 conv in Xd=>whnf
 refine DY (Gu H O B (.au (.sub (.own rfl) (.aa rfl) (λ _ _=>rfl) (Sf (Aa (Az V) (by decide)) (Ao Z (Az V.symm)))) .int rfl (cG _ _)) ?_);unfold GI;by_cases Q:t.getD d 0<7
 ·rw[decide_eq_true (BM.mpr Q),if_pos rfl,if_pos Q];have E:(Eu (Dv a) d).length<=6:=by
   rw[Aj];exact Aa (AW _ _) (An _)
  have W:∀v∈Eu (Dv a) d,v<64:=λ v f=>by
   obtain⟨i,o,rfl⟩:=AF.mp f;have:=As.mp (Aw.mp o).1;exact I1 (An _) this
  have s:(Bh (Eu (Dv a) d))=.list (((Ap 6).filter (qK (FQ a) d)).map λ i=>PV.int ((2^i:Nat):Int)):=by
   rw[sC];unfold Bh;rw[Bd];rfl
  refine Fg (DS H O B (d:=Bh (Eu (Dv a) d)) (by
   rw[s];refine .T _ _ (.bf rfl .int rfl (Ak _ _)) rfl rfl (λ i o=>?_) (Ak _ _);have o:=As.mp o;have b:=Sf (l:=FQ a) (by simp[FQ]) o;refine⟨[("k",.aa (.int i)),("needs",.aa (Bh (FQ a))),("done",.aa (.int d))],rfl,.bq ?_,λ _=>.am .int (.aa rfl) (TL i (Ao o (of_decide_eq_true (_root_.id (Cx Ag)))))⟩;have e:qK (FQ a) d i=((d/2^i%2==0)&&(((d&&& (FQ a).getD i 0)==(FQ a).getD i 0)&&Ag)):=by unfold qK;rw[ES]
   rw[e];exact .all (.bu (.au (Tb (.aa rfl) (.aa rfl) (Ao o (of_decide_eq_true (_root_.id (Cx Ag))))) .int rfl (nH _ _)) λ _=>.bu (.au (.am (.aa rfl) (.sub (.aa rfl) (.aa rfl) (λ _ _=>rfl) b) (oK _ _)) (.sub (.aa rfl) (.aa rfl) (λ _ _=>rfl) b) rfl (nH _ _)) λ _=>.nil)) rfl) ?_
  rw[(rfl:Bs (Bs (Ub a t) "done" (.aa (.int d))) "free" (.aa (Bh (Eu (Dv a) d)))=RC a t d (Eu (Dv a) d))];generalize Eu (Dv a) d=c at*;refine Hc (ks:=A?) rfl (DY (J4 H O B (.bf rfl (.blt rfl rfl (.cons (.aa rfl) .nil rfl) (by show Ab (PV.int ((c.map λ n=>PV.int (n:Nat)).length:Nat))=_;rw[Aj])) rfl (Ay E (by decide))) ((λ q=>lG H O B E Z W (λ t x=>rfl) (Ap c.length) t V (λ i o=>As.mp o)) _)))
 ·rw[decide_eq_false λ q=>Q (BM.mp q),if_neg Bv,if_neg Q];exact Hc (ks:=A?) rfl FO
theorem YV {t:List Nat}:(Qh d a t).length=t.length:=by
 unfold Qh;exact Hx (P:=λ x:List Nat=>x.length=t.length) _ _ rfl λ x i _ h=>(TJ ..).trans h
theorem TA {a:Nat->Nat}{t:List Nat}:(GI a t d).length=t.length:=by
 unfold GI;split
 ·exact YV
 ·rfl
theorem lI (O:GW w h C k mg mb)(Q:CX k A)(B:Ko w h 183 z N)(o:∀t x,GB (Fa w 183).scope tg x (Ub prs t)=Ab (Bs (Ub prs t) "done" (.aa x))):∀(l t:List Nat),t.length=64->(∀i∈l,i<64)->
 H7 (W1 w h) A (Fa w 183).scope z N tg Xd [] (l.map λ n=>PV.int (n:Nat)) (Ub prs t) (.next (Ub prs (l.foldl (GI (Dv prs)) t))):=by
 intro l;induction l with
 |nil=>
  intro t s E;exact .nil FO
 |cons i l H=>
  intro t s E;exact .next (o t _) (jB O Q B s (E i Ad)) (H _ (TA.trans s) λ x V=>E x (Af _ V))
noncomputable def sB:Bq:=(BE P1 42).getD 0 (.Pass default)
theorem ZU:∀l:List (Nat×Nat),((l.map λ p=>((2^p.1:Nat):Int)).sum)=(((l.map λ p=>2^p.1).sum:Nat):Int):=by
 intro l;induction l with
 |nil=>
  exact rfl
 |cons a l h=>
  simp only[Bu,Bu,IL,IL,h];push_cast;rfl
theorem uC (h:List (Nat×Nat))(i:Nat):Q0 .sum [.list ((h.filter λ p=>p.2==i).map λ p=>PV.int ((2^p.1:Nat):Int))]=Ab (.int ((Dv h i:Nat):Int)):=by
 have em:(h.filter λ p=>p.2==i).map (λ p=>PV.int ((2^p.1:Nat):Int))=((h.filter λ p=>p.2==i).map λ p=>((2^p.1:Nat):Int)).map PV.int:=by rw[Bd];rfl
 rw[em];show(Hw _).map _=_;rw[Ka];show Ab (PV.int _)=_;rw[ZU];rfl
theorem bW {a:List (Nat×Nat)}(E:GW w h C k mg mb)(H:CX k A)(B:Ko w h 183 z N)(O:a.length<=100)(Q:∀p∈a,p.1<6/\p.2<6):FY (W1 w h) A (Fa w 183).scope z N (exec sB z) [("pairs",.aa (Iy a))] (.next (Bs [("pairs",.aa (Iy a))] "needs" (.aa (Bh (FQ a))))):=by
 have V:=Kx;have W:Bh (FQ a)=.list ((Ap 6).map λ k=>.int (Dv a k:Int)):=by delta Bh FQ;exact congrArg _ (Bd)
 rw[W]
 conv in sB=>whnf
 refine DS E H B (.M _ (.bf rfl .int rfl (Ak _ _)) rfl rfl (λ i s=>?_) (Aa (AM rfl) V)) rfl;have s:=As.mp s;refine⟨[("k",.aa (.int i)),("pairs",.aa (Iy a))],rfl,?_⟩;refine .blt rfl rfl (.cons ?_ .nil rfl) (uC a i);refine ED.ev<| .T (λ p=>p.2==i) (λ p=>PV.int ((2^p.1:Nat):Int)) (.list (.aa rfl) rfl) rfl rfl (λ p o=>?_) (Aa O (of_decide_eq_true (_root_.id (Cx Ag))));obtain⟨Z,b⟩:=Q p o;exact⟨[("b",.aa (.int (p.2:Nat))),("a",.aa (.int (p.1:Nat))),("k",.aa (.int i))],rfl,.bq (.au (.aa rfl) (.aa rfl) rfl (nH _ _)),λ _=>.am .int (.aa rfl) (TL p.1 (Ao Z (of_decide_eq_true (_root_.id (Cx Ag)))))⟩
theorem fN {c:Bc->Option Ae}{a:List (Nat×Nat)}(I:GN w h)(T:Top f b c mg mb h)(o:GW w h C k mg mb)(E:a.length<=100)(H:∀p∈a,p.1<6/\p.2<6):Gn (W1 w h) (k+1) 183 (JI [Iy a] (.int (((Gc (Dv a) 64).getD 63 0:Nat):Int))):=by
 refine OC (RP I T) λ args d e=>?_;unfold JI at e;split at e
 ·rename_i N;subst N;cases e;refine⟨rfl,λ A O l s B=>?_⟩;have Q:=λ q=>lI (prs:=a) o s B (tg:=.Name "done" q) (λ t x=>by kernel_rfl) (Ap 64) (0::Bg 63 7) (by rw[Ec,MV]) (λ i V=>As.mp V);have z:(Gc (Dv a) 64).length=64:=Hx (P:=λ x:List Nat=>x.length=64) _ _ (by rw[Ec,MV]) λ x i _ W=>TA.trans W;have Z:(Ap 64).foldl (GI (Dv a)) (0::Bg 63 7)=Gc (Dv a) 64:=rfl;have g:=Sf (l:=Gc (Dv a) 64) (i:=63) (Aa (Az z) (by decide)) (Ao (by decide) (Az z.symm));clear Z;generalize Gc (Dv a) 64=j at*;rw[(by kernel_rfl:BE P1 42=sB::(BE P1 42).drop 1)];refine K3 (bW o s B E H) ?_
  conv in BE P1 42=>whnf
  refine R9 o s B (d':=Bh (0::Bg 63 7)) (.am (.list (.cons .int .nil rfl) (by decide+kernel)) (.am (d:=.list (Bg 63 (.int 7))) (.list (.cons .int .nil rfl) (by decide+kernel)) .int (by kernel_rfl)) (by kernel_rfl)) (by kernel_rfl) ?_ (by rfl);rw[(by kernel_rfl:Bs (Bs [("pairs",Ds.aa (Iy a))] "needs" (.aa (Bh (FQ a)))) "fewest" (.own (Bh (0::Bg 63 7)))=Ub a (0::Bg 63 7))];generalize (0::Bg 63 7:List Nat)=t0 at*;refine K3 (J4 o s B (.bf (by kernel_rfl) .int rfl (Ak _ _)) (Q _)) ?_;exact Jn (G8 o s B (.bn (.sub (.own (by kernel_rfl)) .int (λ _ _=>rfl) g)))
 ·contradiction
end
structure Zr where
 mo:List Int
 so:List (List Str)
 nx:List (Str×Str)
 prs:List (Nat×Nat)
variable {tk:Nat}{p6:Pos}{nl:List (Nat×Nat)} in
structure pO (D:Zr):Prop where
 tk:Tl D.mo D.so
 nl:D.nx.length<=100
 pl:D.prs.length<=100
 p6:∀p∈D.prs,p.1<6/\p.2<6
noncomputable def C0:GE:=⟨λ _=>Ah,rX,λ _=>Ah⟩
noncomputable def C1:GE:=⟨λ x=>if x="S_IFMT" then Ab RM else if x="_law_said" then Ab RL else Ah,rX,λ _=>Ah⟩
noncomputable def YP (D:Zr)(x:Str):Option (List PV->Option PV):=
 if x="parse257" then Ab QT else if x="parse229" then Ab Xb else if x="S_IMODE" then Ab SX else if x="filemode" then Ab Xc else if x="_law_talk" then Ab (JI (WB D.mo D.so) (.list (Tx D.mo D.so)))
 else if x="_law_listing" then Ab P9 else if x="_law_hour" then Ab (RN D.nx) else if x="_law_fewest" then Ab (JI [Iy D.prs] (.int (((Gc (Dv D.prs) 64).getD 63 0:Nat):Int))) else Ah
noncomputable def CL (D:Zr):GE:=⟨YP D,rX,λ _=>Ah⟩
noncomputable def FA (h:World)(k:AS)(o:Str->Option Ae)(s:Nat)(x:Str)(g:List PV->Option PV):Prop:=tL (W1 h k) s o x g
theorem Lk (s:Gm (W1 w h) a fd d b)(z:mg x=Ab (.ref a)){g:List PV->Option PV}(c:Gn (W1 w h) k a g):FA w h mg k x g:=by
 obtain⟨o,A,C,E,H⟩:=s.obj;exact⟨a,o,fd,z,A,C,E,H,c⟩
theorem Ld {f g:List PV->Option PV}{r:Option (List PV->Option PV)}(e:(if x=y then Ab f else r)=Ab g)(o:FA w h mg k y f)(s:r=Ab g->FA w h mg k x g):FA w h mg k x g:=by
 by_cases q:x=y
 ·rw[if_pos q] at e;exact q▸AN e▸o
 ·rw[if_neg q] at e;exact s e
theorem ZF {b:Bc->Option Ae}(I:GN w h)(T:Top c a b mg mb h)(o:Cm c=Ag):EY (W1 w h) C0 k mg mb:=mM I T o rfl (by exact λ _=>rfl) λ x g e=>nomatch e
theorem R! {b:Bc->Option Ae}(I:GN w h)(T:Top c a b mg mb h)(o:Cm c=Ag):EY (W1 w h) C1 (k+1) mg mb:=mM I T o rfl (by exact λ _=>rfl) λ x g e=>by
 have s:EY (W1 w h) C0 k mg mb:=ZF I T o;exact Ld e (Lk (Xh I T) ((Eh I T _).trans rfl) (sK I T s)) λ e=>Ld e (Lk (Xg I T) ((Eh I T _).trans rfl) (sJ I T s)) λ e=>nomatch e
theorem yK {b:Bc->Option Ae}(I:GN w h)(T:Top c a b mg mb h)(o:Cm c=Ag)(z:pO D):EY (W1 w h) (CL D) (k+2) mg mb:=mM I T o rfl (by exact λ _=>rfl) λ x g e=>by
 have s:EY (W1 w h) C0 (k+1) mg mb:=ZF I T o;have A:EY (W1 w h) C1 (k+1) mg mb:=R! I T o;refine Ld e (Lk (SZ I T) ((Eh I T _).trans rfl) (vO I T s)) λ e=>?_;refine Ld e (Lk (Qf I T) ((Eh I T _).trans rfl) (vP I T s)) λ e=>?_;refine Ld e (Lk (Uv I T) ((Eh I T _).trans rfl) (mZ I T s)) λ e=>?_;refine Ld e (Lk (OE I T) ((Eh I T _).trans rfl) (sM I T A rfl rfl)) λ e=>?_;refine Ld e (Lk (Xf I T) ((Eh I T _).trans rfl) (sI I T A rfl z.tk)) λ e=>?_;refine Ld e (Lk (Qe I T) ((Eh I T _).trans rfl) (YW I T s)) λ e=>?_;refine Ld e (Lk (Xi I T) ((Eh I T _).trans rfl) (sL I T s z.nl)) λ e=>?_;exact Ld e (Lk (RP I T) ((Eh I T _).trans rfl) (fN I T s z.pl z.p6)) λ e=>nomatch e
class inductive NO {σ α:Type} (R:σ->α->σ->Prop):List α->σ->σ->Prop
 |nil {ua}:NO R [] ua ua
 |cons {ux us0 ua ub uc}:R ua ux ub->NO R us0 ub uc->NO R (ux::us0) ua uc
theorem NO.bq {a b:Type}{R:a->b->a->Prop}{x:b}{c t:a}(h:R c x t):NO R [x] c t:=.cons h .nil
theorem NO.append {b c:Type}{R:b->c->b->Prop}{d e:List c}{f t u:b}(a:NO R d f t)(h:NO R e t u):NO R (d++e) f u:=by
 induction a with
 |nil=>exact h
 |cons a _ k=>exact .cons a (k h)
theorem NO.fn {c g:Type}{R:c->g->c->Prop}{d:List g}{b t:c}(h:NO R d b t):∃f:Nat->c,f 0=b/\f d.length=t/\∀i x,d[i]? =Ab x->R (f i) x (f (i+1)):=by
 induction h with
 |@nil b=>exact⟨λ _=>b,rfl,rfl,λ i x e=>absurd (Kz.symm.trans e) nofun⟩
 |@cons y d b t u a _ k=>
  obtain⟨f,o,s,w⟩:=k;exact⟨λ n=>n.rec b λ n _=>f n,rfl,s,λ i x=>i.casesOn (λ e=>by cases e;show R b _ (f 0);rw[o];exact a) λ i=>w i x⟩
section
noncomputable def HR (k:World)(o:AS)(D:Zr)(s:Nat)(h:List (Str×PV)×List PV×List PV)(x:PV)(t:List (Str×PV)×List PV×List PV):Prop:=
 ∃r,x=.str r/\UT (W1 k o) (CL D) s (Fa k 161).scope hP hK Li Uq mK 58 70 r h.1 h.2.1 h.2.2 t.1 t.2.1 t.2.2
theorem RY (h:O.lookup x=Ab (.aa d)):UX C V O [.Name x q] [d]:=.cons (.aa h) .nil rfl
theorem eS (k:QT [.str r]=Ab (.str a))(e:QT [.str a]=Ab d):Pk (CL D) (Fa w 161).scope "reply" r Li "parse257" d:=λ s o h=>by
 conv in Li=>whnf
 exact .fn (by rw[h];rfl) rfl (.cons (.fn (by rw[h];rfl) rfl (RY o) k) .nil rfl) e
theorem s8 {Cl a:Ai}{d g:Pos}{b:List Env}{c:Str}(h:EY W C k mg mb)(F:FI W V z Z X s.heap O)(G:Gd W s){f:Str}{e:Expr}(w:CW V f=Ag)(H:Ck e=Ag)(N:mg f=Ab (.ref a))(l:W.h0.get? a=Ab o)(m:o.data=.func fd)
 (i:Rz W A (eval e z) s b Cl c):Rz W A (eval (.Call (.Name f g) [e] [] d) z) s b Cl c:=λ Q E j=>by
 refine B3 (CF h F G w (.inl N) ?_);rw[Bj d z [e] (by simp[H])];exact Ci (o:=o) (fd:=fd) (Be (AE (i _ _ j)))
theorem Xx (h:O.lookup ("words":Str)=Ab (.aa (.str a))):UX C V O [.Name "words" (hP 23),.Tuple [.Constant (.str "peer") (hK 2) (hP 24),.Constant (.int 21) (hK 3) (hP 25)] (hK 4) (hP 26)] [.str a,.ba [.str "peer",.int 21]]:=
 .cons (.aa h) (.cons (.ba (.cons (.ag (by kernel_rfl)) (.cons .int .nil rfl) rfl) (by decide+kernel)) .nil rfl) rfl
theorem eU (e:Xb [.str r,.ba [.str "peer",.int 21]]=Ab d):Pk (CL D) (Fa w 161).scope "words" r (NJ hP hK) "parse229" d:=λ o h k=>
 .fn (by rw[k];rfl) rfl (Xx h) e
theorem N5 {c:Bc->Option Ae}(I:GN w h)(T:Top d a c mg mb h)(C:Cm d=Ag){l:List Nat}(f:l.take 3≠[50,53,55]):HV (W1 w h) (k+1) (Fa w 161).scope "reply" (B5 l) Li "parse257" 58 (B5 l):=λ A g Q Z X s r i W V St B S j t=>by
 obtain⟨o,e,H,m,n⟩:=(SZ I T).obj
 conv in Li=>whnf
 refine s8 (ZF (k:=k) I T C) S.F (S.gd B) rfl rfl ((Eh I T _).trans rfl) e H ?_;refine UJ (ZF I T C) W S.F (S.gd B) rfl (RY j) ((Eh I T _).trans rfl) e H m n λ N E p z O q=>?_;exact t6 I T (ZF I T C) f A {s with heap:=N,toks:=E} X p i W V (St.bg z) ((S.gd B).step z O) (λ b Q=>⟨(S.F.alive b Q).1,BJ z (S.F.alive b Q).2⟩) q
theorem Rj {c:Bc->Option Ae}(I:GN w h)(T:Top f a c mg mb h)(E:Cm f=Ag)(e:∀W:EY (W1 w h) C0 k mg mb,Tm (W1 w h) (k+1) 79 [.str r,.ba [.str "peer",.int 21]] d r):HV (W1 w h) (k+1) (Fa w 161).scope "words" r (NJ hP hK) "parse229" d r:=λ A i O Z X s u j g Q St B S l v=>by
 have W:EY (W1 w h) C0 k mg mb:=ZF I T E;obtain⟨o,m,V,n,p⟩:=(Qf I T).obj;refine UJ (ZF I T E) g S.F (S.gd B) rfl (Xx l) ((Eh I T _).trans rfl) m V n p λ H C q z N t=>?_;exact e W A {s with heap:=H,toks:=C} X q j g Q (St.bg z) ((S.gd B).step z N) (λ b O=>⟨(S.F.alive b O).1,BJ z (S.F.alive b O).2⟩) t
theorem eJ {a:List PV}(o:QT [.str r]=Ab (.str b))(e:QT [.str b]=Ab d)(s:a.length+1<=BX):HR w h D k (c,a,f) (.str r) (c,a++[d],f):=
 ⟨r,rfl,.ca d (eS o e) s⟩
theorem rW {d:List PV}{b:Bc->Option Ae}(I:GN w h)(T:Top f a b mg mb h)(o:Cm f=Ag)(s:d.length+1<=BX):HR w h D (k+1) (g,c,d) (.str "226 all told") (g,c,d++[.str "no 226 all told"]):=
 ⟨_,rfl,.jq "226 all told" "226 all told" "no 226 all told" (by
   have e:("226 all told":Str)=B5 (PySem.Str.cps "226 all told").toList:=(No _).symm;have:=N5 (k:=k) I T o (l:=(PySem.Str.cps "226 all told").toList) (by decide+kernel);rwa[<-e] at this) (by
   have:=Rj (k:=k) I T o λ z=>yR I T z (l:=(PySem.Str.cps "226 all told").toList) (by decide+kernel);rwa[<-((No _).symm)] at this) rfl s⟩
theorem rV {d:List PV}{b:Bc->Option Ae}(I:GN w h)(T:Top e a b mg mb h)(o:Cm e=Ag)(s:r∈MC)(z:d.length+1<=BX):HR w h D (k+1) (f,c,d) (.str r) (f,c,d++[.str r]):=
 ⟨r,rfl,.ju r r (by
   have:=N5 (k:=k) I T o ((by decide+kernel:∀r∈MC,r.cps.toList.take 3≠[50,53,55]) r s);exact(((No _).symm:r=B5 r.cps.toList))▸this) (Rj I T o λ A=>t7 I T A (xW s)) z⟩
theorem ZZ (h:List PV)(x:PV)(o:h.length<1000):ET (.list (h++[x])) (.int (-1))=Ab x:=by
 have k:Gw (-1) (h++[x]).length=Ab h.length:=by
  unfold seqIndex?;simp;rw[(by rw[Int.add_comm h.length,Int.neg_add_cancel_left]:(-1:Int)+(h.length+1)=h.length)];exact⟨⟨BD _,Int.lt_add_one_iff.mpr (Int.le_refl _)⟩,rfl⟩
 refine(N1 (h++[x]) (-1)).trans ?_;rw[if_pos (by decide+kernel),k];simp
theorem eK {d:List (Str×PV)}{c:Bc->Option Ae}(I:GN w h)(T:Top e b c mg mb h)(s:Cm e=Ag)(z:m∈Jf){i:Int}(A:i.natAbs<10^10){a:List PV}(C:d.length+1<=BX)(E:a.length<1000):
 HR w h D (k+1) (d,a++[.str n],f) (.str (B5 (Cb m (dg i)))) (E7 d n (.ba [.str "peer",.int i]),a++[.str n],f):=
 ⟨_,rfl,.jz (B5 (Cb m (dg i))) _ n (a++[.str n]) (N5 I T s (by
    have:(Cb m (dg i)).take 3=[50,50,57]:=by rfl
    rw[this];decide)) (eU (eQ z A)) (λ H o=>by
    conv in mK=>whnf
    exact .sub (.aa o) (.neg .int) (λ _ _=>rfl) (ZZ a _ E)) (λ H o=>by
    conv in Uq=>whnf
    exact .aa o) C⟩
end
noncomputable def nm (i:Nat):Str:=Gh.getD i ""
noncomputable def E6:List Nat:=[256,8,1024,2,32]
noncomputable def UY (h:List Nat)(k:Nat):Nat:=h.getD k 0
noncomputable def Wa (h:List Nat):Nat:=(((Ap 12).filter λ k=>!E6.any (·==2^k)&&UY h 6/2^k%2==1).map (2^·)).sum
noncomputable def Fs (h:List Nat)(k:Nat):Nat:=Wa h+(((Ap 5).filter λ j=>UY h k/2^j%2==1).map λ j=>E6.getD j 0).sum
noncomputable def Eo (h:List Nat)(k:Nat):Int:=(Fs h k:Int)+4096*(((UY h k/32%24:Nat):Int)-8)
noncomputable def NV (h:List Nat):List Int:=(Ap 6).map (Eo h)
noncomputable def Sy:List (List Str):=[["229 at 272)"],["229 at (|||7|x"],["229 at (||7|)","229 at (|||7||)"],["229 at (|||7|!)"]]
noncomputable def UN (h:List Nat)(k:Nat):Bool:=UY h 6/4096/2^k%2==1
noncomputable def QL (h:List Nat):List (List Str):=((Ap 4).map λ k=>if UN h k then Sy.getD k [] else[])++[[],[]]
theorem WC:∀(l:List Nat)(m:Nat),(∀x∈l,x<=m)->l.sum<=m*l.length:=by
 intro l;induction l with
 |nil=>
  intro m _;exact An _
 |cons a l k=>
  intro m h;have:=k m λ x o=>h x (Af _ o);rw[IL];exact Aa (FL (h a Ad) this) (Az (DQ m _))
theorem sV (h:List Nat):Wa h<=24576:=by
 refine Aa (WC _ 2048 λ x o=>?_) ?_
 ·obtain⟨k,hk,rfl⟩:=AF.mp o;have:=As.mp (Aw.mp hk).1;exact I2 (Bo _) (A7 ‹_›:k<=11)
 ·rw[Aj];have:=AW (λ k=>!E6.any (·==2^k)&&UY h 6/2^k%2==1) (Ap 12)
  exact FF 2048 (Aa this (Az CJ))
theorem fX (h:List Nat)(k:Nat):Fs h k<=30000:=by
 have:(((Ap 5).filter λ j=>UY h k/2^j%2==1).map λ j=>E6.getD j 0).sum<=1024*5:=by
  refine Aa (WC _ 1024 λ x o=>?_) ?_
  ·obtain⟨j,s,rfl⟩:=AF.mp o;have:=As.mp (Aw.mp s).1;exact(by decide:∀j<5,E6.getD j 0<=1024) j this
  ·rw[Aj];have:=AW (λ j=>UY h k/2^j%2==1) (Ap 5);exact FF 1024 (Aa this (Az CJ))
 exact Aa (FL (sV h) this) (by decide)
theorem WQ (h:List Nat)(k:Nat):(Eo h k).natAbs<1000000:=by
 have:=fX h k;exact Ay (Int.natAbs_add_le _ _) (Ay (FL this (Aa (Az (Int.natAbs_mul _ _)) (FF 4096 (Aa (Int.natAbs_sub_le _ _) (B7 (A7 (Nat.mod_lt _ (by decide))) 8))))) (by decide:30000+4096*31<1000000))
theorem o6 (s:List Nat):∀l∈QL s,l.length<=9/\∀t∈l,t∈MC:=λ l w=>by
 rcases AK.mp w with h |h
 ·skip
  obtain⟨k,hk,rfl⟩:=AF.mp h;split
  ·exact(by decide+kernel:∀k<4,(Sy.getD k []).length<=9/\∀t∈Sy.getD k [],t∈MC) k (As.mp hk)
  ·exact⟨AY _,λ t o=>nomatch o⟩
 ·have:l=[]:=by simpa using h
  subst this;exact⟨AY _,λ t o=>nomatch o⟩
theorem O1 (h:List Nat):Tl (NV h) (QL h) where
 ma:=by rfl
 nf:=λ p o=>by
  obtain⟨k,_,rfl⟩:=AF.mp o;have:=WQ h k;exact Ao this (of_decide_eq_true (_root_.id (Cx Ag)))
 lh:=by rfl
 mu:=λ l s=>(o6 h l s).1
noncomputable def E9 (i:Int):PV:=.ba [.str "peer",.int i]
noncomputable def S9 (h:List Int)(k:List (Str×PV))(p:Nat):List (Str×PV):=E7 k (nm p) (E9 (h.getD p 0))
theorem jO (h:p<6):QT [.str (tR p)]=Ab (.str (Iq (nm p) p))/\QT [.str (Iq (nm p) p)]=Ab (.str (nm p)):=
 NM (P:=λ p=>QT [.str (tR p)]=Ab (.str (Iq (nm p) p))/\QT [.str (Iq (nm p) p)]=Ab (.str (nm p))) ⟨by kernel_rfl,by kernel_rfl⟩ ⟨by kernel_rfl,by kernel_rfl⟩ ⟨by kernel_rfl,by kernel_rfl⟩ ⟨by kernel_rfl,by kernel_rfl⟩ ⟨by kernel_rfl,by kernel_rfl⟩ ⟨by kernel_rfl,by kernel_rfl⟩ p h
section
variable {a:List Str}{b:Bc->Option Ae}{c:Fw}{D:Zr} in
theorem jQ (I:GN w h)(T:Top c a b mg mb h)(o:Cm c=Ag):∀(l:List Str),(∀t∈l,t∈MC)->∀{es:List (Str×PV)}{hs ss:List PV},ss.length+l.length<=1000->NO (HR w h D (k+1)) (l.map .str) (es,hs,ss) (es,hs,ss++l.map .str):=by
 intro l;induction l with
 |nil=>
  intro _ es hs ss _;rw[List.map_nil,DV];exact .nil
 |cons t l s=>
  intro z es hs ss A;have:=s (λ x C=>z x (Af _ C)) (es:=es) (hs:=hs) (ss:=ss++[.str t]) (by rw[AP];exact Aa (Az (Cg _ 1 _)) A);simp only[BQ] at this;exact .cons (rV I T o (z t Ad) (Aa (Bt (Aa (AR _ _) A)) (Aa (by decide) (by decide+kernel:5000<=BX)))) this
theorem X5 {c:Bc->Option Ae}(I:GN w h)(T:Top d b c mg mb h)(z:Cm d=Ag){mo:List Int}{a:List (List Str)}(Q:∀p,(mo.getD p 0).natAbs<1000000)(V:∀p<6,(a.getD p []).length<=9/\∀t∈a.getD p [],t∈MC):∀(o:List Nat),(∀p∈o,p<6)->∀{es:List (Str×PV)}{hs ss:List PV},es.length+o.length<=100->hs.length+o.length<=100->ss.length+9*o.length<=500->
 NO (HR w h D (k+1)) (o.flatMap (Pq mo a)) (es,hs,ss) (o.foldl (S9 mo) es,hs++o.map (λ p=>.str (nm p)),ss++(o.flatMap λ p=>a.getD p []).map .str):=by
 intro o;induction o with
 |nil=>
  intro _ es hs ss _ _ _;simp;exact .nil
 |cons p o C=>
  intro A es hs ss z1 z2 E;have H:=Kx;have s:=A p Ad;obtain⟨N,W⟩:=V p s;obtain⟨Z,e⟩:=jO s;simp only[Ec] at z1 z2 E;have O:=C (λ q f=>A q (Af _ f)) (es:=S9 mo es p) (hs:=hs++[.str (nm p)]) (ss:=ss++(a.getD p []).map .str) (by
   exact Aa (B7 (HF ..) _) (Aa (Az (Cg _ 1 _)) z1)) (by rw[AP];exact Aa (Az (Cg _ 1 _)) z2) (by rw[AP,Aj];exact Aa (B7 (A0 N _) _) (Aa (Az (Cg _ 9 _)) E))
  rw[BQ,BQ,<-Dx] at O;refine .append ?_ O;refine .cons (eJ Z e (Aa (Aa (A0 (Ak 1 _) _) z2) (Aa (by decide) H))) (.append (jQ I T z _ W (Aa (A0 (Aa N (Ak 9 (9*o.length))) _) (Aa E (by decide)))) (.bq ?_));exact eK I T z (WT s) (by have:=Q p;exact Ao this (of_decide_eq_true (_root_.id (Cx Ag)))) (Aa (Aa (A0 (Ak 1 _) _) z1) (Aa (by decide) H)) (Ay (Aa (AR _ _) z2) (by decide))
theorem aP {c:Bc->Option Ae}(I:GN w h)(T:Top d b c mg mb h)(o:Cm d=Ag):
 NO (HR w h D (k+1)) (Tx (NV a) (QL a)) ([],[],[]) ((Ap 6).foldl (S9 (NV a)) [],(Ap 6).map (λ p=>.str (nm p)),.str "no 226 all told"::((QL a).flatten).map .str):=by
 have z:=Kx;have O:=O1 a;have e:=X5 (D:=D) (k:=k) I T o (mo:=NV a) (λ p=>?_) (λ p s=>o6 a _ (getD_mem s)) (Ap 6) (λ p s=>As.mp s) (es:=[]) (hs:=[]) (ss:=[.str "no 226 all told"]) (AM rfl) (AM rfl) (AM rfl)
 ·exact .cons (rW I T o (Ak _ _)) e
 ·rw[Am];cases q:(NV a)[p]? with
  |none=>simp
  |some x=>
   obtain⟨j,_,rfl⟩:=AF.mp (Cp q);exact WQ a j
end
noncomputable def bM:List Int:=[519,386,169,577,273,292,64076]
noncomputable def Rq (h:List Int)(k:Nat):List Int:=(KU (Cc (Ab (k:Int)) Ah (Ab 7) h.length).1 (Cc (Ab (k:Int)) Ah (Ab 7) h.length).2.1 (Cc (Ab (k:Int)) Ah (Ab 7) h.length).2.2).filterMap (h[·]?)
noncomputable def numAt (k:List Int)(h:Nat):Nat:=(((Rq k h).sum+bM.getD h 0)%1572864).toNat
noncomputable def PD (h:List Int):List Nat:=(Ap 7).map (numAt h)
theorem Yb (h:List Int)(k:Nat):(KU (Cc (Ab (k:Int)) Ah (Ab 7) h.length).1 (Cc (Ab (k:Int)) Ah (Ab 7) h.length).2.1 (Cc (Ab (k:Int)) Ah (Ab 7) h.length).2.2).length<=h.length+7:=by
 simp only[KU,Cc];simp only[Option.getD_some,Option.getD_none,qY,if_false,UF,show((7:Int)>0)=True from eq_true (by decide),if_true];generalize min k h.length=m;simp;split
 ·rename_i q;exact Cw (Int.ediv_le_self _ (Int.le_sub_one_of_lt (Int.add_pos_of_nonneg_of_pos (I4 (ER.mpr (AX q))) (by decide)))) (Cw (Int.sub_le_self _ (by decide)) (Int.add_le_add_right (Int.sub_le_self _ (BD m)) 7))
 ·exact BD (h.length+7)
theorem TO (k:a.length<=1000)(h:Nat):En (D4 a) (Ab (h:Int)) Ah (Ab 7)=Ab (D4 (Rq a h)):=by
 have e:Jd (a.map PV.int) (Ab h) Ah (Ab 7)=(Rq a h).map .int:=by
  delta Jd Rq
  rw[Aj,List.map_filterMap];congr 1
  funext i
  exact(Bk)
 have o:((Rq a h).map PV.int).length<=BX:=by
  rw[Aj];have:=Yb a h;exact Aa (List.length_filterMap_le (a[·]?) (KU (Cc (Ab (h:Int)) Ah (Ab 7) a.length).1 (Cc (Ab (h:Int)) Ah (Ab 7) a.length).2.1 (Cc (Ab (h:Int)) Ah (Ab 7) a.length).2.2)) (Aa this (Aa (B7 k 7) (Aa (AM rfl) (by decide+kernel:5000<=BX))))
 show SR (Ab 7≠Ab 0/\(Jd (a.map PV.int) (Ab ↑h) Ah (Ab 7)).length<=BX) (PV.list (Jd (a.map PV.int) (Ab ↑h) Ah (Ab 7)))=Ab (PV.list ((Rq a h).map PV.int));rw[e];rw[Pe ⟨by decide,o⟩]
noncomputable def Y0 (h:List Int):A5:=[("script",.aa (D4 h))]
noncomputable def Y2 (h k:List Int):A5:=[("script",.aa (D4 h)),("taken",.aa (D4 k)),("own",.aa (D4 bM))]
noncomputable def Y5 (h:List Nat):A5:=[("numbers",.aa (Bh h)),("names",.aa (Bi Gh)),("units",.aa (Bh E6))]
theorem Tz (h:i<l.length)(k:l.length<=5000):ET (D4 l) (.int (i:Nat))=Ab (.int (l.getD i 0)):=by
 exact G6 (by rw[Aj];exact Aa k (by decide+kernel)) (by rw[Bk,Kf (d:=0) h];rfl)
noncomputable abbrev QH (k:World)(o:AS)(s:Dj)(h:Env)(w:AS):=FY (W1 k o) s (Fa k 188).scope h w
theorem v0 (o:GW w h C k mg mb)(s:CX k A)(B:Ko w h 188 z N)(E:a.length<=BX):QH w h A z N (exec (EZ 0) z) (Y0 a) (.next (Bs (Y0 a) "taken" (.aa (D4 (a.take 60))))):=by
 have H:=Kx
 conv in EZ 0=>whnf
 have e:En (D4 a) Ah (Ab ((60:Nat):Int)) Ah=Ab (D4 (a.take 60)):=by
  unfold D4;rw[N4 _ _ (by rw[Aj];exact E),Hg]
 exact Bw o s B (.slice (.aa rfl) .no (.int .int) .no e) rfl (by rfl)
theorem v1 (o:GW w h C k mg mb)(s:CX k A)(B:Ko w h 188 z N):QH w h A z N (exec (EZ 1) z) O (.next (Bs O "own" (.aa (D4 bM)))):=by
 have E:=Kx
 conv in EZ 1=>whnf
 exact Bw o s B (.list (.cons .int (.cons .int (.cons .int (.cons .int (.cons .int (.cons .int (.cons .int .nil rfl) rfl) rfl) rfl) rfl) rfl) rfl) (Ak 7 1048569)) rfl (by rfl)
theorem v2 (s:GW w h C k mg mb)(E:CX k A)(B:Ko w h 188 z N)(H:a.length<=100):QH w h A z N (exec (EZ 2) z) (Y2 b a) (.next (Bs (Y2 b a) "numbers" (.aa (Bh (PD a))))):=by
 have O:=Kx;have e:Bh (PD a)=.list ((Ap 7).map λ i=>PV.int (numAt a i:Int)):=by delta Bh PD;exact congrArg _ (Bd)
 rw[e]
 conv in EZ 2=>whnf
 refine DS s E B (.M _ (.bf rfl .int rfl (Ak (BZ 7) 92)) rfl rfl (λ i o=>?_) (Ak 7 1048569)) rfl;have o:=As.mp o;refine⟨[("k",.aa (.int i)),("taken",.aa (D4 a)),("own",.aa (D4 bM))],rfl,?_⟩;rw[(Do (Gb _ (by decide))),<-MM (by decide)];refine .am (.am (.blt rfl rfl (.cons (.slice (.aa rfl) (.int (.aa rfl)) .no (.int .int) (TO (Aa H (of_decide_eq_true (_root_.id (Cx Ag)))) i)) .nil rfl) (by
  show(Hw _).map _=_;rw[Ka];rfl)) (.sub (.aa rfl) (.aa rfl) (λ _ _=>rfl) (Tz o (AM rfl))) (Wp _ _)) .int (SH (by decide))
theorem v3 (o:GW w h C k mg mb)(s:CX k A)(B:Ko w h 188 z N):QH w h A z N (exec (EZ 3) z) O (.next (Bs O "names" (.aa (Bi Gh)))):=by
 have E:=Kx
 conv in EZ 3=>whnf
 exact Bw o s B (.list (.cons (.ag (by kernel_rfl)) (.cons (.ag (by kernel_rfl)) (.cons (.ag (by kernel_rfl)) (.cons (.ag (by kernel_rfl)) (.cons (.ag (by kernel_rfl)) (.cons (.ag (by kernel_rfl)) .nil rfl) rfl) rfl) rfl) rfl) rfl) (Ak 6 1048570)) (by kernel_rfl) (by rfl)
theorem v4 (o:GW w h C k mg mb)(s:CX k A)(B:Ko w h 188 z N):QH w h A z N (exec (EZ 4) z) O (.next (Bs O "units" (.aa (Bh E6)))):=by
 have E:=Kx
 conv in EZ 4=>whnf
 exact Bw o s B (.list (.cons .int (.cons .int (.cons .int (.cons .int (.cons .int .nil rfl) rfl) rfl) rfl) rfl) (Ak 5 1048571)) rfl (by rfl)
theorem bP (h:List Int):(PD h).length=7:=rfl
theorem T5 (n:Nat):∀l:List Nat,lvlL (n+1) (l.map λ n=>PV.int (n:Nat))=Ag:=by
 intro l;induction l with
 |nil=>
  exact rfl
 |cons s r h=>
  have k:=h;refine k.trans ?_;rfl
theorem W7 (x:Nat)(l:List Nat):ZD (.int (x:Nat)) (Bh l)=Ab (l.any λ y=>y==x):=by
 show(if SM 6 (.int x)&&lvlL 6 (l.map λ n=>PV.int (n:Nat)) then Ab ((toPyL (l.map λ n=>PV.int (n:Nat))).any λ y=>C7 y (Ik (.int x))) else Ah)=_;rw[T5 5,if_pos (by rfl)];congr 1;induction l with
 |nil=>rfl
 |cons s r h=>
  show(C7 (.int s) (.int x)||(toPyL (r.map λ n=>PV.int (n:Nat))).any λ y=>C7 y (Ik (.int x)))=((s==x)||r.any λ y=>y==x);congr 1;exact BH.mpr (beq_iff_eq.trans (KZ.trans beq_iff_eq.symm))
theorem Vy (x:Nat)(l:List Nat):I6 .NotIn (.int (x:Nat)) (Bh l)=Ab (!l.any λ y=>y==x):=by
 show(ZD (.int x) (Bh l)).map (!·)=_
 rw[W7];rfl
theorem Xp (a c:Nat)(h:0<c)(k:c<1000000):GC .FloorDiv (.int (a:Nat)) (.int ((c:Nat):Int))=Ab (.int ((a/c:Nat):Int)):=by
 rw[QX ⟨λ q=>Dy h (Int.ofNat_eq_zero.mp q),by exact Ao k (of_decide_eq_true (_root_.id (Cx Ag)))⟩,Oj (BW (c+0))];rfl
theorem kT (a c:Nat)(h:0<c):GC .Mod (.int (a:Nat)) (.int ((c:Nat):Int))=Ab (.int ((a%c:Nat):Int)):=by
 rw[SH λ q=>Dy h (Int.ofNat_eq_zero.mp q),MM (BW (c+0))];rfl
theorem oM (a b:Nat):GC .Add (.int (a:Nat)) (.int ((b:Nat):Int))=Ab (.int ((a+b:Nat):Int)):=by
 rw[Wp];rfl
theorem Q9 (l:List Nat):Q0 .sum [.list (l.map λ n=>PV.int (n:Nat))]=Ab (.int ((l.sum:Nat):Int)):=by
 have e:l.map (λ n=>PV.int (n:Nat))=(l.map λ n=>((n:Nat):Int)).map PV.int:=by rw[Bd];rfl
 rw[e];show(Hw _).map _=_;rw[Ka];show Ab (PV.int _)=_;congr 2;induction l with
 |nil=>rfl
 |cons a l h=>simp only[Bu,IL,IL,h (by rw[Bd];rfl)];push_cast;rfl
noncomputable def Dw (h:List Nat):List Nat:=(Ap 6).map (Fs h)
noncomputable def Y6 (h:List Nat):A5:=[("numbers",.aa (Bh h)),("names",.aa (Bi Gh)),("units",.aa (Bh E6)),("common",.aa (.int (Wa h:Nat)))]
noncomputable def Y7 (h:List Nat):A5:=[("numbers",.aa (Bh h)),("names",.aa (Bi Gh)),("drawn",.aa (Bh (Dw h)))]
noncomputable def Y8 (h:List Nat):A5:=[("numbers",.aa (Bh h)),("names",.aa (Bi Gh)),("drawn",.aa (Bh (Dw h))),("modes",.aa (D4 (NV h)))]
noncomputable def Y9 (h:List Nat):A5:=[("numbers",.aa (Bh h)),("names",.aa (Bi Gh)),("drawn",.aa (Bh (Dw h))),("modes",.aa (D4 (NV h))),("odd",.aa (.list (Sy.map Bi)))]
theorem Sd {i:Nat}(h:a.length=7)(k:i<7):ET (Bh a) (.int (i:Nat))=Ab (.int ((UY a i:Nat):Int)):=Sf (Aa (Az h) (AM rfl)) (Ao k (Az h.symm))
theorem v5 (s:GW w h C k mg mb)(E:CX k A)(B:Ko w h 188 z N)(H:a.length=7):QH w h A z N (exec (EZ 5) z) (Y5 a) (.next (Bs (Y5 a) "common" (.aa (.int (Wa a:Nat))))):=by
 have Q:=Kx;have O:=Sd H (An (BZ 6))
 conv in EZ 5=>whnf
 refine Bw s E B (.blt rfl rfl (.cons (ED.ev<| .T _ _ (.bf rfl .int rfl (Ak (BZ 12) 87)) rfl rfl (λ i o=>?_) (Ak 12 1048564)) .nil rfl) (by
  have e:(((Ap 12).filter λ k=>!E6.any (·==2^k)&&UY a 6/2^k%2==1).map λ k=>PV.int ((2^k:Nat):Int))=(((Ap 12).filter λ k=>!E6.any (·==2^k)&&UY a 6/2^k%2==1).map (2^·)).map λ n=>PV.int (n:Nat):=by rw[Bd];rfl
  rw[e];exact Q9 _)) rfl (by rfl)
 have o:=As.mp o;refine⟨[("k",.aa (.int i)),("numbers",.aa (Bh a)),("units",.aa (Bh E6))],rfl,.bq ?_,λ _=>.am .int (.aa rfl) (TL i o)⟩;rw[(by rw[ES]:(!E6.any (·==2^i)&&UY a 6/2^i%2==1)=((!E6.any λ y=>y==2^i)&&((UY a 6/2^i%2==1)&&Ag)))]
 exact .all (.bu (.cq (.am .int (.aa rfl) (TL i o)) (.aa rfl) rfl (.inr rfl) (Vy _ _)) λ _=>.bu (.au (Tb (.sub (.aa rfl) .int (λ _ _=>rfl) O) (.aa rfl) o) .int rfl (nH _ _)) λ _=>.nil)
theorem v6 (E:GW w h C k mg mb)(H:CX k A)(B:Ko w h 188 z N)(O:a.length=7):QH w h A z N (exec (EZ 6) z) (Y6 a) (.next (Y7 a)):=by
 have Q:=Kx;have e:Bh (Dw a)=.list ((Ap 6).map λ i=>PV.int (Fs a i:Int)):=by delta Bh Dw;exact congrArg _ (Bd)
 refine Hc (ks:=["numbers","names","drawn"]) (ρ1:=Bs (Y6 a) "drawn" (.aa (Bh (Dw a)))) rfl ?_;rw[e]
 conv in EZ 6=>whnf
 refine DS E H B (.M _ (.bf rfl .int rfl (Ak (BZ 6) 93)) rfl rfl (λ i s=>?_) (Ak 6 1048570)) rfl;have s:=As.mp s;refine⟨[("k",.aa (.int i)),("numbers",.aa (Bh a)),("units",.aa (Bh E6)),("common",.aa (.int (Wa a:Nat)))],rfl,?_⟩;refine .am (.aa rfl) (.blt rfl rfl (.cons (ED.ev<| .T _ _ (.bf rfl .int rfl (by omega)) rfl rfl (λ j o=>?_) (by rw[CJ];omega)) .nil rfl) (by
  have e:(((Ap 5).filter λ j=>UY a i/2^j%2==1).map λ j=>PV.int ((E6.getD j 0:Nat):Int))=(((Ap 5).filter λ j=>UY a i/2^j%2==1).map λ j=>E6.getD j 0).map λ n=>PV.int (n:Nat):=by rw[Bd];rfl
  rw[e];exact Q9 _)) (oM _ _)
 have o:=As.mp o;refine⟨[("j",.aa (.int j)),("k",.aa (.int i)),("numbers",.aa (Bh a)),("units",.aa (Bh E6))],rfl,.bq ?_,λ _=>.sub (.aa rfl) (.aa rfl) (λ _ _=>rfl) (Sf (by decide) o)⟩;exact .au (Tb (.sub (.aa rfl) (.aa rfl) (λ _ _=>rfl) (Sd O (Nat.le.step s))) (.aa rfl) (Ao o (of_decide_eq_true (_root_.id (Cx Ag))))) .int rfl (nH _ _)
noncomputable def cI (l:List (List Str)):PV:=.list (l.map Bi)
noncomputable def wM (h:List Nat):A5:=[("numbers",.aa (Bh h)),("names",.aa (Bi Gh)),("drawn",.aa (Bh (Dw h))),("modes",.aa (D4 (NV h))),("spoiled",.aa (cI (QL h)))]
theorem gN (a b:List PV)(h:a.length+b.length<=BX):GC .Add (.list a) (.list b)=Ab (.list (a++b)):=by
 show(if a.length+b.length<=BX then Ab (PV.list (a++b)) else Ah)=_;rw[if_pos h]
theorem v7 (s:GW w h C k mg mb)(E:CX k A)(B:Ko w h 188 z N)(H:a.length=7):QH w h A z N (exec (EZ 7) z) (Y7 a) (.next (Bs (Y7 a) "modes" (.aa (D4 (NV a))))):=by
 have V:=Kx;have e:D4 (NV a)=.list ((Ap 6).map λ i=>PV.int (Eo a i)):=by delta D4 NV;exact congrArg _ (Bd)
 rw[e]
 conv in EZ 7=>whnf
 refine DS s E B (.M _ (.bf rfl .int rfl (Ak (BZ 6) 93)) rfl rfl (λ i o=>?_) (Ak 6 1048570)) rfl;have o:=As.mp o;have O:=Sd H (Nat.le.step o);have Q:ET (Bh (Dw a)) (.int i)=Ab (.int (Fs a i:Int)):=by
  have:=Sf (l:=Dw a) (by simp[Dw]) o;refine this.trans ?_;unfold Dw;simp[Am,o]
 refine⟨[("k",.aa (.int i)),("numbers",.aa (Bh a)),("drawn",.aa (Bh (Dw a)))],rfl,?_⟩;exact .am (.sub (.aa rfl) (.aa rfl) (λ _ _=>rfl) Q) (.am .int (.am (.am (.am (.sub (.aa rfl) (.aa rfl) (λ _ _=>rfl) O) .int (Xp _ 32 (Ak _ _) (Ak _ _))) .int (kT _ 24 (Ak _ _))) .int (Vg _ _)) (uY (AM rfl))) (Wp _ _)
theorem v8 (o:GW w h C k mg mb)(s:CX k A)(B:Ko w h 188 z N):QH w h A z N (exec (EZ 8) z) O (.next (Bs O "odd" (.aa (cI Sy)))):=by
 have E:=Kx
 conv in EZ 8=>whnf
 exact Bw o s B (.list (.cons (.list (.cons (.ag (by kernel_rfl)) .nil rfl) (by exact Ak 1 1048575)) (.cons (.list (.cons (.ag (by kernel_rfl)) .nil rfl) (by exact Ak 1 1048575)) (.cons (.list (.cons (.ag (by kernel_rfl)) (.cons (.ag (by kernel_rfl)) .nil rfl) rfl) (by exact Ak 2 1048574)) (.cons (.list (.cons (.ag (by kernel_rfl)) .nil rfl) (by exact Ak 1 1048575)) .nil rfl) rfl) rfl) rfl) (by exact Ak 4 1048572)) (by kernel_rfl) (by rfl)
theorem v9 {a:List Nat}(s:GW w h C k mg mb)(E:CX k A)(B:Ko w h 188 z N)(H:a.length=7):QH w h A z N (exec (EZ 9) z) (Y9 a) (.next (Bs (Y9 a) "spoiled" (.aa (cI (QL a))))):=by
 have Q:=Kx;have O:=Sd H (An (BZ 6));have e:cI (QL a)=.list (((Ap 4).map λ k=>Bi (if UN a k then Sy.getD k [] else[]))++[Bi [],Bi []]):=by delta cI QL;rfl
 conv in EZ 9=>whnf
 refine Bw s E B (.am (a:=.list ((Ap 4).map λ k=>Bi (if UN a k then Sy.getD k [] else[]))) (ED.ev<| .M _ (.bf rfl .int rfl (Ak (BZ 4) 95)) rfl rfl (λ i o=>?_) (Ak 4 1048572)) (.list (.cons (.list .nil (Ak 0 1048576)) (.cons (.list .nil (Ak 0 1048576)) .nil rfl) rfl) (Ak 2 1048574)) ?_) rfl (by rfl)
 ·have o:=As.mp o;refine⟨[("k",.aa (.int i)),("numbers",.aa (Bh a)),("odd",.aa (cI Sy))],rfl,?_⟩;refine .ja (b':=UN a i) (.au (Tb (.am (.sub (.aa rfl) .int (λ _ _=>rfl) O) .int (Xp _ 4096 (Ak (BZ 0) 4095) (Ak (BZ 4096) 995903))) (.aa rfl) (Ao o (of_decide_eq_true (_root_.id (Cx Ag))))) .int rfl (nH _ _)) ?_;cases UN a i with
  |true=>exact .sub (.aa rfl) (.aa rfl) (λ _ _=>rfl) (G6 (Ak 4 1048572) (by rw[Bk,Kf (d:=[]) o];rfl))
  |false=>exact .list .nil (Ak 0 1048576)
 ·exact gN _ _ (Ak (4+2) 1048570)
structure LE (w:World)(h:AS)(A:Dj)(ah:Env)(hb:AS):Prop where
 B:Ko w h 188 ah hb
 hA:CX 12 A
 O:Zw (W1 w h) A ah hb []
 wr:∀b∈AV ah,Ea (Fa w 188).scope ah b
 he:∃n,ah=B4 (Fa w 188) n 188
structure U1 (w:World)(h:AS)(A:Dj)(ah:Env)(hb:AS)(sts:List Bq)(ρ:A5):Prop where
 go:∀(s:Aq)(Q:FB->Aq->Prop)(E:I9),XS (W1 w h) (Fa w 188).scope ah hb (AV ah) (AV ah) s ρ->(∀h' tk,BA (W1 w h) hb h'->s.toks<=tk->Q (.ret (.bool Ag)) {s with heap:=h',toks:=tk})->Av (W1 w h).M A (execs sts ah) Q E s
theorem Ho {r:List Bq}{st:Bq}{a:A5}(c:QH w h A z N (exec st z) O (.next a))(d:U1 w h A z N r a):U1 w h A z N (st::r) O:=.mk λ s Q E S e=>
 Ax (c.go _ _ s _ _ S λ C k H f V=>d.go {s with heap:=C,toks:=k} Q E H λ W o b Z=>e W o b (Aa V Z))
theorem Pp (e:a=Ei b O)(k:U1 w h A z N r a):U1 w h A z N r O:=.mk λ s Q E S o=>k.go s Q E (S.aw (e▸EL)) o
theorem pU {r:List Bq}{st:Bq}(V:QH w h A z N (exec st z) O (.ret (.bool Ag))):U1 w h A z N (st::r) O:=.mk λ s Q E S W=>
 Ax (V.go _ _ s _ _ S λ v o k H C Z=>by have e:v=.bool Ag:=Z.aj;subst e;exact W o k H C)
theorem fB (o:(fd.scope.names.map (·.1)).Nodup)(n a:Nat):∀b∈AV (B4 fd n a),Ea fd.scope (B4 fd n a) b:=λ b w=>by
 rcases Al.mp w with q |q
 ·exact .inl q
 ·skip
  obtain⟨⟨x,c⟩,z,rfl⟩:=AF.mp q;have s:=Mp fd.scope.names (n+1) [] o (λ p h=>nomatch h) (λ p h=>nomatch h) (x,c) z;refine .inr ⟨x,?_,s⟩;cases e:decide (fd.scope.names.lookup x=Ab .cell) with
  |true=>exact of_decide_eq_true (e)
  |false=>
   have:=(Dr x fd.scope.names (n+1) [] o).1 (by exact of_decide_eq_false (e));have k:(CD (n+1) fd.scope.names []).lookup x=Ab c:=s;rw[this] at k;contradiction
noncomputable def bV (h:A5):Bool:=h.all λ p=>match p.2 with | .own _=>Au |_=>Ag
theorem SS (k:bV O=Ag):∀y d,O.lookup y≠Ab (.own d):=λ y d q=>by
 have:∀l:A5,bV l=Ag->l.lookup y=Ab (.own d)->False:=by
  intro l;induction l with
  |nil=>intro _ q;cases q
  |cons p l o=>
   intro h q;obtain⟨x,s⟩:=p;unfold bV at h;rw[Du,AG] at h;by_cases e:y=x
   ·subst e;rw[AC] at q;cases q;exact absurd h.1 (by simp)
   ·rw[AI e] at q;exact o h.2 q
 exact this O k q
theorem t0 (s:GW w h C k mg mb)(L:LE w h A z N)(hk:k<=12)(Q:a.length<=BX)(V:U1 w h A z N r (wM (PD (a.take 60)))):
 U1 w h A z N (EZ 0::EZ 1::EZ 2::EZ 3::EZ 4::EZ 5::EZ 6::EZ 7::EZ 8::EZ 9::r) (Y0 a):=by
 have E:=L.hA.ai hk;have B:=L.B;have W:(a.take 60).length<=100:=by rw[Dd];omega
 refine Ho (v0 s E B Q) (Ho (v1 s E B) ?_);have H:=bP (a.take 60);generalize a.take 60=O at*;refine Pp (by kernel_rfl:Y2 a O=Ei ["script","taken","own"] (Bs (Bs (Y0 a) "taken" (.aa (D4 O))) "own" (.aa (D4 bM)))) (Ho (v2 s E B W) ?_);generalize PD O=o at*;refine Ho (v3 s E B) (Ho (v4 s E B) ?_);refine Pp (by kernel_rfl:Y5 o=Ei ["numbers","names","units"] (Bs (Bs (Bs (Y2 a O) "numbers" (.aa (Bh o))) "names" (.aa (Bi Gh))) "units" (.aa (Bh E6)))) (Ho (v5 s E B H) ?_);refine Pp (by kernel_rfl:Y6 o=Ei ["numbers","names","units","common"] (Bs (Y5 o) "common" (.aa (.int (Wa o:Nat))))) (Ho (v6 s E B H) (Ho (v7 s E B H) ?_));refine Pp (by kernel_rfl:Y8 o=Ei ["numbers","names","drawn","modes"] (Bs (Y7 o) "modes" (.aa (D4 (NV o))))) (Ho (v8 s E B) ?_);refine Pp (by kernel_rfl:Y9 o=Ei ["numbers","names","drawn","modes","odd"] (Bs (Y8 o) "odd" (.aa (cI Sy)))) (Ho (v9 s E B H) ?_);exact Pp (by kernel_rfl:wM o=Ei ["numbers","names","drawn","modes","spoiled"] (Bs (Y9 o) "spoiled" (.aa (cI (QL o))))) V
noncomputable def Lp (h:List Nat):List (Str×PV):=(Ap 6).map λ k=>(nm k,E9 (Eo h k))
theorem uZ (h:i<6):(NV a).getD i 0=Eo a i:=by
 unfold NV;rw[Am,Bk,List.getElem?_range h];rfl
theorem n8:(Ap 6).foldl (S9 (NV a)) []=Lp a:=by
 kernel_rfl
theorem Zk:NH (Lp a) (Lp a)=Ab Ag:=by
 have h:∀i:Int,NW (E9 i) (E9 i)=Ab Ag:=λ i=>by
  show Ab (decide (("peer":Str)="peer")&&((i==i)&&Ag))=_;simp
 unfold NH Lp;have:Nz ((Ap 6).map λ k=>(nm k,E9 (Eo a k))) ((Ap 6).map λ k=>(nm k,E9 (Eo a k)))=Ab Ag:=by
  generalize Eo a=f;show Nz [(nm 0,E9 (f 0)),(nm 1,E9 (f 1)),(nm 2,E9 (f 2)),(nm 3,E9 (f 3)),(nm 4,E9 (f 4)),(nm 5,E9 (f 5))] [(nm 0,E9 (f 0)),(nm 1,E9 (f 1)),(nm 2,E9 (f 2)),(nm 3,E9 (f 3)),(nm 4,E9 (f 4)),(nm 5,E9 (f 5))]=_;generalize f 0=s;generalize f 1=w;generalize f 2=z;generalize f 3=A;generalize f 4=C;generalize f 5=E;have step:∀o n d r e,o.find? (λ e=>e.1=n)=Ab e->NW d e.2=Ab Ag->Nz o r=Ab Ag->Nz o ((n,d)::r)=Ab Ag:=λ o n d r e H N O=>by
   rw[P4];rw[H];show(NW d e.2).bind _=_;rw[N,O];rfl
  refine step _ _ _ _ (nm 0,E9 s) rfl (h s) (step _ _ _ _ (nm 1,E9 w) rfl (h w) (step _ _ _ _ (nm 2,E9 z) rfl (h z) (step _ _ _ _ (nm 3,E9 A) rfl (h A) (step _ _ _ _ (nm 4,E9 C) rfl (h C) (step _ _ _ _ (nm 5,E9 E) rfl (h E) rfl)))))
 rw[this];simp
theorem lE:∀{k:List PV},(∀x∈k,SM (n+1) x=Ag)->lvlL (n+1) k=Ag:=by
 intro k;induction k with
 |nil=>exact λ _=>rfl
 |cons x k o=>
  intro h;show(SM (n+1) x&&lvlL (n+1) k)=Ag;rw[h x Ad,o λ y s=>h y (Af _ s)];rfl
theorem YZ:∀{k:List PV},(∀x∈k,C7 (Ik x) (Ik x)=Ag)->PyData.eqvAll (toPyL k) (toPyL k)=Ag:=by
 intro k;induction k with
 |nil=>exact λ _=>rfl
 |cons x k o=>
  intro h;show(C7 (Ik x) (Ik x)&&PyData.eqvAll (toPyL k) (toPyL k))=Ag;rw[h x Ad,o λ y s=>h y (Af _ s)];rfl
theorem fR (h:∀x∈a,C7 (Ik x) (Ik x)=Ag):C7 (Ik (.list a)) (Ik (.list a))=Ag:=by
 show C7 (.list (toPyL a)) (.list (toPyL a))=Ag;rw[C7];exact YZ h
theorem Xo (h:∀x∈a,SM 5 x=Ag)(k:∀x∈a,C7 (Ik x) (Ik x)=Ag):NW (.list a) (.list a)=Ab Ag:=by
 unfold NW;have:SM 6 (.list a)=Ag:=lE h;rw[this,if_pos (rfl),fR k]
theorem fQ (x:Str):C7 (Ik (.str x)) (Ik (.str x))=Ag:=by
 show decide (x=x)=Ag;simp
theorem fS (x:Int):C7 (Ik (.int x)) (Ik (.int x))=Ag:=by
 show(x==x)=Ag;simp
theorem NF (l:List Str):NW (Bi l) (Bi l)=Ab Ag:=
 Xo (λ x h=>by obtain⟨y,_,rfl⟩:=AF.mp h;rfl) λ x h=>by obtain⟨y,_,rfl⟩:=AF.mp h;exact fQ y
theorem nG (l:List Int):NW (D4 l) (D4 l)=Ab Ag:=
 Xo (λ x h=>by obtain⟨y,_,rfl⟩:=AF.mp h;rfl) λ x h=>by obtain⟨y,_,rfl⟩:=AF.mp h;exact fS y
noncomputable def OQ (h:List Nat)(a b:Nat):Bool:=!(a==b)&&(Fs h a|||Fs h b)==Fs h b
noncomputable def Vt (h:List Nat)(a b:Nat):Bool:=decide (a<b)||!(Fs h a==Fs h b)
noncomputable def Kw (h:List Nat):List (Nat×Nat):=(Ap 6).flatMap λ a=>((Ap 6).filter λ b=>OQ h a b).map λ b=>(a,b)
noncomputable def Gy (h:List Nat):List (Nat×Nat):=(Kw h).filter λ p=>Vt h p.1 p.2
noncomputable def I8 (h:List Nat)(a:Nat):List Nat:=((Gy h).filter λ p=>p.1==a).map (·.2)
noncomputable def QO (h:List Nat):List (Nat×Nat):=(Ap 6).flatMap λ a=>((I8 h a).filter λ b=>((I8 h a).filter λ c=>(I8 h c).any (·==b)).isEmpty).map λ b=>(a,b)
noncomputable def Oa (h:List Nat):List (Str×Str):=(QO h).map λ p=>(nm p.1,nm p.2)
noncomputable def Nf (h:List Nat):Zr:=⟨NV h,QL h,Oa h,Gy h⟩
theorem S2 {b c:Type}(f:b->List c):∀l:List b,(∀a∈l,(f a).length<=m)->(l.flatMap f).length<=m*l.length:=by
 intro l;induction l with
 |nil=>
  intro _;exact AY _
 |cons a l k=>
  intro h;rw[List.flatMap_cons,AP];exact Aa (FL (h a Ad) (k λ x o=>h x (Af _ o))) (Az (DQ m _))
theorem UL {p:Nat×Nat}(h:p∈Kw c):p.1<6/\p.2<6/\OQ c p.1 p.2=Ag:=by
 obtain⟨a,k,h⟩:=List.mem_flatMap.mp h;obtain⟨b,o,rfl⟩:=AF.mp h;obtain⟨s,w⟩:=Aw.mp o;exact⟨As.mp k,As.mp s,w⟩
theorem Qu (h:List Nat):(Kw h).length<=36:=by
 refine Aa (S2 (m:=6) _ _ λ a _=>?_) (by simp);rw[Aj];exact Aa (AW _ _) (by simp)
theorem O5 (h:List Nat):(Gy h).length<=36:=Aa (AW _ _) (Qu h)
theorem Ge:(a,b)∈Gy c↔a<6/\b<6/\OQ c a b=Ag/\Vt c a b=Ag:=by
 constructor
 ·intro h;obtain⟨k,o⟩:=Aw.mp h;have:=UL k;exact⟨this.1,this.2.1,this.2.2,o⟩
 ·rintro⟨k,o,s,w⟩;exact Aw.mpr ⟨List.mem_flatMap.mpr ⟨a,As.mpr k,AF.mpr ⟨b,Aw.mpr ⟨As.mpr o,s⟩,rfl⟩⟩,w⟩
theorem IC:b∈I8 c a↔(a,b)∈Gy c:=by
 unfold I8;rw[AF];constructor
 ·rintro⟨⟨x,y⟩,h,rfl⟩;obtain⟨k,o⟩:=Aw.mp h;have:x=a:=of_decide_eq_true (o);subst this;exact k
 ·intro h;exact⟨(a,b),Aw.mpr ⟨h,by exact if_pos rfl⟩,rfl⟩
noncomputable def rI (h:List Nat)(a b:Nat):Bool:=decide ((a,b)∈Gy h)
theorem IR:rI c a b=Ag↔(a,b)∈Gy c:=by unfold rI;exact decide_eq_true_iff
theorem MH {x y:Nat}:x|||y=y↔∀i,x.testBit i=Ag->y.testBit i=Ag:=by
 constructor
 ·intro h i k;have:=congrArg (λ n=>Nat.testBit n i) h;rw[Ey,k,Bool.true_or] at this;exact this.symm
 ·intro h;apply Fo;intro i;rw[Ey];cases e:x.testBit i with
  |false=>rfl
  |true=>rw[h i e];rfl
theorem Rk (s:List Nat):PO (rI s) where
 my:=λ a=>by
  cases q:rI s a a with
  |false=>rfl
  |true=>
   have:=(Ge.mp (IR.mp q)).2.2.1;unfold OQ at this;simp at this
 six:=λ a b h=>let⟨w,z,_⟩:=Ge.mp (IR.mp h);⟨w,z⟩
 tr:=λ a b c w z=>by
  obtain⟨E,O,A,k⟩:=Ge.mp (IR.mp w);obtain⟨_,H,C,o⟩:=Ge.mp (IR.mp z);refine IR.mpr (Ge.mpr ⟨E,H,?_,?_⟩)
  all_goals
   unfold OQ at A C;unfold Vt at k o
   first |unfold OQ |unfold Vt
   simp only[AG,CZ,beq_eq_false_iff_ne,beq_iff_eq,CV,decide_eq_true_eq] at*
  ·refine⟨λ q=>?_,MH.mpr λ i N=>MH.mp C.2 i (MH.mp A.2 i N)⟩;subst q;have e:Fs s a=Fs s b:=by
    have w:=MH.mp A.2;have z:=MH.mp C.2;apply Fo;intro i;rw[BH];exact⟨w i,z i⟩
   rcases k with k |k
   ·rcases o with o |o
    ·exact Hj (Mu k o)
    ·exact o e.symm
   ·exact k e
  ·by_cases q:Fs s a=Fs s c
   ·have w:=MH.mp A.2;have z:=MH.mp C.2;have e:Fs s a=Fs s b:=by
     apply Fo;intro i;rw[BH];exact⟨w i,λ h=>by rw[q];exact z i h⟩
    rcases k with k |k
    ·rcases o with o |o
     ·exact .inl (Cu k o)
     ·exact absurd (e.symm.trans q) o
    ·exact absurd e k
   ·exact .inr q
theorem Sz:(a,b)∈QO d↔EA (rI d) a b=Ag:=by
 delta QO EA
 rw[List.mem_flatMap,AG,IR];constructor
 ·rintro⟨x,A,h⟩;obtain⟨y,s,e⟩:=AF.mp h;cases e;obtain⟨k,o⟩:=Aw.mp s;refine⟨IC.mp k,?_⟩;cases q:((Ap 6).any λ c=>rI d a c&&rI d c b) with
  |false=>rfl
  |true=>
   obtain⟨c,hc,e⟩:=B8.mp q;rw[AG,IR,IR] at e;have:c∈(I8 d a).filter λ c=>(I8 d c).any (·==b):=Aw.mpr ⟨IC.mpr e.1,B8.mpr ⟨b,IC.mpr e.2,by exact if_pos rfl⟩⟩
   replace this:=(De.mp o)▸this
   cases this
 ·rintro⟨k,o⟩;refine⟨a,As.mpr (Ge.mp k).1,AF.mpr ⟨b,Aw.mpr ⟨IC.mpr k,?_⟩,rfl⟩⟩;rw[De];refine DL.mpr λ c hc z=>?_;obtain⟨y,s,e⟩:=B8.mp z;have:y=b:=of_decide_eq_true (e);subst this;have w:=IC.mp s;have:((Ap 6).any λ c=>rI d a c&&rI d c y)=Ag:=B8.mpr ⟨c,As.mpr (Ge.mp w).1,by rw[IR.mpr (IC.mp hc),IR.mpr w];rfl⟩;rw[this] at o;exact Bv o
theorem oO (h:List Nat)(a:Nat):(I8 h a).length<=36:=by
 unfold I8;rw[Aj];exact Aa (AW _ _) (O5 h)
noncomputable def iB:List (Nat×Nat):=(Ap 6).flatMap λ a=>(Ap 6).map λ b=>(a,b)
theorem n7 (h:List Nat):Kw h=iB.filter λ p=>OQ h p.1 p.2:=by
 delta Kw iB
 rw[List.filter_flatMap];congr 1
 funext a
 rw[Hi];rfl
theorem bF (h:List Nat):(Gy h).Nodup:=by
 unfold Gy;rw[n7];exact((by decide:iB.Nodup).filter _).filter _
theorem Od {b c:Type}{f:b->c}:∀{l:List b},l.Nodup->(∀x∈l,∀y∈l,f x=f y->x=y)->(l.map f).Nodup:=by
 intro l;induction l with
 |nil=>
  intro _ _;exact .nil
 |cons a l s=>
  intro h k;rw[Bz] at h;rw[Bu,Bz];refine⟨λ q=>?_,s h.2 λ x w y o=>k x (Af _ w) y (Af _ o)⟩;obtain⟨y,o,e⟩:=AF.mp q;exact h.1 (k y (Af _ o) a Ad e▸o)
theorem iC (h:List Nat)(a:Nat):(I8 h a).Nodup:=by
 refine Od ((bF h).filter _) λ x k y o e=>?_;exact Prod.ext ((by simpa using(Aw.mp k).2:x.1=a).trans (by simpa using(Aw.mp o).2:y.1=a).symm) e
theorem wK (h:List Nat)(a:Nat):(I8 h a).length<=6:=by
 have:=Nq (iC h a) λ b k=>As.mpr (Ge.mp (IC.mp k)).2.1;simpa using this
theorem O9 (h:List Nat):(QO h).length<=36:=by
 refine Aa (S2 (m:=6) _ _ λ a _=>?_) (by simp);rw[Aj];exact Aa (AW _ _) (wK h a)
theorem aQ (h:List Nat):pO (Nf h) where
 tk:=O1 h
 nl:=by rw[Aj];have:=O9 h;exact Aa this (of_decide_eq_true (_root_.id (Cx Ag)))
 pl:=Aa (O5 h) (Ak 36 64)
 p6:=λ p k=>by
  have:=k;exact⟨(Ge.mp this).1,(Ge.mp this).2.1⟩
theorem kD (a b:Nat):(a|||b)+(a&&& b)=a+b:=by
 have h:Ab (PV.int (Builtin.bitOr a b))=Ab (PV.int ((a|||b:Nat):Int)):=Sw a b;injection h with h;injection h with h;have k:AO (a:Int) (b:Int)=((a&&& b:Nat):Int):=by rw[bitAnd_pp (BW (a+0)) (BW (b+0))];rfl
 have:=bitOr_and (a:Int) (b:Int);rw[h,k] at this;exact KZ.mp ((congrArg (·+((a&&& b:Nat):Int)) this).trans (Int.sub_add_cancel _ _))
theorem UM:∀{l:List Nat},l.Nodup->∀i,((l.map (2^·)).sum).testBit i=decide (i∈l):=by
 intro l;induction l with
 |nil=>
  intro _ i;simp
 |cons a l k=>
  intro h i;rw[Bz] at h;have o:=k h.2;rw[Bu,IL];have s:((l.map (2^·)).sum).testBit a=Au:=by refine Eq.trans (o a) ?_;simp[h.1]
  generalize (l.map (2^·)).sum=S at*
  have e:2^a+S=2^a|||S:=by
   have w:2^a&&& S=0:=by
    apply Fo;intro j;rw[Nat.testBit_and,G4,Nat.zero_testBit];by_cases q:a=j
    ·subst q;refine Eq.trans (congrArg _ (s)) ?_;simp
    ·simp[q]
   have:=kD (2^a) S;simp only[w,Nat.add_zero] at this;exact this.symm
  simp only[e,Ey,G4,o i];rw[BH];simp;constructor
  ·rintro(q |q)
   ·exact .inl q.symm
   ·exact .inr q
  ·rintro(q |q)
   ·exact .inl q.symm
   ·exact .inr q
theorem bX (s:List Nat):GK (rI s) (Dv (Gy s)):=λ k hk=>by
 have e:Dv (Gy s) k=((((Gy s).filter λ p=>p.2==k).map (·.1)).map (2^·)).sum:=by rw[Bd];rfl
 have C:(((Gy s).filter λ p=>p.2==k).map (·.1)).Nodup:=Od ((bF s).filter _) λ x E y H e=>by
  have z:x.2=k:=by simpa using(Aw.mp E).2
  have A:y.2=k:=by simpa using(Aw.mp H).2
  exact Prod.ext e (z.trans A.symm)
 have w:∀a,a∈((Gy s).filter λ p=>p.2==k).map (·.1)↔(a,k)∈Gy s:=λ a=>by
  rw[AF];constructor
  ·rintro⟨⟨x,y⟩,h,rfl⟩;obtain⟨z,A⟩:=Aw.mp h;have:y=k:=BO (A);subst this;exact z
  ·intro h;exact⟨(a,k),Aw.mpr ⟨h,by exact if_pos rfl⟩,rfl⟩
 have o:=UM C
 replace o:=(e)▸o
 refine⟨?_,λ a O=>?_⟩
 ·refine Nat.lt_pow_two_of_testBit (n:=6) _ λ i N=>?_;refine Eq.trans (o i) ?_;refine decide_eq_false λ q=>?_;have:=(Ge.mp ((w i).mp q)).1;exact Hj (El N this)
 ·rw[o a,BH,decide_eq_true_iff,IR];exact w a
noncomputable def jT (h:List Nat):List Str:="no 226 all told"::(QL h).flatten
noncomputable def Pn (h:List Nat):PV:=.ba [.dict (Lp h),Bi Gh,Bi (jT h)]
noncomputable def xC (h:List Nat)(t:Ai):A5:=[("names",.aa (Bi Gh)),("drawn",.aa (Bh (Dw h))),("modes",.aa (D4 (NV h))),("spoiled",.aa (cI (QL h))),("told",.av (.ref t))]
noncomputable def xB (h:List Nat)(t:Ai):A5:=[("names",.aa (Bi Gh)),("drawn",.aa (Bh (Dw h))),("modes",.aa (D4 (NV h))),("spoiled",.aa (cI (QL h))),("told",.av (.ref t)),("refused",.aa (Bi (jT h)))]
noncomputable def xA (h:List Nat):A5:=[("names",.aa (Bi Gh)),("drawn",.aa (Bh (Dw h))),("modes",.aa (D4 (NV h))),("told",.aa (Pn h))]
theorem RQ (l:List (List Str)):(l.flatMap λ h=>h.map PV.str)=l.flatten.map PV.str:=by
 rw[List.map_flatten,List.flatMap_def]
theorem gI:Zd ((Ap 6).map λ k=>(nm k,E9 (Eo a k)))=Lp a:=by
 unfold Lp;generalize Eo a=f;generalize f 0=h;generalize f 1=o;generalize f 2=s;generalize f 3=w;generalize f 4=z;generalize f 5=A;kernel_rfl
theorem qA:(QL a).flatten.length<=54:=by
 have:=S2 (λ l:List Str=>l) (QL a) λ l h=>(O1 a).mu l h;have l6:=(O1 a).lh;rw[List.flatMap_def,List.map_id'] at this;exact this
theorem Ve (h:i<6):ET (Bi Gh) (.int (i:Nat))=Ab (.str (nm i)):=by
 have k:=Kx;exact G6 (Ak 6 1048570) (by rw[Bk,Kf (l:=Gh) (d:="") h];rfl)
theorem pW (h:i<6):ET (D4 (NV a)) (.int (i:Nat))=Ab (.int (Eo a i)):=by
 have:=Tz (l:=NV a) (by unfold NV;simp;exact h) (by unfold NV;simp);rwa[uZ h] at this
theorem J' (E:GW w h C k mg mb)(H:CX k A)(B:Ko w h 188 z N):QH w h A z N (exec (EZ 11) z) (xC a t) (.next (xB a t)):=by
 have O:=Kx;have s:= @qA a;have e:xB a t=Ei ["names","drawn","modes","spoiled","told","refused"] (Bs (xC a t) "refused" (.aa (.list ([.str "no 226 all told"]++(QL a).flatten.map .str)))):=rfl;refine Hc e ?_
 conv in EZ 11=>whnf
 refine Bw E H B (.am (a:=.list [.str "no 226 all told"]) (b:=.list ((QL a).flatten.map .str)) (.list (.cons (.ag (by kernel_rfl)) .nil rfl) (Ak 1 1048575)) (by
  rw[<-RQ];refine ED.ev<| .M2 (g2:=PV.str) (λ o=>o) (λ _ t=>.str t) (.list (.aa rfl) rfl) rfl rfl (λ o Q=>?_) (by rw[RQ,Aj];exact Aa s (of_decide_eq_true (_root_.id (Cx Ag))));exact⟨[("part",.aa (Bi o))],rfl,.list (.aa rfl) rfl,rfl,λ t V=>⟨[("text",.aa (.str t)),("part",.aa (Bi o))],rfl,.aa rfl⟩⟩) ?_) rfl (by rfl)
 show(if[PV.str "no 226 all told"].length+((QL a).flatten.map PV.str).length<=BX then Ab (PV.list ([.str "no 226 all told"]++(QL a).flatten.map .str)) else Ah)=_;rw[if_pos (by rw[Aj];exact Aa (A0 s 1) (Aa (by decide) O))]
theorem jE:(CL D).fn "_law_talk"=Ab (JI (WB D.mo D.so) (.list (Tx D.mo D.so))):=by
 show YP D "_law_talk"=_;unfold YP;rw[if_neg (by decide+kernel),if_neg (by decide+kernel),if_neg (by decide+kernel),if_neg (by decide+kernel),if_pos rfl]
theorem MI (a:List PV)(r:PV):JI a r a=Ab r:=by unfold JI;rw[if_pos rfl]
theorem t1 {d:Bc->Option Ae}(I:GN w h)(T:Top g c d mg mb h)(m:Cm g=Ag)(L:LE w h A z N)(a5:U1 w h A z N r (xA a)):U1 w h A z N (EZ 10::EZ 11::EZ 12::r) (wM a):=.mk λ s Q E S hQ=>by
 have b1:=Kx;have Gk:=yK (k:=0) I T m (aQ a);obtain⟨f,f0,f1,f2⟩:=(aP I T m).fn;have fo:=fE I T;have tv:∀l u p3 p4 p5,Dc (CL (Nf a)) (Fa w 188).scope (wM a) (.Call (.Name "_law_talk" l) [.Name "names" u,.Name "modes" p3,.Name "spoiled" p4] [] p5) (.list (Tx (NV a) (QL a))):=λ l u p3 p4 p5=>
  .fn rfl jE (.cons (.aa (d:=Bi Gh) rfl) (.cons (.aa (d:=D4 (NV a)) rfl) (.cons (.aa (d:=cI (QL a)) rfl) .nil rfl) rfl) rfl) (MI _ _)
 conv in EZ 10=>whnf
 refine Ax (XT Gk L.B L.O S (SS rfl) L.wr (uO I T) ((Eh I T _).trans rfl) fo mI ((Eh I T _).trans rfl) (fO I T) (pH I T) (rfl) (L.hA.ai (Ak _ _)) (tv _ _ _ _ _) rfl (congrArg _ (f0)) (by rw[f0]) (by rw[f0]) (λ i x e=>f2 i x e) rfl rfl rfl λ H V D t nt v1 v2 C hD v hT l u pD y=>?_);simp only[f1] at l u pD;have eN:(Ap 6).map (λ p=>PV.str (nm p))=Gh.map PV.str:=rfl;rw[eN] at l;rw[n8] at pD;have eY:xC a t=Ei ["names","drawn","modes","spoiled","told"] (Bs (wM a) "told" (.av (.ref t))):=rfl
 replace C:XS (W1 w h) (Fa w 188).scope z N _ _ _ (xC a t):=C.aw (by rw[eY];exact EL)
 have B:D∉AV z:=λ q=>by
  obtain⟨o,ho⟩:=S.F.an D q;rw[hD] at ho;cases ho
 have a2:¬Ea (Fa w 188).scope z D:=λ q=>B (S.F.br q);refine Ax ((J' Gk (L.hA.ai (Ak 2 10)) L.B).go _ _ {s with heap:=H,toks:=V} _ _ C λ O W G kd J=>?_);have M:∀b o,H.get? b=Ab o->b∉D::AV z->(o.cls=.type "list"\/o.cls=.type "tuple"\/o.cls=.type "dict")->O.get? b=Ab o/\b∉D::AV z:=λ b o e n hd=>⟨kd b o (.inl ⟨n,hd⟩) e,n⟩;have re:Dc (CL (Nf a)) (Fa w 188).scope (xB a t) (((Ip (EZ 12)).e 0).x 1) (.ba [.dict (Lp a),Bi Gh,Bi (jT a)]):=by
  conv in EV.x _ _=>whnf
  refine .ba (.cons (by
   rw[<-gI];refine ED.ev<| .D (λ k=>nm k) (λ k=>E9 (Eo a k)) (.bf rfl .int rfl (Ak (BZ 6) 93)) rfl rfl (λ i hi=>?_) (by simp;exact Ak 6 1048570);have hi:=As.mp hi;exact⟨[("k",.aa (.int (i:Nat))),("names",.aa (Bi Gh)),("modes",.aa (D4 (NV a)))],by kernel_rfl,.sub (b:=Bi Gh) (.aa (by kernel_rfl)) (.aa (d:=.int (i:Nat)) (by kernel_rfl)) (λ _ _=>rfl) (Ve hi),.ba (.cons (.ag (by kernel_rfl)) (.cons (.sub (b:=D4 (NV a)) (.aa (by kernel_rfl)) (.aa (d:=.int (i:Nat)) (by kernel_rfl)) (λ _ _=>rfl) (pW hi)) .nil rfl) rfl) (by show 2<=BX;exact Ak 2 1048574)⟩) (.cons (.aa (by kernel_rfl)) (.cons (.aa (by kernel_rfl)) .nil rfl) rfl) rfl) (by show 3<=BX;exact Ak 3 1048573)
 conv at re in EV.x _ _=>whnf
 conv in EZ 12=>whnf
 have bs:= @Zk a;refine Ax (mE (s:={s with heap:=O,toks:=W}) Gk (L.hA.ai (by omega)) L.B G (x:="told") rfl (SS rfl) (λ _ h=>h) (λ _ h=>h) B v (kd t _ (.inl ⟨v,.inr (.inl rfl)⟩) hT) (Rp.bi M l) (Rp.bi M u) (BY.ap kd Ad a2 pD) re rfl bs (NF _) (NF _) λ R Z U Y=>?_);have a3:xA a=Ei ["names","drawn","modes","told"] (Bs (xB a t) "told" (.aa (.ba [.dict (Lp a),Bi Gh,Bi (jT a)]))):=rfl;refine a5.go {s with heap:=R,toks:=Z} Q E (U.aw (by rw[a3];exact EL)) λ a0 j a4 a1=>hQ a0 j a4 (Aa y (Aa J (Aa Y a1)))
noncomputable def XQ:List Nat:=[8,3,10,1,5]
noncomputable def nD (k:List Nat)(h:Nat):List Nat:=((Ap 12).filter λ h=>!E6.any (·==2^h)&&UY k 6/2^h%2==1)++((Ap 5).filter λ j=>UY k h/2^j%2==1).map λ j=>XQ.getD j 0
theorem nC (h:List Nat)(k:Nat):Fs h k=((nD h k).map (2^·)).sum:=by
 delta Fs nD Wa
 simp only[Dx,List.sum_append,Bd];congr 2;refine EK λ j o=>?_;exact(by decide:∀j<5,E6.getD j 0=2^XQ.getD j 0) j (As.mp (Aw.mp o).1)
theorem sO (k:List Nat)(o:Nat):∀e∈nD k o,e<12:=λ e s=>by
 rcases AK.mp s with h |h
 ·exact As.mp (Aw.mp h).1
 ·skip
  obtain⟨j,w,rfl⟩:=AF.mp h;exact(by decide:∀j<5,XQ.getD j 0<12) j (As.mp (Aw.mp w).1)
theorem sN (k:List Nat)(o:Nat):(nD k o).Nodup:=by
 refine HW.mpr ⟨List.nodup_range.filter _,Od (List.nodup_range.filter _) λ x s y w=>?_,λ a z b A q=>?_⟩
 ·exact(by decide:∀x<5,∀y<5,XQ.getD x 0=XQ.getD y 0->x=y) x (As.mp (Aw.mp s).1) y (As.mp (Aw.mp w).1)
 ·subst q;obtain⟨j,C,rfl⟩:=AF.mp A;have h:=(Aw.mp z).2;simp only[AG] at h
  replace h:=(((by decide:∀j<5,(E6.any (·==2^XQ.getD j 0))=Ag) j (As.mp (Aw.mp C).1)))▸h
  cases h.1
theorem V7 (h:List Nat)(k:Nat):Fs h k<4096:=by
 rw[nC];refine Nat.lt_pow_two_of_testBit (n:=12) _ λ i o=>?_;refine Eq.trans (UM (sN h k) i) ?_;refine decide_eq_false λ q=>?_;have:=sO h k i q;exact Hj (El o this)
theorem cA (h:List Nat)(k:Nat):Eo h k%4096=(Fs h k:Int):=by
 have:=V7 h k;exact(J1 _ _ _).trans (Int.emod_eq_of_lt (BD _) (BM.mpr this))
theorem Wc (a b:PV):I6 .NotEq a b=(NW a b).map (!·):=rfl
noncomputable def six (f:Nat->PV):List (Str×PV):=(Ap 6).map λ k=>(nm k,f k)
theorem xM (f:Nat->PV)(h:i<6):ET (.dict (six f)) (.str (nm i))=Ab (f i):=by
 exact NM (P:=λ i=>ET (.dict (six f)) (.str (nm i))=Ab (f i)) rfl rfl rfl rfl rfl rfl i h
noncomputable def w9 (h:List Nat):A5:=[("names",.aa (Bi Gh)),("drawn",.aa (Bh (Dw h))),("modes",.aa (D4 (NV h))),("told",.aa (Pn h)),("rights",.aa (Bh (Dw h)))]
noncomputable def zS (h:List Nat):A5:=[("names",.aa (Bi Gh)),("rights",.aa (Bh (Dw h)))]
theorem mX (m:Int):Xc [.int m]=Ab (.str (B5 (Nr m))):=by
 show Ab (PV.str (B5 (Gi m 0 HK)))=_;rw[YT]
theorem dZ (m:Int):SX [.int m]=Ab (.int (m%4096)):=by
 show Ab (PV.int (AO m 4095))=_;rw[hW]
theorem mW:(CL D).fn "filemode"=Ab Xc:=by
 show YP D "filemode"=_;unfold YP;rw[if_neg (by decide+kernel),if_neg (by decide+kernel),if_neg (by decide+kernel),if_pos rfl]
theorem dY:(CL D).fn "S_IMODE"=Ab SX:=by
 show YP D "S_IMODE"=_;unfold YP;rw[if_neg (by decide+kernel),if_neg (by decide+kernel),if_pos rfl]
theorem VI:(CL D).fn "_law_listing"=Ab P9:=by
 show YP D "_law_listing"=_;unfold YP;rw[if_neg (by decide+kernel),if_neg (by decide+kernel),if_neg (by decide+kernel),if_neg (by decide+kernel),if_neg (by decide+kernel),if_pos rfl]
theorem WA (o:i<6)(h:O.lookup ("told":Str)=Ab (.aa (Pn a)))(s:O.lookup ("name":Str)=Ab (.aa (.str (nm i)))):
 Dc C V O (.Subscript (.Subscript (.Subscript (.Name "told" c) (.Constant (.int 0) d e) f) (.Name "name" g) j) (.Constant (.int 1) b l) m) (.int (Eo a i)):=by
 have w:ET (.dict (Lp a)) (.str (nm i))=Ab (E9 (Eo a i)):=xM (λ k=>E9 (Eo a k)) o;generalize Eo a i=x at*;unfold Pn at h;generalize Lp a=z at*;exact .sub (.bn (.sub (.bn (.sub (.aa h) .int (λ _ _=>rfl) rfl)) (.aa s) (λ _ _=>rfl) w)) .int (λ _ _=>rfl) rfl
theorem Wz (h:O.lookup ("told":Str)=Ab (.aa (Pn a))):OK C V O (.Subscript (.Name "told" b) (.Constant (.int 1) c d) e) ((Ap 6).map λ i=>PV.str (nm i)):=
 .list (.sub (.aa h) .int (λ _ _=>rfl) rfl) rfl
theorem I? (o:EY (W1 w h) (CL D) k mg mb)(s:CX k A)(B:Ko w h 188 z N):QH w h A z N (exec (EZ 13) z) (xA a) (.next (w9 a)):=by
 have E:=Kx;have e:Bh (Dw a)=.list ((Ap 6).map λ i=>PV.int (Eo a i%4096)):=by
  delta Bh Dw
  rw[Bd];congr 1;exact EK λ i _=>by rw[cA];rfl
 refine Hc (ks:=["names","drawn","modes","told","rights"]) (ρ1:=Bs (xA a) "rights" (.aa (Bh (Dw a)))) rfl ?_;rw[e]
 conv in EZ 13=>whnf
 refine DS o s B (.M _ (Wz rfl) rfl rfl (λ i C=>?_) (Ak 6 1048570)) rfl;exact⟨[("name",.aa (.str (nm i))),("told",.aa (Pn a))],rfl,.fn rfl dY (.cons (WA (As.mp C) rfl rfl) .nil rfl) (dZ _)⟩
theorem I! (E:EY (W1 w h) (CL D) k mg mb)(H:CX k A)(B:Ko w h 188 z N):QH w h A z N (exec (EZ 14) z) (w9 a) (.next (w9 a)):=by
 have Q:=Kx;have O:Bh (Dw a)=D4 ((Dw a).map λ n=>((n:Nat):Int)):=by delta Bh D4;exact congrArg _ (Bd)
 have s:Bi ((Ap 6).map λ i=>B5 (Nr (Eo a i)))=.list ((Ap 6).map λ i=>.str (B5 (Nr (Eo a i)))):=by unfold Bi;exact congrArg _ (Bd)
 have o:I6 .NotEq (Bh (Dw a)) (Bh (Dw a))=Ab Au:=by rw[Wc,O,nG];rfl
 conv in EZ 14=>whnf
 refine Gu E H B (.all (.dj (.au (.aa rfl) (.aa rfl) rfl o) λ _=>.dj (.au (a:=Bi ((Ap 6).map λ i=>B5 (Nr (Eo a i)))) (b:=Bi ((Ap 6).map λ i=>B5 (Nr (Eo a i)))) (by
  rw[s];refine ED.ev<| .M _ (Wz rfl) rfl rfl (λ i C=>?_) (by rw[CJ];exact Ak 6 1048570);exact⟨[("name",.aa (.str (nm i))),("told",.aa (Pn a))],rfl,.fn rfl mW (.cons (WA (As.mp C) rfl rfl) .nil rfl) (mX _)⟩) (by
  rw[s];refine ED.ev<| .M (g:=λ i=>.int (Eo a i)) _ (.list (.aa rfl) rfl) rfl rfl (λ i C=>?_) (by rw[CJ];exact Ak 6 1048570);exact⟨[("mode",.aa (.int (Eo a i)))],rfl,.fn rfl VI (.cons (.aa rfl) .nil rfl) rfl⟩) rfl (by rw[Wc,(NF ((Ap 6).map λ i=>B5 (Nr (Eo a i))))];rfl)) λ _=>.nil)) ?_
 exact FO
noncomputable def zR (h:List Nat):A5:=[("names",.aa (Bi Gh)),("rights",.aa (Bh (Dw h))),("both",.aa (Iy (Kw h)))]
noncomputable def zQ (h:List Nat):A5:=[("names",.aa (Bi Gh)),("pairs",.aa (Iy (Gy h)))]
noncomputable def iD (h:List Nat):PV:=.list ((Ap 6).map λ a=>Bh (I8 h a))
noncomputable def zP (h:List Nat):A5:=[("names",.aa (Bi Gh)),("pairs",.aa (Iy (Gy h))),("above",.aa (iD h))]
noncomputable def zO (h:List Nat):A5:=[("names",.aa (Bi Gh)),("pairs",.aa (Iy (Gy h))),("nexts",.aa (Hb (Oa h)))]
theorem A! (a b:Nat):I6 .NotEq (.int (a:Nat)) (.int (b:Nat))=Ab (!(a==b)):=by
 rw[Wc];have:NW (.int a) (.int b)=Ab (a==b):=nH a b;rw[this];rfl
theorem Pr (h:i<6):ET (Bh (Dw a)) (.int (i:Nat))=Ab (.int ((Fs a i:Nat):Int)):=by
 have k:=Kx;refine G6 (by rw[Aj];exact Ak 6 1048570) ?_;rw[Bk,Bk,List.getElem?_range h];rfl
theorem Se (h:i<6):ET (iD a) (.int (i:Nat))=Ab (Bh (I8 a i)):=by
 have k:=Kx;refine G6 (Ak 6 1048570) ?_;rw[Bk,List.getElem?_range h];rfl
theorem I' (s:GW w h C k mg mb)(E:CX k A)(B:Ko w h 188 z N):QH w h A z N (exec (EZ 15) z) (zS c) (.next (zR c)):=by
 have O:=Kx;have e:Iy (Kw c)=.list ((Ap 6).flatMap λ a=>((Ap 6).filter λ b=>OQ c a b).map λ b=>o7 (a,b)):=by
  delta Iy Kw
  rw[List.map_flatMap];simp only[Bd];rfl
 refine Hc (ks:=["names","rights","both"]) (ρ1:=Bs (zS c) "both" (.aa (Iy (Kw c)))) rfl ?_;have H:((Ap 6).flatMap λ a=>((Ap 6).filter λ b=>OQ c a b).map λ b=>o7 (a,b)).length<=BX:=by
  have:(Iy (Kw c))=.list ((Kw c).map o7):=rfl;injection e with e;rw[<-e,Aj];exact Aa (Qu c) (of_decide_eq_true (_root_.id (Cx Ag)))
 rw[e]
 conv in EZ 15=>whnf
 refine DS s E B (.T2 (g2:=λ(i:Nat)=>PV.int (i:Nat)) (λ _=>Ap 6) (λ a b=>OQ c a b) (λ a b=>o7 (a,b)) (.bf rfl .int rfl (Ak (BZ 6) 93)) rfl rfl (λ a o=>?_) H) rfl;have o:=As.mp o;refine⟨[("a",.aa (.int (a:Nat))),("rights",.aa (Bh (Dw c)))],rfl,.bf rfl .int rfl (Ak (BZ 6) 93),rfl,λ b N=>?_⟩;have N:=As.mp N;refine⟨[("b",.aa (.int (b:Nat))),("a",.aa (.int (a:Nat))),("rights",.aa (Bh (Dw c)))],rfl,.bq ?_,λ _=>.ba (.cons (.aa rfl) (.cons (.aa rfl) .nil rfl) rfl) (by exact Ak 2 1048574)⟩;have e:OQ c a b=(!(a==b)&&(((Fs c a|||Fs c b)==Fs c b)&&Ag)):=by unfold OQ;rw[ES]
 rw[e];exact .all (.bu (.au (.aa rfl) (.aa rfl) rfl (A! _ _)) λ _=>.bu (.au (.am (.sub (.aa rfl) (.aa rfl) (λ _ _=>rfl) (Pr o)) (.sub (.aa rfl) (.aa rfl) (λ _ _=>rfl) (Pr N)) (Sw _ _)) (.sub (.aa rfl) (.aa rfl) (λ _ _=>rfl) (Pr N)) rfl (nH _ _)) λ _=>.nil)
theorem M? (a b:Nat):I6 .Lt (.int (a:Nat)) (.int (b:Nat))=Ab (decide (a<b)):=by
 simp only[cG];congr 1;simp
theorem H? (s:GW w h C k mg mb)(E:CX k A)(B:Ko w h 188 z N):QH w h A z N (exec (EZ 16) z) (zR c) (.next (zQ c)):=by
 have O:=Kx;refine Hc (ks:=["names","pairs"]) (ρ1:=Bs (zR c) "pairs" (.aa (.list ((Gy c).map o7)))) rfl ?_
 conv in EZ 16=>whnf
 refine DS s E B (.T (l:=Kw c) (g:=o7) (λ p=>Vt c p.1 p.2) o7 (.list (.aa rfl) rfl) rfl rfl (λ p H=>?_) (Aa (Qu c) (of_decide_eq_true (_root_.id (Cx Ag))))) rfl;obtain⟨a,b⟩:=p;have o:=UL H;refine⟨[("b",.aa (.int b)),("a",.aa (.int a)),("rights",.aa (Bh (Dw c)))],rfl,.bq ?_,λ _=>.ba (.cons (.aa rfl) (.cons (.aa rfl) .nil rfl) rfl) (Ak 2 1048574)⟩;have e:Vt c a b=(decide (a<b)||(!(Fs c a==Fs c b)||false)):=by unfold Vt;rw[Bool.or_false]
 rw[e];exact .all (.dj (.au (.aa rfl) (.aa rfl) rfl (M? _ _)) λ _=>.dj (.au (.sub (.aa rfl) (.aa rfl) (λ _ _=>rfl) (Pr o.1)) (.sub (.aa rfl) (.aa rfl) (λ _ _=>rfl) (Pr o.2.1)) rfl (A! _ _)) λ _=>.nil)
theorem H! (o:GW w h C k mg mb)(s:CX k A)(B:Ko w h 188 z N):QH w h A z N (exec (EZ 17) z) (zQ b) (.next (zP b)):=by
 have H:=Kx;have E:=O5 b;refine Hc (ks:=["names","pairs","above"]) (ρ1:=Bs (zQ b) "above" (.aa (.list ((Ap 6).map λ a=>Bh (I8 b a))))) rfl ?_
 conv in EZ 17=>whnf
 refine DS o s B (.M _ (.bf rfl .int rfl (Ak (BZ 6) 93)) rfl rfl (λ a O=>?_) (Ak 6 1048570)) rfl;refine⟨[("a",.aa (.int a)),("pairs",.aa (Iy (Gy b)))],rfl,?_⟩;have e:Bh (I8 b a)=.list (((Gy b).filter λ p=>p.1==a).map λ p=>PV.int (p.2:Nat)):=by
  delta Bh I8;rw[Bd];rfl
 rw[e];refine ED.ev<| .T (λ p=>p.1==a) (λ p=>PV.int (p.2:Nat)) (.list (.aa rfl) rfl) rfl rfl (λ p Q=>?_) (Aa E (of_decide_eq_true (_root_.id (Cx Ag))));exact⟨[("b",.aa (.int (p.2:Nat))),("c",.aa (.int (p.1:Nat))),("a",.aa (.int a))],rfl,.bq (.au (.aa rfl) (.aa rfl) rfl (nH _ _)),λ _=>.aa rfl⟩
theorem vQ (l:List Nat):I6 .Eq (Bh l) (.list [])=Ab l.isEmpty:=by
 cases l with
 |nil=>rfl
 |cons x r=>
  delta NW Bh
  have:(SM 6 (.list ((x::r).map λ n=>PV.int (n:Nat)))&&SM 6 (.list []))=Ag:=by
   show(lvlL 5 ((x::r).map λ n=>PV.int (n:Nat))&&Ag)=Ag;rw[T5 4];rfl
  refine Eq.trans (if_pos this) ?_;rfl
noncomputable def w7 (h:List Nat)(a b:Nat):Bool:=((I8 h a).filter λ c=>(I8 h c).any (·==b)).isEmpty
theorem G? (H:GW w h C k mg mb)(O:CX k A)(B:Ko w h 188 z N):QH w h A z N (exec (EZ 18) z) (zP d) (.next (zO d)):=by
 have W:=Kx;have Z:=O5 d;have e:Hb (Oa d)=.list ((Ap 6).flatMap λ a=>((I8 d a).filter λ b=>w7 d a b).map λ b=>bH (nm a,nm b)):=by
  delta Hb Oa QO w7
  simp only[List.map_flatMap,Bd];rfl
 refine Hc (ks:=["names","pairs","nexts"]) (ρ1:=Bs (zP d) "nexts" (.aa (Hb (Oa d)))) rfl ?_;have Q:((Ap 6).flatMap λ a=>((I8 d a).filter λ b=>w7 d a b).map λ b=>bH (nm a,nm b)).length<=BX:=by
  unfold Hb at e;injection e with e;rw[<-e,Aj];rw[Aj];exact Aa (O9 d) (of_decide_eq_true (_root_.id (Cx Ag)))
 rw[e]
 conv in EZ 18=>whnf
 refine DS H O B (.T2 (g2:=λ(i:Nat)=>PV.int (i:Nat)) (λ a=>I8 d a) (λ a b=>w7 d a b) (λ a b=>bH (nm a,nm b)) (.bf rfl .int rfl (Ak _ _)) rfl rfl (λ a o=>?_) Q) rfl;have o:=As.mp o;refine⟨[("a",.aa (.int (a:Nat))),("names",.aa (Bi Gh)),("above",.aa (iD d))],rfl,.list (.sub (.aa rfl) (.aa rfl) (λ _ _=>rfl) (Se o)) rfl,rfl,λ b N=>?_⟩;have s:=(Ge.mp (IC.mp N)).2.1;refine⟨[("b",.aa (.int (b:Nat))),("a",.aa (.int (a:Nat))),("names",.aa (Bi Gh)),("above",.aa (iD d))],rfl,.bq ?_,λ _=>.ba (.cons (.sub (.aa rfl) (.aa rfl) (λ _ _=>rfl) (Ve o)) (.cons (.sub (.aa rfl) (.aa rfl) (λ _ _=>rfl) (Ve s)) .nil rfl) rfl) (Ak _ _)⟩;have V:=oO d a;refine .au ?_ (.list .nil (Ak 0 1048576)) rfl (vQ _);refine ED.ev<| .T (λ c=>(I8 d c).any (·==b)) (λ c=>PV.int (c:Nat)) (.list (.sub (.aa rfl) (.aa rfl) (λ _ _=>rfl) (Se o)) rfl) rfl rfl (λ c hc=>?_) (Aa V (of_decide_eq_true (_root_.id (Cx Ag))))
 have E:=(Ge.mp (IC.mp hc)).2.1;exact⟨[("c",.aa (.int (c:Nat))),("b",.aa (.int (b:Nat))),("above",.aa (iD d))],rfl,.bq (.cq (.aa rfl) (.bn (.sub (.aa rfl) (.aa rfl) (λ _ _=>rfl) (Se E))) rfl (.inl rfl) (W7 _ _)),λ _=>.aa rfl⟩
open MeetsSeq MeetsSeq2 MeetsSeq3 SeqRoads2
variable {n:Nat}{vs:List Ae}{t:Expr} in
class inductive FU:List Ae->List Nat->Prop
 |nil:FU [] []
 |cons (n:Nat) (t:Tok) {vs:List Ae} {ns:List Nat}:FU vs ns->FU (.int (n:Nat) t::vs) (n::ns)
theorem FU.len {b:List Ae}{a:List Nat}(h:FU b a):b.length=a.length:=by
 induction h with
 |nil=>rfl
 |cons _ _ _ k=>exact congrArg BZ k
theorem FU.get {a:List Nat}(k:FU b a):∀(i:Nat),i<a.length->∃t,b[i]? =Ab (.int ((a.getD i 0:Nat):Int) t):=by
 induction k with
 |nil=>exact λ i h=>absurd h (Hl _)
 |cons n t _ o=>
  intro i h;cases i with
  |zero=>exact⟨t,rfl⟩
  |succ i=>exact o i (DO h)
theorem LM {l:List Nat}(h:i<l.length):l.drop i=l.getD i 0::l.drop (i+1):=by
 rw[Fe h,Am,AA h];rfl
noncomputable def L! :Bool->Nat
 |true=>4
 |false=>0
noncomputable def OU (g:Bool)(h k:List Nat):Bool:=if g then Ku h k else Ku k h
theorem Xr (h:a=b):OU g (a::c) (b::d)=OU g c d:=by
 subst h;cases g<;>exact if_pos (beq_self_eq_true _)
theorem eP {a b:Nat}(h:a≠b):Ku (a::c) (b::d)=decide ((b:Int)<(a:Int)):=
 (if_neg λ e=>h (BO e)).trans (BH.mpr ((JU DP).trans (BM.symm.trans decide_eq_true_iff.symm)))
theorem Pg {a b:List Nat}(o:i<=a.length)(k:i<=b.length)(q:a.length<=i\/b.length<=i):Ku (a.drop i) (b.drop i)=decide (b.length<a.length):=by
 rcases q with q |q
 ·rw[CP q];exact(decide_eq_false (El (Aa q k))).symm
 ·rw[CP (as:=b) q];cases e:a.drop i with
  |nil=>exact(decide_eq_false (El (Aa (List.drop_eq_nil_iff.mp e) k))).symm
  |cons=>exact(decide_eq_true (Ay q (Nat.lt_of_not_le λ h=>by rw[CP h] at e;contradiction))).symm
theorem RA (g:Bool)(l b:Ai)(o k:Array Ae)(n y:Nat){a c:List Nat}(u:FU o.toList a)(v:FU k.toList c)(r:Nat):
 ∀i:Nat,a.length-i<r->i<=a.length->i<=c.length->Meets (Jw.«list.__eq__.loop» ⟨[.ref l,.ref b,BS i,BS (L! g:Nat)],[]⟩)
  (λ A R s=>s.heap.get? l=Ab (I0 o n)/\s.heap.get? b=Ab (I0 k y)/\R (.ok (.ret (.bool (OU g (a.drop i) (c.drop i))))) s):=by
 have z1:o.size=a.length:=u.len;have z2:k.size=c.length:=v.len;have Wk:∀i,i<a.length->∃t,o[((i:Nat):Int).toNat]? =Ab (.int ((a.getD i 0:Nat):Int) t):=λ i H=>by
  obtain⟨t,e⟩:=u.get i H;exact⟨t,Im.symm.trans e⟩
 have f:∀i,i<c.length->∃t,k[((i:Nat):Int).toNat]? =Ab (.int ((c.getD i 0:Nat):Int) t):=λ i H=>by
  obtain⟨t,e⟩:=v.get i H;exact⟨t,Im.symm.trans e⟩
 have j:∀i,a.length<=i->o[((i:Nat):Int).toNat]? =Ah:=λ i H=>LW (Aa (Az z1) H);have m:∀i,c.length<=i->k[((i:Nat):Int).toNat]? =Ah:=λ i H=>LW (Aa (Az z2) H);induction r with
 |zero=>exact λ i hk=>absurd hk (Hl _)
 |succ r x=>
  intro i hk H V W w A R s h;obtain⟨D,G,d,I,os⟩:=s;obtain⟨O,Q,h⟩:=h;cases g with
  |true=>
   wp_walk using Bb O,Bb Q
   rcases Ms i a.length with C |N
   ·obtain⟨t1,Z⟩:=Wk i C;rcases Ms i c.length with z |E
    ·obtain⟨B,p⟩:=f i z;rw[LM C,LM z] at h;rw[Z,p];refine Ac (wpAny_eqBool_int ?_);by_cases q:a.getD i 0=c.getD i 0
     ·rw[Xr q] at h;rw[show(((a.getD i 0:Nat):Int)==((c.getD i 0:Nat):Int))=Ag by rw[q];exact beq_self_eq_true _]
      wp_walk
      exact⟨plainId_quiet Gz _,Gq entry_eq_loop (by
       rw[IE Gz _];exact x (i+1) (Ao (FE C (CH i)) (A7 hk)) C z W w A R _ ⟨O,Q,h⟩)⟩
     ·rw[show(((a.getD i 0:Nat):Int)==((c.getD i 0:Nat):Int))=Au from beq_eq_false_iff_ne.mpr λ e=>q (JB e)];rw[show OU Ag (_::_) (_::_)=_ from eP q] at h
      wp_walk using Bb O,Bb Q
      rw[Z,p];refine Ac (P.gt_int ?_)
      wp_walk
      exact h
    ·rw[show OU Ag _ _=_ from Pg H V (.inr E),<-z1,<-z2] at h;rw[Z,m i E]
     wp_walk using Bb O,Bb Q
     exact h
   ·rw[show OU Ag _ _=_ from Pg H V (.inl N),<-z1,<-z2] at h;rw[j i N]
    wp_walk using Bb O,Bb Q
    exact h
  |false=>
   wp_walk using Bb O,Bb Q
   rcases Ms i a.length with C |N
   ·obtain⟨t1,Z⟩:=Wk i C;rcases Ms i c.length with z |E
    ·obtain⟨B,p⟩:=f i z;rw[LM C,LM z] at h;rw[Z,p];refine Ac (wpAny_eqBool_int ?_);by_cases q:a.getD i 0=c.getD i 0
     ·rw[Xr q] at h;rw[show(((a.getD i 0:Nat):Int)==((c.getD i 0:Nat):Int))=Ag by rw[q];exact beq_self_eq_true _]
      wp_walk
      exact⟨plainId_quiet Gz _,Gq entry_eq_loop (by
       rw[IE Gz _];exact x (i+1) (Ao (FE C (CH i)) (A7 hk)) C z W w A R _ ⟨O,Q,h⟩)⟩
     ·rw[show(((a.getD i 0:Nat):Int)==((c.getD i 0:Nat):Int))=Au from beq_eq_false_iff_ne.mpr λ e=>q (JB e)];rw[show OU Au (_::_) (_::_)=_ from eP λ e=>q e.symm] at h
      wp_walk using Bb O,Bb Q
      rw[Z,p];refine Ac (P.lt_int ?_)
      wp_walk
      exact h
    ·rw[show OU Au _ _=_ from Pg V H (.inl E),<-z1,<-z2] at h;rw[Z,m i E]
     wp_walk using Bb O,Bb Q
     exact h
   ·rw[show OU Au _ _=_ from Pg V H (.inr N),<-z1,<-z2] at h;rw[j i N]
    wp_walk using Bb O,Bb Q
    exact h
theorem PQ (g:Bool)(l b:Ai)(o k:Array Ae)(n H:Nat)(N:FU o.toList a)(O:FU k.toList c):
 Meets ((if g then Jw.«list.__gt__» else Jw.«list.__lt__») ⟨[.ref l,.ref b],[]⟩)
  (λ A R s=>s.heap.get? l=Ab (I0 o n)/\s.heap.get? b=Ab (I0 k H)/\R (.ok (.ret (.bool (OU g a c)))) s):=by
 intro z w A R s h;obtain⟨Q,V,d,W,os⟩:=s;obtain⟨C,E,h⟩:=h;have Z:=AutoSeq1.sub_list_list;cases g with
 |true=>
  rw[if_pos (rfl:Ag=Ag)]
  wp_walk using Bb C,Bb E
  exact⟨plainId_quiet Gz _,Gq entry_eq_loop (by
   rw[IE Gz _];exact RA Ag l b o k n H N O _ 0 (CH _) (AY _) (AY _) z w A R _ ⟨C,E,h⟩)⟩
 |false=>
  rw[if_neg CQ]
  wp_walk using Bb C,Bb E
  exact⟨plainId_quiet Gz _,Gq entry_eq_loop (by
   rw[IE Gz _];exact RA Au l b o k n H N O _ 0 (CH _) (AY _) (AY _) z w A R _ ⟨C,E,h⟩)⟩
theorem Yr (g:Bool){c d:Array Ae}(k:s.heap.get? a=Ab (I0 c n))(o:s.heap.get? b=Ab (I0 d m))(z:FU c.toList e)(C:FU d.toList f)
 (H:A.units<I7) (N:Q (.bool (OU g e f)) s):Av (model i w) A (EN (if g then .Gt else .Lt) (.ref a) (.ref b)) Q E s:=by
 have h:s.TypeIs (.ref a) "list":=⟨_,k,rfl⟩;have O:s.TypeIs (.ref b) "list":=⟨_,o,rfl⟩;cases g with
 |true=>exact wpAny_richCompare_same_or (op:=.Gt) h O F.slot_list_gt (Ie F.slot_list_gt h F.entry_list_gt (F.args_list_gt_2 _ _) (PQ Ag a b c d n m z C) ⟨k,o,nofun,N⟩) (.inr H)
 |false=>exact wpAny_richCompare_same_or (op:=.Lt) h O F.slot_list_lt (Ie F.slot_list_lt h F.entry_list_lt (F.args_list_lt_2 _ _) (PQ Au a b c d n m z C) ⟨k,o,nofun,N⟩) (.inr H)
theorem RpL.io {c:List Nat}:∀{k:List Ae},RpL W X h k (c.map λ n=>.int (n:Nat))->FU k c:=by
 induction c with
 |nil=>intro k r;cases r;exact .nil
 |cons n c o=>
  intro k r;cases r with
  |cons a b=>
   obtain⟨t,rfl⟩:=a.aj;exact .cons n t (o b)
section
theorem Dc.iw (g:Bool)(h:Dc C V O l (Bh d))(o:Dc C V O r (Bh e))(z:K7 r=Ag):Dc C V O (.Compare l [if g then .Gt else .Lt] [r] p) (.bool (OU g d e)):=
 λ c=>.mk λ Q E s S=>wpAny_Compare1 ((h c).bl S λ v s S _ A=>(o c).bl S λ w s S k rw=>by
  obtain⟨a,f,n,rfl,H,i,z1,N⟩:=(A.ae k).aj;obtain⟨b,j,m,rfl,W,q,z2,Z⟩:=rw.aj;exact Yr g H W N.io Z.io (Ao (Ay (AR _ _) c.hA.units) (AM rfl)) (S.out (.bool _))) (Iz z)
end
section
theorem MW.al (x:MW h f i l m j)(w:Jl h H):MW H f i l m j:=by
 obtain⟨s,k,z,A,C,g,c,t⟩:=x;refine⟨s,k,z,A,C,w _ _ g (by simp) (by simp) (λ _ q=>by contradiction),?_,t⟩;obtain⟨c,o,E,t,a,b,hc,d,e⟩:=c;exact⟨c,o,E,t,a,w _ _ b (by rw[hc];simp) (by rw[hc];simp) (λ N q=>by rw[d] at q;cases q),hc,d,e⟩
structure KH (W:BV)(h:AS)(X:List Ai)(K cc f:Ai)(body:Expr)(lsc:Bf)(ps:List Str)(bk:List (Str×Ai)):Prop where
 jk:XF h K cc f
 obj:MW h f body lsc ps bk
 ccX:cc∉X
 c0:W.h0.get? cc=Ah
theorem KH.bj {f K d:Ai}{b:List (Str×Ai)}{e:List Str}{c:Bf}{a:Expr}(x:KH W h X K d f a c e b)(St:Lr W (Ea V z) h H)(F:FI W V z Z X h O)(E:DW z h):KH W H X K d f a c e b:=by
 have C:=St.al F E;obtain⟨⟨N,s,Q,k,st,g,i⟩,A,w,j⟩:=x;obtain⟨o,l,m⟩:=i;exact⟨⟨N,s,Q,k,st,g.al C,o,St.keep d o (λ q=>w (F.br q)) l,m⟩,A.al C,w,j⟩
theorem KH.cz {f K n:Ai}{l:Pos}{j:List Str}{d:Bf}{e:D8}{m:A5}{c:Expr}(x:KH W h X K n f c d j (GQ z d.names []))(A:EY W C k mg mb)(L:Mw W mg V z O e c d l j m)(F:FI W V z Z X h O)(s:j.length=2)(o:W.h0.NoLimit){i:List Str}{g:Str->Str->Int}
 (hN:∀a∈i,A9 a=Ag/\a.length<=BX) (w:∀a∈i,∀b∈i,Dc C d (j.zip [.aa (.str a),.aa (.str b)]++m) c (.int (g a b))):EQ W (k+1) h K (Mm i g):=
 x.jk.cz x.c0 (SO A ((L.ok F x.obj).2 [] λ a q=>nomatch q) s o hN w)
theorem dH {y:Nat}{v u D G:Pos}{l:List Str}{e:Bf}{i:D8}{t:A5}{c:Expr}(Gk:EY W C k mg mb)(hA:CX (k+4) A)(B:XB W V z N)(S:XS W V z N Z X s O){m:Nat}{r:GE}(CT:UV W mg mb r y m)(a6:mg "cmp_to_key"=Ab (.ref m))(a7:∃o fd,W.h0.get? m=Ab o/\o.data=.func fd/\o.cls≠.type "frame"/\o.cls≠.none)(a0:W.h0.NoLimit)
 {j:Pos} (L:Mw W mg V z O i c e j l t) (a8:l.length=2) {n:List Str} {g:Str->Str->Int} {x:Str}
 (hN:∀a∈n,A9 a=Ag/\a.length<=BX) (a9:∀a∈n,∀b∈n,Dc C e (l.zip [.aa (.str a),.aa (.str b)]++t) c (.int (g a b))) (hx:A3 V x=Ag) (g2:CW V "cmp_to_key"=Ag)
  {p:FB->Aq->Prop} (hQ:∀h' tk K cc f,XS W V z N Z X {s with heap:=h',toks:=tk} (Bs O x (.av (.ref K)))->D7 V z Z X s.heap h'->s.toks<=tk->KH W h' X K cc f c e l (GQ z e.names [])->p .next {s with heap:=h',toks:=tk}):
 Av W.M A (exec (.Assign [.Name x u] (.Call (.Name "cmp_to_key" D) [.Lambda i c e j] [] G) v) z) p E s:=by
 obtain⟨o,fd,ho,hd,b0,b1⟩:=a7;refine Cz (t:=.Name x u) rfl rfl rfl (B3 (CF Gk S.F (S.gd B) g2 (.inl a6) ?_));refine Dm (es:=[.Lambda i c e j]) rfl ?_;refine Ci (o:=o) (fd:=fd) (Be (AE (W0 Gk L S.F (S.gd B) λ a1 U f w M hf lo=>A6 ⟨⟨((S.gd B).ao.trans w).keep ho b0 b1,hd⟩,?_⟩)));have h:=S.ae w M;have cf:=SO Gk ((L.ok h.F lo).2 [] λ a q=>nomatch q) a8 a0 hN a9;refine CT.ke A {s with heap:=a1,toks:=U} k _ f _ (hA.ai (CK (AR k 3))) (h.gd B) cf _ _ λ vK R H Q T hK=>?_;obtain⟨K,cc,rfl,b2,km,a2,_⟩:=hK;have I:XS W V z N Z X {s with heap:=R,toks:=H} O:=h.ae (tk:=H) Q T;have kh:KH W R X K cc f c e l (GQ z e.names []):=⟨km,lo.al Q.al,λ q=>DJ a2 (h.F.an cc q) rfl,BA.bh (h.gd B).ao a2⟩;refine I.fg B (x:=x) (sl:=.av (.ref K)) hx rfl (λ d q=>nomatch q) λ a3 Y a4 J a5=>?_;exact hQ a3 Y K cc f a4 ((w.trans Q).ap.trans (J.ap λ a ha=>S.F.br ha)) (Aa M (Aa T a5)) (kh.bj J I.F I.fc)
theorem Wg {a:Pos}{b:Str}{K:Ai}{args:List (Bool×Sem Ae)}
 (w:args.any (·.1)=Au)
 (H:Av W.M A (evalArgs (.ref K) Ag args []) (λ z h=>z.kw=[]/\wP h.heap K b/\Av W.M A (call (.ref K) z.pos) Q E h) E s):
 Av W.M A (callWith a (.ref K) [] args []) Q E s:=by
 unfold callWith;refine Ac (Br (DH H (λ z h k=>?_) λ _ _ x=>x));obtain⟨C,N,hc⟩:=k;obtain⟨o,O,g,c,d,_⟩:=N;obtain⟨V,Z,e,t,os⟩:=h;obtain⟨m,f,i,j⟩:=o;have d:i=.cls O:=d;subst c;subst d;have n:=tc_lookup;have p:(⟨V,Z,e,t,os⟩:Aq).TypeIs (.ref K) "type":=⟨_,g,rfl⟩;refine Ac (AZ ?_);unfold keeperOf specialOf
 repeat (any_goals (first |assumption |with_reducible refine GO g ?_ |with_reducible refine wpAny_load' g ?_ |wp_step))
 rw[if_pos (by rfl),w,C];exact Ac (DH hc (λ r q l=>Ac (Br (wpAny_point (Ar l)))) λ _ _ x=>x)
end
section
theorem OH {g:Pos}(B:XB W V z N)(S:XS W V z N Z X s O)(R:A.handled=Ah){c:Env->Option (Ae->Sem Unit)->Sem Ae}(Y:∀z,eval e z=c z Ah)(h2:∀z u,evalThenUse e z u=do let _ <-c z (Ab u))(hw:Dk [.Name x q] e g.line z=pure b)(T:A3 V x=Ag)
 {P:Ai->Ai->AS->PV->Prop}
 (run:∀(t:Option (Ae->Sem Unit))(f:I9)(E:I9),(∀D C H y m d,s.heap.get? D=Ah->s.heap.get? C=Ah->BA W s.heap H->s.toks<=y->H.Ns C m->Rp W (C::X) H (.ref D) d->P D C H d->Jz W.M A E t f (.ref D) C (.ok .next) {s with heap:=H,toks:=y})->Av W.M A (c z t) f E s)
 {f:FB->Aq->Prop} (U:∀D C H d w k,s.heap.get? C=Ah->BA W s.heap H->P D C H d->(∀b o,H.get? b=Ab o->b≠C->¬Ea V z b->w.get? b=Ab o)->XS W V z N Z X {s with heap:=w,toks:=k} (Bs O x (.aa d))->D7 V z Z X s.heap w->s.toks<=k->f .next {s with heap:=w,toks:=k}):
 Av W.M A (exec (.Assign [.Name x q] e g) z) f E s:=by
 cases b with
 |false=>
  refine Cz rfl hw rfl ?_;rw[Y];refine run Ah _ _ λ D C H y m d hD v Q l G r p=>⟨m,G,λ a0 I=>?_⟩;have n:=Q.az v (λ o vs ho hd=>by
   obtain⟨o',es,ep,J,L,_⟩:=G;obtain rfl:=A4 ho J;cases hd.symm.trans L) I
  refine GR R B (S.ae n l) (HB T) ((r.az I Ad).ai λ a M=>Af _ M) λ w k i St j=>?_;exact U D C H d w k v Q p (λ b o e N hw=>St.keep b o hw ((I.2 b N).trans e)) i (n.ap.trans (St.ap λ a M=>S.F.br M)) (Aa l j)
 |true=>
  rw[arm_exec_Assign];refine Ac (AZ (Ac (EG hw (KB (P3 (Ac ?_))))));rw[h2];exact Ac (DH (run _ (λ _ s'=>f .next s') E λ D C H y m d hD v Q l G r p=>Q6 B S R (HB T) (λ w k kp i kd j=>U D C H d w k v Q p kp i kd j) v Q l G r) (λ _ _ h=>Ar (Ar h)) λ _ _ x=>x)
theorem qU (F:FI a V z Z X h O)(C:DW z h)(e:h.get? b=Ab o)(E:o.cls≠.type "frame")(H:∀s,o.data≠.cell s):¬Ea V z b:=λ q=>by
 rcases q with rfl |⟨x,N,w⟩
 ·obtain⟨Q,d,f,k,hc,_⟩:=C;obtain rfl:=A4 e k;exact E hc
 ·obtain⟨c,s,W,⟨Q,k,A⟩,_⟩:=F.cell x (.inl N);obtain rfl:=A4 w W;obtain rfl:=A4 e k;exact H s A
theorem W4 (S:XS W V z N Z X s O){a:AS}(C:s.heap.get? d=Ah)(h:BA W s.heap H)(E:∀b o,H.get? b=Ab o->b≠d->¬Ea V z b->a.get? b=Ab o):
 Jl s.heap a/\∀c k,s.heap.IsCell c k->c∉X->a.IsCell c k:=by
 refine⟨λ b o e Q g j=>E b o (h.keep e Q g) (λ q=>by subst q;exact Dn C e) (qU S.F S.fc e Q j),λ c k i hc=>?_⟩;obtain⟨f,w,A⟩:=GU h i;obtain⟨o,l,_⟩:=i;exact⟨f,E c f w (λ q=>by subst q;exact Dn C l) (λ q=>hc (S.F.br q)),A⟩
theorem KH.keep {f K:Ai}{b:List (Str×Ai)}{g:List Str}{d:Bf}{e:Ai}{a:Expr}(x:KH W h X K e f a d g b)(w:Jl h H/\∀c A,h.IsCell c A->c∉X->H.IsCell c A):KH W H X K e f a d g b:=by
 obtain⟨⟨C,o,E,k,st,N,i⟩,z,s,O⟩:=x;exact⟨⟨C,o,E,k,st,N.al w.1,w.2 _ _ i s⟩,z.al w.1,s,O⟩
variable {a:Ai}{i n:Nat}{r:List Bq}{t:Expr} in
class inductive Lw (X:List Ai) (h:AS) (K:Ai):List Str->List Ai->Prop
 |nil:Lw X h K [] []
 |cons {n:Str} {t:Tok} {i:Ai} {ns:List Str} {is:List Ai} (a:i∉X) (e:EC h i K (.str n t)) (r:Lw X h K ns is):Lw X h K (n::ns) (i::is)
theorem Lw.bi {Y:List Ai}{K:Ai}{c:List Str}{d:List Ai}(x:Lw X h K c d)(hk:∀b o,h.get? b=Ab o->b∉X->(o.cls≠.type "frame"/\o.cls≠.none)->H.get? b=Ab o/\b∉Y):Lw Y H K c d:=by
 induction x with
 |nil=>exact .nil
 |cons a e r k=>
  obtain⟨s,e⟩:=e;have:=hk _ _ e a ⟨by simp,by simp⟩;exact .cons this.2 ⟨s,this.1⟩ k
theorem Lw.len {K:Ai}{a:List Str}{b:List Ai}(x:Lw X h K a b):a.length=b.length:=by
 induction x with
 |nil=>rfl
 |cons _ _ _ k=>exact congrArg BZ k
theorem Lw.ek {K:Ai}{b:List Str}{c:List Ai}{n:Str}{t:Tok}{i:Ai}(x:Lw X h K b c)(a:i∉X)(e:EC h i K (.str n t)):Lw X h K (b++[n]) (c++[i]):=by
 induction x with
 |nil=>exact .cons a e .nil
 |cons k o r s=>exact .cons k o s
noncomputable def Jm (h:List Str)(k:List Ai):List (Str×PV):=Ju (λ n i=>(n,PV.obj (.ref i))) h k
noncomputable def tQ (K:Ai)(s:BV)(D:Ai)(X:List Ai)(h:AS)(k:List Str):Prop:=∃o,Lw X h K k o/\Wt s D X h (Jm k o)
theorem zN {K:Ai}(D:Ai):ZA D (tQ K W D) where
 bi:=λ x hk k=>by obtain⟨h,r,a⟩:=x;exact⟨h,r.bi hk,(tC D).bi a hk k⟩
 obj:=λ x=>by obtain⟨h,r,a⟩:=x;exact(tC D).obj a
end
section
theorem Q5 {a:List Str}{b:List Ai}(h:a.length=b.length)(n:Str)(i:Ai):Jm (a++[n]) (b++[i])=Jm a b++[(n,PV.obj (.ref i))]:=by
 unfold Jm;rw[List.zipWith_append h];rfl
theorem Ts {a:List Str}{b:List Ai}(h:a.length=b.length):(Jm a b).length=a.length:=by
 unfold Jm;rw[List.length_zipWith,h,Nat.min_self]
theorem sQ {n:Nat}{l p g j:Pos}{f:Str}{K:Ai}{L:KO C V Str}(M:L.Acc=tQ K L.W L.D){d:Ae->Ae->Option Int}(R:EQ L.W n L.hb K d)(W:CX (n+2) L.A)(h:L.W.h0.NoLimit){x a:Str}(S:O.lookup x=Ab (.aa (.str a)))(hk:O.lookup f=Ab (.av (.ref K))):
 L.Em (Lm (.Name x l) (.Call (.Name f p) [.Name x g] [] j)) O a:=λ s0 i T s c hz Q E k=>by
 refine Ac (c.F.name S λ v rk=>Ac (Br (B3 (c.F.av hk ?_))));rw[Bj j L.ah [.Name x g] rfl];obtain⟨m,md,ka⟩:=(R.ae c.le).ty;refine Wg rfl (Be (AE (c.F.name S λ v2 Z=>A6 ⟨rfl,ka.cls,?_⟩)));obtain⟨t,rfl,_⟩:=rk.aj;obtain⟨t2,rfl,_⟩:=Z.aj;refine(R.ae c.le).iq W c.gd h _ _ _ λ r w u z A B=>?_;obtain⟨y,rfl,hy,ki⟩:=B;have U:=c.dq z A;have Y:=U.ck;simp only[M] at Y;refine Jr λ gg kk=>?_;obtain⟨D,N,G,hD,hq,B⟩:=Y;refine kk ?_;have a1:G.length=(Zd (Jm T D)).length:=by simpa using congrArg BP hq
 have I:=MO (Jm T D);simp only[Ts N.len] at I;have hb:=FR;refine Ac (AZ (Br (wpAny_dictSet_pairs (knd:=L.W.K) (k:=a) (by exact beq_self_eq_true _) hD (λ a0 hm J=>k _ (U.own J (by obtain⟨o,_,_,ho,_⟩:=hm;exact⟨o,ho⟩) (Bo _) ?_)) (by omega))));have H:=LA (k:=a) hq B (Rp.obj (W:=L.W) (X:=L.I::L.X) (h:=w) (.ref y));rw[M];have DX:=Af L.I (L.ZX _ L.DZ);refine⟨D++[y],(N.ek (λ q=>DJ hy (c.F.an y q) rfl) ki).bi λ b o e n _=>⟨(J.2 b λ q=>n (q▸DX)).trans e,n⟩,_,hm,?_,?_⟩
 ·rw[Q5 N.len,Ki];exact H.1
 ·rw[Q5 N.len,Ki];exact H.2.az J DX
theorem gH:∀(l k:List (Str×PV)),((k++l).map (·.1)).Nodup->l.foldl (λ k p=>E7 k p.1 p.2) k=k++l:=by
 intro l;induction l with
 |nil=>intro k _;rw[DV];rfl
 |cons p r o=>
  intro k h;have e:E7 k p.1 p.2=k++[p]:=by
   unfold E7;rw[if_neg];intro q;obtain⟨e,s,w⟩:=B8.mp q;rw[Dx,HW] at h;exact h.2.2 e.1 (DR s) p.1 (DR Ad) (of_decide_eq_true w)
  show r.foldl _ (E7 k p.1 p.2)=_;rw[e,o (k++[p]) (by rw[BQ];exact h),BQ];rfl
theorem XK {a:List Str}{b:List Ai}(h:a.length=b.length):(Jm a b).map (·.1)=a:=by
 unfold Jm;induction a generalizing b with
 |nil=>rfl
 |cons n a k=>
  cases b with
  |nil=>cases h
  |cons i b=>exact congrArg (n::·) (k (Hk h))
theorem Yz {n:Nat}{J T U Y p5 p6 p7 u:Pos}{i y:Str}{f:Bf}{K:Ai}(Gk:EY W C (n+2) mg mb)(hA:CX (n+2) A)(B:XB W V z N)(S:XS W V z N Z X s O){v:Ae->Ae->Option Int}(KL:EQ W n s.heap K v)(a1:W.h0.NoLimit){x t:Str}{g:List Str}(hn:g.Nodup)(hz:g.length<=BX)
 (hf:O.lookup t=Ab (.aa (.list (g.map .str)))) (hk:(Bp f O).lookup i=Ab (.av (.ref K))) (a5:i≠y) (hy:(Bp f O).lookup y=Ah) (a6:A3 f y=Ag) (hx:A3 V x=Ag) (a7:Eg V f=Ag) {I:Pos} {b:Bool}
 (hw:Dk [.Name x I] (.DictComp (.Name y J) (.Call (.Name i T) [.Name y U] [] Y) [⟨.Name y p5,.Name t p6,[],0⟩] f p7) u.line z=pure b)
 {j:FB->Aq->Prop} (hQ:∀Q k w,Q.length=g.length->Lw X k K g Q->(Jl s.heap k/\∀c ov,s.heap.IsCell c ov->c∉X->k.IsCell c ov)->XS W V z N Z X {s with heap:=k,toks:=w} (Bs O x (.aa (.dict (Jm g Q))))->D7 V z Z X s.heap k->s.toks<=w->j .next {s with heap:=k,toks:=w}):
 Av W.M A (exec (.Assign [.Name x I] (.DictComp (.Name y J) (.Call (.Name i T) [.Name y U] [] Y) [⟨.Name y p5,.Name t p6,[],0⟩] f p7) u) z) j E s:=by
 have G:=S.gd B;refine OH B S hA.handled (λ _=>rfl) (λ _ _=>rfl) hw hx
  (P:=λ D a4 h' d=>∃Q,Lw (a4::X) h' K g Q/\d=.dict (Jm g Q)) (λ b2 j E hQ=>?_) λ D a4 h' d k w hV a0 p kp a2 kd a3=>?_
 ·refine Ln ⟨W,A,z,Z,X,_,mg,mb,Gk,hA⟩ (Kj (.Name y J) (.Call (.Name i T) [.Name y U] [] Y) _ f p7) rfl (Acc:=tQ K) (λ W D=>zN D) rfl (λ M A s j E hq=>B2 hq)
   (λ W D X h e=>⟨[],.nil,[],⟨_,#[],0,e,⟨rfl,rfl,rfl⟩,rfl,λ _ he=>by simp at he,Pairs.nil,List.nodup_nil⟩,rfl,.nil⟩) a7 (rs:=g) (.list (.aa hf) rfl) (λ L hL a8 lk s' R c hR=>?_) S.F G λ D a4 h' tk m hD hV a9 b0 a0 l b1 ac=>?_
  ·refine L.dz (Kj ..) rfl rfl (T:=λ _ ok=>ok=Ag) (P:=λ H a=>H.lookup y=Ab (.aa (.str a))/\H.lookup i=Ab (.av (.ref K))) (λ H ok q s F G _=>by subst q;exact λ j E hq=>Ar (hq _ _ _ (.refl _) (An _) rfl))
    (λ H d q=>sQ hL (lk (λ W A h=>EQ W n h K v) KL) (lk (λ W A h=>CX (n+2) A) hA) (lk (λ W A h=>W.h0.NoLimit) a1) q.1 q.2) (a8▸?_) c (Aa (Az (Cs _)) hz) hR
   have:=pP.of (l:=g) (t:=.Name y p5) (T:=λ _ ok=>ok=Ag) (P:=λ H a=>H.lookup y=Ab (.aa (.str a))/\H.lookup i=Ab (.av (.ref K))) (by show((Bp f O).lookup y).isNone&&Ag=Ag;rw[hy];rfl)
    λ a ha=>⟨(y,.aa (.str a))::Bp f O,if_pos a6,rfl,λ _=>⟨AC,(AI a5).trans hk⟩⟩
   rwa[Jk.mpr λ _ _=>rfl,List.map_id'] at this
  ·obtain⟨Q,ir,b3,e,q,r⟩:=ac;have ed:Zd (Jm g Q)=Jm g Q:=gH (Jm g Q) [] (by simp only[DU,XK ir.len];exact hn);rw[ed] at q r;exact hQ D a4 h' tk m (.dict (Jm g Q)) hD hV a0 l b1 (.dict e (λ q=>(Al.mp q).elim a9 b0) (SE Gk G hD) (Aa (Az (by have:=congrArg BP q;simpa[Ts ir.len] using this)) hz) q r) ⟨Q,ir,rfl⟩
 ·obtain⟨Q,ir,rfl⟩:=p;refine hQ Q k w ir.len.symm (ir.bi λ b o e nb hs=>⟨kp b o e (λ q=>nb (q▸Ad)) (λ q=>nb (Af _ (S.F.br q))),λ q=>nb (Af _ q)⟩) (W4 S hV a0 kp) a2 kd a3
end
section
variable {β:Type}
theorem KO.gz {L:KO C V β}(o:∀s,FI L.W V L.ah (L.I::L.Z) (L.I::L.X) s.heap O->Gd L.W s->BA L.W L.hb s.heap->Dp L.W L.A (isTrue e L.ah (eval e L.ah)) s λ h _=>h=b):L.fy [e] O b:=λ s F G H Q E w=>by
 rw[EF];refine Ac (Ac (o s F G H _ _ λ h z A k l e=>Ar (Ar (w _ _ _ k l e))))
theorem mL {n:Nat}{l p q t u B D:Pos}{d:List (Str×PV)}{c y:Str}{K:Ai}{L:KO C V β}{e:Ae->Ae->Option Int}(Y:EQ L.W n L.hb K e)(R:CX (n+2) L.A)(W:L.W.h0.NoLimit){x a b:Str}{i j:Ai}{f g:Tok}{m:Int}
 (hk:O.lookup c=Ab (.aa (.dict d))) (hx:O.lookup x=Ab (.aa (.str a))) (hy:O.lookup y=Ab (.aa (.str b))) (sa:ET (.dict d) (.str a)=Ab (.obj (.ref i))) (sb:ET (.dict d) (.str b)=Ab (.obj (.ref j)))
 (ia:EC L.hb i K (.str a f)) (ib:EC L.hb j K (.str b g)) (hm:e (.str a f) (.str b g)=Ab m):
 L.fy [.Compare (.Subscript (.Name c l) (.Name x p) q) [.Gt] [.Subscript (.Name c t) (.Name y u) B] D] O (decide (m>0)):=KO.gz λ s F G H Q E hQ=>by
 have e1:Dc C V O (.Subscript (.Name c l) (.Name x p) q) (.obj (.ref i)):=.sub (b:=.dict d) (.aa hk) (.aa hx) (λ _ _=>rfl) sa;have e2:Dc C V O (.Subscript (.Name c t) (.Name y u) B) (.obj (.ref j)):=.sub (b:=.dict d) (.aa hk) (.aa hy) (λ _ _=>rfl) sb;refine DA (e1 (L.pt O) s F G _ _ λ v Z A h k rv=>e2 (L.pt O) {s with heap:=Z,toks:=A} (F.ae h) (G.step h k) _ _ λ w U S o z rw=>?_) (Iz rfl);have e3:v=.ref i:=rv.aj;have e4:w=.ref j:=rw.aj;subst e3;subst e4;have T:=(H.trans h).trans o;exact(Y.ae T).gt R ((G.step h k).step o z) W (ia.al T.al) (ib.al T.al) rfl rfl hm _ _ λ r I N J M er=>by
  subst er;exact CA (hQ _ I N ((h.trans o).trans J) (Aa k (Aa z M)) rfl)
theorem Oy (c:Pt C V O){v:Type}{l:List v}{g:v->PV}{q:v->Bool}{f:v->PV}{T:A5->Bool->Prop}(N:OK C V O y (l.map g))(S:Eg V b=Ag)(U:(FN t).all (λ x=>((Bp b O).lookup x).isNone)=Ag)(F:FI c.W V c.ah c.Z c.X s.heap O)(G:Gd c.W s)
 (Y:∀L:KO C b PV,(∀F:BV->Dj->AS->Prop,F c.W c.A s.heap->F L.W L.A L.hb)->∀h J,T h J->L.fy i h J)
 (z:∀a∈l,∃h,Hf b t (g a) (Bp b O)=Ab h/\T h (q a)/\(q a=Ag->Dc C b h j (f a))) (hz:l.length<=BX) {u:Option (Ae->Sem Unit)}
 (hQ:∀D k o H m,s.heap.get? D=Ah->s.heap.get? k=Ah->BA c.W s.heap o->s.toks<=H->o.Ns k m->Rp c.W (k::c.X) o (.ref D) (.list ((l.filter q).map f))->Jz c.W.M c.A E u Q (.ref D) k (.ok .next) {s with heap:=o,toks:=H}):
 Av c.W.M c.A (Mk (.ListComp j [⟨t,y,i,0⟩] b p) b c.ah (firstIterPos [⟨t,y,i,0⟩] p) (newList []) Au (eval y c.ah) u) Q E s:=by
 have w:=Aj f▸Aa (AW q l) hz;refine Ln c (GP j _ b p) rfl (Acc:=Zz) (λ W D=>wJ D) rfl (λ M A s Q E hq=>B2 hq) (λ W D X z e=>⟨#[],0,e,.nil⟩) (rs:=(l.filter q).map f) S N (λ L hL hx lk s' R c' hR=>?_) F G λ D k o H m hD hV Z B I l hn ac=>?_
 ·exact L.dz (GP ..) rfl rfl (Y L lk) (λ h d z=>iJ.list z L hL) (hx▸.of U z) c' (Aa (Az (Cs _)) w) hR
 ·obtain⟨vs,n,e,r⟩:=ac;exact hQ D k o H m hD hV I l hn (.list e (λ q=>(Al.mp q).elim Z B) (Aa (Az r.length) w) r)
theorem Lw.find {K:Ai}{b:List Str}{c:List Ai}(x:Lw X h K b c){a:Str}(k:a∈b):∃i t,ET (.dict (Jm b c)) (.str a)=Ab (.obj (.ref i))/\EC h i K (.str a t):=by
 show ∃i t,((Jm b c).find? λ e=>decide (e.1=a)).map (·.2)=Ab (.obj (.ref i))/\_
 induction x with
 |nil=>cases k
 |@cons n t i b c z e r o=>
  by_cases q:n=a
  ·subst q;exact⟨i,t,by show(List.find? _ ((n,PV.obj (.ref i))::Jm b c)).map _=_;rw[F2 (by simp)];rfl,e⟩
  ·obtain⟨j,u,s,w⟩:=o ((Al.mp k).resolve_left λ e=>q e.symm);exact⟨j,u,by show(List.find? _ ((n,PV.obj (.ref i))::Jm b c)).map _=_;rw[EP (by simpa using q)];exact s,w⟩
theorem VJ {n:Nat}{p1 p2 p3 p4 p5 p6 p7 a3:Pos}{I y:Str}{f t:Bf}{K:Ai}(Gk:EY W C (n+2) mg mb)(hA:CX (n+2) A)(B:XB W V z N)(S:XS W V z N Z X s O){u:List Str}{is:List Ai}{g:Str->Str->Int}(KL:EQ W n s.heap K (Mm u g))(ir:Lw X s.heap K u is)(a6:W.h0.NoLimit){lx x G:Str}(hz:u.length<=BX)
 (hf:O.lookup G=Ab (.aa (.list (u.map .str)))) (b6:(Bp f O).lookup G=Ab (.aa (.list (u.map .str)))) (b7:(Bp f O).lookup x=Ah) (b8:G≠x) (s1:A3 f x=Ag) (s2:A3 t y=Ag) (a7:Eg V f=Ag) (a8:Eg f t=Ag)
 (b9:∀a,(Bp t ((x,.aa (.str a))::Bp f O)).lookup I=Ab (.aa (.dict (Jm u is)))) (c0:∀a,(Bp t ((x,.aa (.str a))::Bp f O)).lookup x=Ab (.aa (.str a))) (c1:∀a,(Bp t ((x,.aa (.str a))::Bp f O)).lookup y=Ah) (c2:I≠y) (c3:x≠y) (hx:A3 V lx=Ag)
 {p8 p9 J M R T U Y a0 a1 q0:Pos} {b:Bool}
 (hw:Dk [.Name lx q0] (.ListComp (.Name x p1) [⟨.Name x p2,.Name G p3,[.Compare (.ListComp (.Name y p4) [⟨.Name y p5,.Name G p6,[.Compare (.Subscript (.Name I p7) (.Name x p8) p9) [.Gt] [.Subscript (.Name I J) (.Name y M) R] T],0⟩] t U) [.Eq] [.List [] Y] a0],0⟩] f a1) a3.line z=pure b)
 {a2:FB->Aq->Prop} (hQ:∀k o,(Jl s.heap k/\∀c ov,s.heap.IsCell c ov->c∉X->k.IsCell c ov)->XS W V z N Z X {s with heap:=k,toks:=o} (Bs O lx (.aa (.list ((u.filter λ a=>(u.filter λ b=>decide (g a b>0)).isEmpty).map .str))))->D7 V z Z X s.heap k->s.toks<=o->a2 .next {s with heap:=k,toks:=o}):
 Av W.M A (exec (.Assign [.Name lx q0] (.ListComp (.Name x p1) [⟨.Name x p2,.Name G p3,[.Compare (.ListComp (.Name y p4) [⟨.Name y p5,.Name G p6,[.Compare (.Subscript (.Name I p7) (.Name x p8) p9) [.Gt] [.Subscript (.Name I J) (.Name y M) R] T],0⟩] t U) [.Eq] [.List [] Y] a0],0⟩] f a1) a3) z) a2 E s:=by
 refine OH B S hA.handled (λ _=>rfl) (λ _ _=>rfl) hw hx
  (P:=λ D b5 h' d=>d=.list ((u.filter λ a=>(u.filter λ b=>decide (g a b>0)).isEmpty).map .str)) (λ c7 a2 E hQ=>?_) λ D b5 h' d k o hV H p kp a9 kd b0=>by subst p;exact hQ k o (W4 S hV H kp) a9 kd b0
 refine Oy ⟨W,A,z,Z,X,_,mg,mb,Gk,hA⟩ (t:=.Name x p2)
  (T:=λ a4 ok=>∃a∈u,a4=(x,.aa (.str a))::Bp f O/\ok=(u.filter λ b=>decide (g a b>0)).isEmpty) (.list (.aa hf) rfl) a7 (by show((Bp f O).lookup x).isNone&&Ag=Ag;rw[b7];rfl) S.F (S.gd B) (λ L lk a4 ok hT=>?_)
  (λ a ha=>⟨(x,.aa (.str a))::Bp f O,if_pos s1,⟨a,ha,rfl,rfl⟩,λ _=>.aa AC⟩) hz λ D b5 h' tk m hD hV H l hn r=>hQ D b5 h' tk m _ hD hV H l hn r rfl
 obtain⟨a,ha,rfl,rfl⟩:=hT;refine KO.gz λ b1 F1 G1 H1 Q1 E1 c4=>?_;have b2:=lk (λ W A h=>CX (n+2) A) hA;have b3:=lk (λ W A h=>W.h0.NoLimit) a6;have b4:∀{i:Ai}{v:Ae},EC s.heap i K v->EC b1.heap i K v:=λ{i v} q=>(lk (λ W A h=>EC h i K v) q).al H1.al;refine DA ?_ (Iz rfl);refine Oy (L.pt ((x,.aa (.str a))::Bp f O)) (t:=.Name y p5)
  (T:=λ a4 ok=>∃b∈u,a4=(y,.aa (.str b))::Bp t ((x,.aa (.str a))::Bp f O)/\ok=decide (g a b>0)) (.list (.aa ((AI b8).trans b6)) rfl) a8 (by show((Bp t _).lookup y).isNone&&Ag=Ag;rw[c1 a];rfl) F1 G1 (λ L2 Q c8 c9 c5=>?_)
  (λ b N=>⟨(y,.aa (.str b))::Bp t ((x,.aa (.str a))::Bp f O),if_pos s2,⟨b,N,rfl,rfl⟩,λ _=>.aa AC⟩) hz λ D b5 h' tk m hD hV H l hn r=>Rl hV H l hn r λ v h1 c6 k1 l1 rv=>?_
 ·obtain⟨b,N,rfl,rfl⟩:=c5;obtain⟨i,ta,sa,ia⟩:=ir.find ha;obtain⟨j,tb,sb,ib⟩:=ir.find N;exact mL (Q (λ W A h=>EQ W n h K (Mm u g)) ((lk (λ W A h=>EQ W n h K (Mm u g)) KL).ae H1)) (Q (λ W A h=>CX (n+2) A) b2) (Q (λ W A h=>W.h0.NoLimit) b3) ((AI c2).trans (b9 a)) ((AI c3).trans (c0 a)) AC sa sb
   (Q (λ W A h=>EC h i K (.str a ta)) (b4 ia)) (Q (λ W A h=>EC h j K (.str b tb)) (b4 ib)) (if_pos ⟨ha,N⟩)
 ·have G2:=G1.step k1 l1;refine Dc.list .nil (AY _) (L.pt _) {b1 with heap:=h1,toks:=c6} (F1.ae k1) G2 _ _ λ w h2 d0 k2 l2 rw=>?_;refine Dp.of (P:=λ v' _=>v'=.bool (u.filter λ b=>decide (g a b>0)).isEmpty) (λ a2 E hQ=>Hy (op:=.Eq) (Ay (AR _ _) b2.units) (rv.ae k2) (.inl rw) (V5 _) λ a5=>hQ _ _ a5 (.refl _) rfl) _ _ λ v' h3 a5 k3 l3 e=>?_;subst e;exact CA (c4 _ h3 a5 ((k1.trans k2).trans k3) (Aa l1 (Aa l2 l3)) rfl)
end
section
theorem Z9 {n:Nat}{q e r t f:Pos}{d y:Str}{K:Ai}{c:Nat}(o:EY W C c mg mb)(w:CX (n+3) A)(F:FI W V z Z X s.heap O)(G:Gd W s){a:List Str}{g:Str->Str->Int}(H:EQ W n s.heap K (Mm a g))(h:W.h0.NoLimit)(N:O.lookup y=Ab (.aa (.list (a.map .str))))(hk:O.lookup d=Ab (.av (.ref K)))(u:a.length<7)
 {b:Nat->Nat->Bool} (x:KI a.length b) (k:∀i j,i<a.length->j<a.length->b i j=decide (g (a.getD i Ca) (a.getD j Ca)<0)) (g1:CW V "sorted"=Ag):
 Dp W A (eval (.Call (.Name "sorted" q) [.Name y e] [⟨Ab "key",.Name d r,t⟩] f) z) s λ v B=>∃p,H6 a.length b p/\Rp W X B v (.list ((p.map λ i=>a.getD i Ca).map .str)):=λ Q E D=>by
 refine wpAny_Call_Name_kw (CF o F G g1 (.inr (o.blt .sorted)) ?_);refine callWith_kw ?_;rw[Bj f z [.Name y e] rfl];refine AE (F.name N λ v I=>A6 ?_);obtain⟨l,M,m,rfl,J,R,S,L⟩:=(I).aj;refine kws_cons (F.av hk (kws_nil ?_));exact Nc w F.an G H h J L u x k D
theorem aJ (c:Pt C V O)(F:FI c.W V c.ah c.Z c.X s.heap O)(G:Gd c.W s){v:Expr}{lo a st:Option Expr}{d p:Pos}{l u t:Option Int}{R:PV->Prop}{f:PV->PV}(N:Dp c.W c.A (eval v c.ah) s λ v h=>∃b,R b/\Rp c.W c.X h v b)(W:Zs C V O lo l)(Z:Zs C V O a u)(e:Zs C V O st t)
 (h:∀b,R b->En b l u t=Ab (f b)):Dp c.W c.A (eval (.Subscript v (.Slice lo a st d) p) c.ah) s λ v h=>∃b,R b/\Rp c.W c.X h v (f b):=λ Q E g=>by
 refine Subscript_ (N _ _ λ o Y tk i j w=>?_);obtain⟨b,A,w⟩:=w
 let m:c.St [] [] (λ v h=>∃b,R b/\Rp c.W c.X h v (f b)) Q s:=⟨F,G,.nil,g⟩
 have S:=m.aq i j;exact wpAny_Slice ((W c).bl S λ n s S q x=>(Z c).bl S λ y s S B D=>(e c).bl S λ I s S J L=>
  let H:BA c.W s.heap (s.heap.push {cls:=.type "slice",data:=.fields #[n,y,I]}):=.push _ _
  let T:=S.aq H (An s.toks)
  Nd (.inl (w.ae (((q.trans B).trans J).trans H))) T.alive ⟨_,AD _ rfl,rfl,rfl⟩ x D L (h b A) v _ (N3 lo a st d _ _).choose_spec _ _ λ r z k M l6 U=>T.q r z k M l6 ⟨b,A,U⟩)
end
section
theorem YJ {n:Nat}{R T U Y q8:Pos}{J y:Str}{K:Ai}{f:Nat}(Gk:EY W C f mg mb)(hA:CX (n+3) A)(H:CX f A)(B:XB W V z N)(S:XS W V z N Z X s O){a c:List Str}{g:Str->Str->Int}(KL:EQ W n s.heap K (Mm a g))(Q:W.h0.NoLimit){l:Str}(hy:O.lookup y=Ab (.aa (.list (a.map .str))))(hk:O.lookup J=Ab (.av (.ref K)))(hn:a.length<7)
 {d:Nat->Nat->Bool} (ok:KI a.length d) (a0:∀i j,i<a.length->j<a.length->d i j=decide (g (a.getD i Ca) (a.getD j Ca)<0)) (g1:CW V "sorted"=Ag) (g2:(CW V "len"&&(O.lookup ("len":Str)).isNone)=Ag)
 (hl:O.lookup l=Ab (.aa (Bi c))) (a4:c.length<=BX) (a1:∀p,H6 a.length d p->(p.map λ i=>a.getD i Ca).take c.length=c) {L m q t u x D G:Pos} {M:List Bq}
 {I:FB->Aq->Prop} (hQ:∀h' tk,BA W s.heap h'->XS W V z N Z X {s with heap:=h',toks:=tk} O->s.toks<=tk->I .next {s with heap:=h',toks:=tk}):
 Av W.M A (exec (.If (.Compare (.Subscript (.Call (.Name "sorted" R) [.Name y T] [⟨Ab "key",.Name J U,Y⟩] q8) (.Slice Ah (Ab (.Call (.Name "len" L) [.Name l m] [] q)) Ah t) u) [.NotEq] [.Name l x] D) M [] G) z) I E s:=by
 refine KR (DA (aJ ⟨W,A,z,Z,X,f,mg,mb,Gk,H⟩ (R:=λ b=>∃p,H6 a.length d p/\b=.list ((p.map λ i=>a.getD i Ca).map .str)) (f:=λ _=>Bi c) (l:=Ah) (u:=Ab (c.length:Int)) (t:=Ah) S.F (S.gd B)
  ((Z9 Gk hA S.F (S.gd B) KL Q hy hk hn ok a0 g1).ae λ v h' _ r=>by obtain⟨p,gp,r⟩:=r;exact⟨_,⟨p,gp,rfl⟩,r⟩) .no (.int (.blt (b:=.len) (ds:=[Bi c]) g2 rfl (.cons (.aa hl) .nil rfl) (by show Ab (PV.int ((c.map PV.str).length:Nat))=_;rw[Aj]))) .no (λ b N=>?_) _ _ λ v a3 a2 h k rv=>?_) (Iz rfl))
 ·obtain⟨p,gp,rfl⟩:=N;refine(N4 _ c.length ?_).trans ?_
  ·rw[Aj,Aj,gp.1.length_eq,CJ];exact Aa (A7 hn) (by decide+kernel)
  ·skip
   rw[<-Hg,a1 p gp];rfl
 ·obtain⟨_,_,rv⟩:=rv;refine FI.name (S.F.ae h) hl λ w rw=>?_;refine Dp.of (P:=λ v' _=>v'=.bool Au) (λ I E hQ=>Hy (op:=.NotEq) (Ay (AR _ _) H.units) rv (.inl rw) (show(NW (Bi c) (Bi c)).map (!·)=Ab Au by rw[NF];rfl) λ o=>hQ _ _ o (.refl _) rfl) _ _ λ v' h3 o k3 l3 e=>?_
  subst e;refine CA (BL ?_);exact hQ h3 o (h.trans k3) (S.ae (h.trans k3) (Aa k l3)) (Aa k l3)
end
theorem K8 (h:a<6)(k:b<6)(o:nm a=nm b):a=b:=by
 exact(by decide+kernel:∀a<6,∀b<6,nm a=nm b->a=b) a h b k o
variable {r:List Bq} in
noncomputable def I5 (h:Nat)(k:List Nat):List (Str×PV):=match k with
 |[]=>[]
 |x::r=>(nm x,.int ((h+1:Nat):Int))::I5 (h+1) r
theorem Ug (h:List Nat)(n:Nat):∀k,I5 k (h++[n])=I5 k h++[(nm n,.int ((k+h.length+1:Nat):Int))]:=by
 induction h with
 |nil=>intro k;rfl
 |cons x r o=>
  intro k;show(nm x,PV.int ((k+1:Nat):Int))::I5 (k+1) (r++[n])=_;simp only[o (k+1),Ec,show k+1+r.length+1=k+(r.length+1)+1 by exact Eq.symm (Cg k (BP r+1) 1)];rfl
theorem Uh {a:List Nat}(h:∀x∈a,x<6)(o:n<6):∀k,(I5 k a).any (λ e=>decide (e.1=nm n))=a.contains n:=by
 induction a with
 |nil=>intro k;rfl
 |cons x r s=>
  intro k;show(decide (nm x=nm n)||(I5 (k+1) r).any λ e=>decide (e.1=nm n))=_;rw[s (λ y w=>h y (Af _ w)),Hm];congr 1;by_cases q:n=x
  ·subst q;simp
  ·rw[decide_eq_false λ e=>q (K8 o (h x Ad) e.symm)];exact(beq_eq_false_iff_ne.mpr q).symm
theorem RD {o:List Nat}(h:∀x∈o,x<6)(s:n<6)(w:n∈o):∀k,((I5 k o).find? λ e=>decide (e.1=nm n)).map (·.2)=Ab (.int ((k+o.idxOf n+1:Nat):Int)):=by
 induction o with
 |nil=>contradiction
 |cons x r z=>
  intro k;by_cases q:x=n
  ·subst q;rw[F2 (by exact if_pos rfl),List.idxOf_cons_self];rfl
  ·rw[EP (by simpa using λ e=>q (K8 (h x Ad) s e))];rw[z (λ y A=>h y (Af _ A)) ((Al.mp w).resolve_left λ e=>q e.symm) (k+1),List.idxOf_cons,beq_eq_false_iff_ne.mpr q,show k+1+r.idxOf n+1=k+(r.idxOf n+1)+1 by exact Eq.symm (Cg k (List.idxOf n r+1) 1)];rfl
structure iW (nl:List (Nat×Nat))(nx:Nat->Nat->Bool):Prop where
 jn:∀a b,(a,b)∈nl↔nx a b=Ag
 nd:nl.Nodup
 six:∀p∈nl,p.1<6/\p.2<6
 len:nl.length<=36
section
variable {o:List Nat}
noncomputable def Nm (h:List (Nat×Nat))(k:List Nat)(n:Nat):List (Nat×Nat):=h.filter λ p=>(p.1==n)&&!k.contains p.2
theorem VY {a:Nat->Nat->Bool}(k:iW c a):(Ap 6).filter (λ n=>!o.contains n&&(Nm c o n).isEmpty)=Ez a o:=by
 refine Cr λ n w=>?_;congr 1;rw[BH,De,AQ];unfold Nm;rw[DL];constructor
 ·intro h b z;by_cases q:a n b=Ag
  ·have:=h (n,b) ((k.jn n b).mpr q);simp only[beq_self_eq_true,Bool.true_and,CZ,Bool.not_eq_true,Mc] at this;rw[q,KQ,Bool.false_or];exact(Bool.not_eq_false _).mp (this)
  ·simp only[Bool.not_eq_true] at q;rw[q];rfl
 ·intro h p s q;rw[AG,beq_iff_eq,CZ] at q;obtain⟨rfl,q⟩:=q;have:=h p.2 (As.mpr (k.six p s).2);simp only[(k.jn p.1 p.2).mp s,KQ,Bool.false_or] at this;rw[q] at this;exact Bv this
noncomputable def PW (h:List (Nat×Nat))(k:List Nat)(n:Nat):List Int:=(h.filter λ p=>p.1==n).map λ p=>((k.idxOf p.2+1:Nat):Int)
theorem Ue {c:Nat->Nat->Bool}(w:iW d c)(N:o.Nodup)(W:∀x∈o,x<6)(E:∀b<6,c n b=Ag->b∈o):WH (PW d o n)=((D5 c o n).reverse).map λ(i:Nat)=>(i:Int):=by
 have e:(D5 c o n).reverse=((Ap o.length).filter λ i=>c n (o.getD i 6)).map (·+1):=by
  rw[<-List.map_reverse,<-List.filter_reverse,List.reverse_reverse]
 rw[e,Bd];refine(Px ?_ ?_).symm
 ·refine(List.perm_ext_iff_of_nodup ?_ ?_).mpr λ a=>?_
  ·refine List.Pairwise.map _ (λ a b h=>?_) ((L9).filter _);exact λ q=>Ct h (Hk (KZ.mp (q)))
  ·skip
   refine(Od (w.nd.filter _) λ p H q O h=>?_);have k:=Aw.mp H;have s:=Aw.mp O;have C:=E p.2 (w.six p k.1).2 ((w.jn n p.2).mp (by rw[<-beq_iff_eq.mp k.2];exact k.1));have Q:=E q.2 (w.six q s.1).2 ((w.jn n q.2).mp (by rw[<-beq_iff_eq.mp s.2];exact s.1));have V:p.2=q.2:=by
    rw[<-Ed (CY C),<-Ed (CY Q)];simp only[(Hk (KZ.mp h))]
   exact Prod.ext ((beq_iff_eq.mp k.2).trans (beq_iff_eq.mp s.2).symm) V
  ·unfold PW;rw[AF,AF];constructor
   ·rintro⟨i,z,rfl⟩;obtain⟨z,A⟩:=Aw.mp z;have z:=As.mp z;rw[Am,AA z] at A;refine⟨(n,o[i]),Aw.mpr ⟨(w.jn _ _).mpr A,by exact beq_self_eq_true _⟩,?_⟩;rw[GF N];rfl
   ·rintro⟨p,H,rfl⟩;have k:=Aw.mp H;have A:=(w.jn n p.2).mp (by rw[<-beq_iff_eq.mp k.2];exact k.1);have C:=E p.2 (w.six p k.1).2 A;refine⟨o.idxOf p.2,Aw.mpr ⟨As.mpr (CY C),?_⟩,rfl⟩;rw[Am,AA (CY C),Ed];exact A
 ·refine List.Pairwise.map _ (λ a b h=>?_) ((L9).filter _);exact ER.mpr (Bt (AX h))
theorem dC {b:Nat->Nat->Bool}(h:iW a b)(n:Nat):(PW a o n).length<=36:=by
 unfold PW;rw[Aj];exact Aa (AW _ _) h.len
end
theorem Sj {a:Type}{q:a->Bool}:∀{l:List a},l.Pairwise (λ x y=>¬(q x=Au/\q y=Ag))->l=l.filter q++l.filter λ x=>!q x:=by
 intro l;induction l with
 |nil=>
  intro _;exact rfl
 |cons x r k=>
  intro h;have⟨s,w⟩:=JT.mp h;have o:=k w;cases e:q x with
  |true=>
   rw[Ls e,Lu (by simp[e]),Ee,<-o]
  |false=>
   have n:=DL.mpr λ y z A=>s y z ⟨e,A⟩;rw[Lu (by simp[e]),Ls (by simp[e]),n,DU];simp only[n,DU] at o;rw[<-o]
section
noncomputable def rG (f:Nat->List Nat)(h:List Nat)(i j:Nat):Bool:=Ku (f (h.getD j 6)) (f (h.getD i 6))
theorem rF (f:Nat->List Nat)(k:List Nat):KI k.length (rG f k) where
 jh:=λ i j _ _ h=>SU h
 trans:=λ i j l _ _ _ o s=>by
  unfold rG at*;cases q:Ku (f (k.getD i 6)) (f (k.getD l 6)) with
  |false=>rfl
  |true=>replace o:=Eq.trans (Eq.symm (P6 q s)) o;exact Bv o
noncomputable def Lc (f:Nat->List Nat)(h:List Nat):List Nat:=h.filter λ n=>h.all λ m=>!Ku (f n) (f m)
theorem Sk {c:List Nat}{f:Nat->List Nat}{p:List Nat}(O:H6 c.length (rG f c) p):(p.map λ i=>c.getD i 6).take (Lc f c).length=Lc f c:=by
 obtain⟨w,z⟩:=O
 let q:Nat->Bool:=λ i=>c.all λ m=>!Ku (f (c.getD i 6)) (f m)
 have Q:∀i∈p,i<c.length:=λ i o=>As.mp ((w.mem_iff).mp o);have s:∀i,i<c.length->c.getD i 6∈c:=λ i o=>by rw[Am,AA o];exact Dg o
 have V:p=p.filter q++p.filter λ x=>!q x:=Sj (I3 (λ{a b} A C h=>by
  rintro⟨W,Z⟩;have k:=h.1;have E:=W;rw[List.all_eq_false] at E;obtain⟨m,d,x⟩:=E;have x:Ku (f (c.getD a 6)) (f m)=Ag:=by simpa using x
  have:=P6 x (by simpa using(AQ.mp Z m d):Ku (f (c.getD b 6)) (f m)=Au)
  replace k:=this.symm.trans k;contradiction) z)
 have e:p.filter q=(Ap c.length).filter q:=by
  refine GM (λ a b _ _ k H=>absurd k (Mu H)) ?_ (List.pairwise_lt_range.filter _) (w.filter q);refine I3 (λ{a b} A C h=>?_) (z.filter q);refine h.2.resolve_left λ x=>?_;have:=AQ.mp ((Aw.mp C)).2 _ (s a (Q a ((Aw.mp A)).1));have x:Ku (f (c.getD b 6)) (f (c.getD a 6))=Ag:=x;rw[x] at this;exact Bv this
 have g:Lc f c=((Ap c.length).filter q).map λ i=>c.getD i 6:=by
  have N:c=(Ap c.length).map λ i=>c.getD i 6:=by
   refine List.ext_getElem (by simp) λ i k H=>?_;rw[List.getElem_map,List.getElem_range,Am,AA k];rfl
  unfold Lc
  conv=>lhs;rw[N]
  refine Hi.trans ?_;congr 1;refine Cr λ i _=>?_;simp only[Function.comp,<-N];rfl
 rw[V,Dx,e,<-g];exact List.take_left
theorem Ry {a:Nat->Nat->Bool}:Hv a b=Lc (D5 a b) (Ez a b):=rfl
end
noncomputable def ZB (h:List (Nat×Nat)):List (Str×Str):=h.map λ p=>(nm p.1,nm p.2)
noncomputable def yN (h:List (Nat×Nat))(k:List Nat):A5:=[("names",.aa (Bi Gh)),("nexts",.aa (Hb (ZB h))),("labels",.own (.dict (I5 0 k)))]
noncomputable def yL (k:List (Nat×Nat))(h:List Nat):A5:=Bs (yN k h) "label" (.aa (.int ((h.length+1:Nat):Int)))
noncomputable def yF (h:List (Nat×Nat))(k:List Nat)(o:List Nat):A5:=Bs (yL h k) "free" (.aa (Bi (o.map nm)))
noncomputable def Ll (f:Nat->List Nat)(h:List Nat):List (Str×PV):=h.map λ n=>(nm n,Bh (f n))
noncomputable def yG (k:List (Nat×Nat))(o:List Nat)(h:List Nat)(f:Nat->List Nat):A5:=Bs (yF k o h) "falls" (.aa (.dict (Ll f h)))
theorem kL:Bi Gh=.list ((Ap 6).map λ i=>PV.str (nm i)):=rfl
theorem pJ (h:a<6)(k:b<6):decide (nm a=nm b)=(a==b):=by
 by_cases q:a=b
 ·subst q;simp
 ·rw[decide_eq_false λ e=>q (K8 h k e)];exact(beq_eq_false_iff_ne.mpr q).symm
theorem Rs {a:List Nat}(h:∀x∈a,x<6)(k:n<6):I6 .NotIn (.str (nm n)) (.dict (I5 0 a))=Ab (!a.contains n):=by
 show(Ab ((I5 0 a).any λ e=>decide (e.1=nm n))).map (!·)=_
 rw[Uh h k];rfl
theorem Vo {f:List PV}(h:f.length<=5):En (.list f) Ah Ah (Ab (-1))=Ab (.list f.reverse):=by
 exact Ua (P:=λ f=>En (.list f) Ah Ah (Ab (-1))=Ab (.list f.reverse)) (by kernel_rfl) (λ a=>Ua (by kernel_rfl) λ b=>Ua (by kernel_rfl) λ c=>Ua (by kernel_rfl) λ d=>Ua (by kernel_rfl) λ e=>x7 (by kernel_rfl)) f h
section
variable {o:List Nat}
theorem bU {b:Nat->Nat->Bool}(H:iW a b)(O:∀x∈o,x<6)(Q:GW w h C k mg mb)(V:CX k A)(B:Ko w h 173 z N):FY (W1 w h) A (Fa w 173).scope z N (exec (Fj.getD 0 (.Pass default)) z) (yL a o) (.next (yF a o (Ez b o))):=by
 have f:=Kx;have s:=H.len;have e:Bi ((Ez b o).map nm)=.list (((Ap 6).filter λ n=>!o.contains n&&(Nm a o n).isEmpty).map λ i=>PV.str (nm i)):=by
  rw[VY H];unfold Bi;rw[Bd];rfl
 unfold yF;rw[e]
 conv in Fj.getD _ _=>whnf
 refine DS Q V B (.T (λ n=>!o.contains n&&(Nm a o n).isEmpty) (λ i=>PV.str (nm i)) (.list (.aa (by rw[<-kL];rfl)) rfl) rfl rfl (λ n E=>?_) (by rw[CJ];exact Ak 6 1048570)) rfl;have E:=As.mp E;refine⟨[("name",.aa (.str (nm n))),("nexts",.aa (Hb (ZB a))),("labels",.own (.dict (I5 0 o)))],rfl,.bq ?_,λ _=>.aa rfl⟩;rw[(by rw[ES,List.isEmpty_map]:(!o.contains n&&(Nm a o n).isEmpty)=(!o.contains n&&(((Nm a o n).map λ(p:Nat×Nat)=>nm p.2).isEmpty&&Ag)))];refine .all (.bu (.cq (.aa rfl) (.own rfl) rfl (by simp) (Rs O E)) λ _=>.bu (.au ?_ (.list .nil (AY _)) rfl (V5 ((Nm a o n).map λ(p:Nat×Nat)=>nm p.2))) λ _=>.nil);have W:Bi ((Nm a o n).map λ p=>nm p.2)=.list ((a.filter λ p=>(p.1==n)&&!o.contains p.2).map λ p=>PV.str (nm p.2)):=by
  unfold Bi Nm;rw[Bd];rfl
 rw[W];refine ED.ev<| .T (λ p=>(p.1==n)&&!o.contains p.2) (λ p=>PV.str (nm p.2)) (.list (.aa (by rw[show(a.map λ p=>bH (nm p.1,nm p.2))=(ZB a).map bH from by unfold ZB;rw[Bd];rfl];rfl)) rfl) rfl rfl (λ p Z=>?_) (Aa s (of_decide_eq_true (_root_.id (Cx Ag))));obtain⟨c,d⟩:=H.six p Z;refine⟨[("b",.aa (.str (nm p.2))),("a",.aa (.str (nm p.1))),("name",.aa (.str (nm n))),("labels",.own (.dict (I5 0 o)))],rfl,.bq ?_,λ _=>.aa rfl⟩;rw[(by rw[ES,pJ c E]:((p.1==n)&&!o.contains p.2)=(decide (nm p.1=nm n)&&(!o.contains p.2&&Ag)))];exact .all (.bu (.au (.aa rfl) (.aa rfl) rfl rfl) λ _=>.bu (.cq (.aa rfl) (.own rfl) rfl (by simp) (Rs O d)) λ _=>.nil)
theorem X3 (h:List Int)(k:h.length<64):Q0 .sorted [.list (h.map .int)]=Ab (.list ((WH h).map .int)):=by
 show WG (h.map .int)=_;unfold WG;rw[if_pos (by rw[Aj];exact decide_eq_true k),(Ka h)];rfl
theorem fL (k:Nat->Nat->Bool)(h:List Nat)(n:Nat):(D5 k h n).length<=h.length:=by
 unfold D5;rw[Aj];exact Aa (AW _ _) (by rw[Fy,CJ];exact An _)
theorem Xe (h:Nat->Nat->Bool)(k:List Nat):(Ez h k).Nodup:=KA _ ID
theorem Vz {l:List Nat}(k:l.Nodup)(h:∀x∈l,x<6):(l.map nm).Nodup:=Od k λ x o y s e=>K8 (h x o) (h y s) e
theorem Yd {a:Nat->Nat->Bool}(s:iW b a)(j:o.Nodup)(W:∀x∈o,x<6)(l:o.length<6)(m:GW w h C k mg mb)(q:CX k A)(B:Ko w h 173 z N):FY (W1 w h) A (Fa w 173).scope z N (exec (Fj.getD 1 (.Pass default)) z) (yF b o (Ez a o)) (.next (yG b o (Ez a o) (D5 a o))):=by
 have I:=Kx;have E:=s.len;have Z:∀x∈Ez a o,x<6:=λ x r=>(HT.mp r).1;have t:(Ez a o).length<=6:=Aa (AW _ _) (by rw[CJ];exact An _);have e:Ll (D5 a o) (Ez a o)=Zd ((Ez a o).map λ n=>(nm n,Bh (D5 a o n))):=by
  refine(gH _ [] ?_).symm;rw[DU,Bd];exact Vz (Xe a o) Z
 unfold yG;rw[e]
 conv in Fj.getD _ _=>whnf
 have Q:(yF b o (Ez a o)).lookup ("free":Str)=Ab (.aa (.list ((Ez a o).map λ n=>PV.str (nm n)))):=by
  rw[show((Ez a o).map λ n=>PV.str (nm n))=((Ez a o).map nm).map PV.str from by rw[Bd];rfl];rfl
 refine DS m q B (.D nm (λ n=>Bh (D5 a o n)) (.list (.aa Q) rfl) rfl rfl (λ n c=>?_) (Aa t (of_decide_eq_true (_root_.id (Cx Ag))))) rfl;have V:=Z n c;have H:=(HT.mp c).2.2;refine⟨[("name",.aa (.str (nm n))),("nexts",.aa (Hb (ZB b))),("labels",.own (.dict (I5 0 o)))],rfl,.aa rfl,?_⟩;have u:=dC (o:=o) s n;have O:=X3 (PW b o n) (Ay u (by decide));rw[(Ue s j W H)] at O;have v:En (.list (((D5 a o n).reverse.map λ(i:Nat)=>(i:Int)).map PV.int)) Ah Ah (Ab (-1))=Ab (Bh (D5 a o n)):=by
  rw[Vo (by rw[Aj,Aj,Fy];exact Aa (fL a o n) (A7 l))];unfold Bh;rw[Bd,List.map_reverse,List.reverse_reverse];rfl
 refine .slice (.bn (.blt rfl rfl (.cons ?_ .nil rfl) O)) .no .no (.int (.neg .int)) v;have y:(PV.list ((PW b o n).map PV.int))=.list ((b.filter λ p=>p.1==n).map λ p=>PV.int ((o.idxOf p.2+1:Nat):Int)):=by
  unfold PW;rw[Bd];rfl
 rw[y];refine ED.ev<| .T (λ p=>p.1==n) (λ p=>PV.int ((o.idxOf p.2+1:Nat):Int)) (.list (.aa (by rw[show(b.map λ p=>bH (nm p.1,nm p.2))=(ZB b).map bH from by unfold ZB;rw[Bd];rfl];rfl)) rfl) rfl rfl (λ p d=>?_) (Aa E (of_decide_eq_true (_root_.id (Cx Ag))));obtain⟨D,f⟩:=s.six p d;refine⟨[("b",.aa (.str (nm p.2))),("a",.aa (.str (nm p.1))),("name",.aa (.str (nm n))),("labels",.own (.dict (I5 0 o)))],rfl,.bq ?_,λ G=>?_⟩
 ·rw[<-pJ D V];exact .au (.aa rfl) (.aa rfl) rfl rfl
 ·have N:=H p.2 f ((s.jn n p.2).mp (by rw[<-beq_iff_eq.mp G];exact d));have g:=RD W f N 0;rw[Cs] at g;exact .sub (.own rfl) (.aa rfl) (λ _ _=>rfl) g
end
noncomputable def Kd (a:Str):Nat:=Gh.idxOf a
theorem GH:∀i<6,Kd (nm i)=i:=by decide+kernel
noncomputable def gF (f:Nat->List Nat)(a b:Str):Int:=w8 (Ku (f (Kd a)) (f (Kd b)))-w8 (Ku (f (Kd b)) (f (Kd a)))
theorem rY (f:Nat->List Nat)(a b:Str):decide (gF f a b<0)=Ku (f (Kd b)) (f (Kd a)):=by
 unfold gF;cases e:Ku (f (Kd b)) (f (Kd a)) with
 |true=>rw[SU e];rfl
 |false=>cases Ku (f (Kd a)) (f (Kd b))<;>rfl
theorem fA (f:Nat->List Nat)(a b:Str):decide (gF f a b>0)=Ku (f (Kd a)) (f (Kd b)):=by
 unfold gF;cases e:Ku (f (Kd a)) (f (Kd b)) with
 |true=>rw[SU e];rfl
 |false=>cases Ku (f (Kd b)) (f (Kd a))<;>rfl
theorem Qi {f:Nat->List Nat}(h:∀x∈a,x<6)(k:n∈a):ET (.dict (Ll f a)) (.str (nm n))=Ab (Bh (f n)):=by
 show((Ll f a).find? λ e=>decide (e.1=nm n)).map (·.2)=_
 unfold Ll;induction a with
 |nil=>cases k
 |cons x r o=>
  by_cases q:x=n
  ·subst q;rw[F2 (by simp)];rfl
  ·rw[EP (by simpa using λ e=>q (K8 (h x Ad) (h n k) e))];exact o (λ y s=>h y (Af _ s)) ((Al.mp k).resolve_left λ e=>q e.symm)
theorem qR {c:List Nat}{f:Nat->List Nat}(h:∀x∈c,x<6):∀a∈c.map nm,∀b∈c.map nm,Dc C MK.2.2.1 ((["one","other"]:List Str).zip [Ds.aa (.str a),.aa (.str b)]++([("falls",Ds.aa (.dict (Ll f c)))]:A5)) MK.2.1 (.int (gF f a b)):=λ a H b N=>by
 obtain⟨i,w,rfl⟩:=AF.mp H;obtain⟨j,z,rfl⟩:=AF.mp N;unfold gF;rw[GH i (h i w),GH j (h j z)]
 conv in MK.2.1=>whnf
 have O:=Qi (f:=f) h w;have Q:=Qi (f:=f) h z;have A:∀{k o s:Pos},Dc C MK.2.2.1 ((["one","other"]:List Str).zip [Ds.aa (.str (nm i)),.aa (.str (nm j))]++([("falls",Ds.aa (.dict (Ll f c)))]:A5)) (.Subscript (.Name "falls" k) (.Name "one" o) s) (Bh (f i)):=λ{_ _ _}=>.sub (.aa (by kernel_rfl)) (.aa (by kernel_rfl)) (λ _ _=>rfl) O;have E:∀{k o s:Pos},Dc C MK.2.2.1 ((["one","other"]:List Str).zip [Ds.aa (.str (nm i)),.aa (.str (nm j))]++([("falls",Ds.aa (.dict (Ll f c)))]:A5)) (.Subscript (.Name "falls" k) (.Name "other" o) s) (Bh (f j)):=λ{_ _ _}=>.sub (.aa (by kernel_rfl)) (.aa (by kernel_rfl)) (λ _ _=>rfl) Q;exact .am (Dc.iw Ag A E rfl) (Dc.iw Au A E rfl) rfl
theorem cZ:Zu MK.1 MK.2.1 MK.2.2.1 ["one","other"]:=by
 refine⟨by kernel_rfl,by kernel_rfl,by kernel_rfl,?_,?_,by decide,λ h k w z A o s=>?_⟩
 ·decide+kernel
 ·decide+kernel
 ·obtain⟨a,b,rfl⟩:=Nu s
  conv in MK.1=>whnf
  rfl
section
variable {o:List Nat}
theorem Pd {b:Bc->Option Ae}(I:GN w h)(T:Top c a b mg mb h)(s:∃n,z=B4 (Fa w 173) n 173)(o:O.lookup ("falls":Str)=Ab (.aa d)):Mw (W1 w h) mg (Fa w 173).scope z O MK.1 MK.2.1 MK.2.2.1 MK.2.2.2 ["one","other"] [("falls",.aa d)]:=by
 obtain⟨n,rfl⟩:=s;refine⟨⟨172,170,x6,"_law_numbered.<locals>.<lambda>",u8,by decide,Xu I T (by decide),by kernel_rfl,Ad,by kernel_rfl⟩,by rfl,cZ,by decide+kernel,λ p A C=>?_,λ x E k=>?_⟩
 ·have:=AQ.mp (by kernel_rfl:MK.2.2.1.names.all (λ p=>!(p.2== .free)||(Fa w 173).scope.names.lookup p.1==Ab .cell)=Ag) p A;rw[C] at this;simpa using this
 ·rw[J7] at k;split at k
  ·rename_i q;subst q;cases k;exact⟨by kernel_rfl,by decide+kernel,o,_,rfl⟩
  ·cases k
end
theorem Uf (h:List Nat):∀k,(I5 k h).length=h.length:=by
 induction h with
 |nil=>intro k;rfl
 |cons x r o=>intro k;exact congrArg BZ (o (k+1))
theorem VM {a:List Nat}(h:∀x∈a,x<6)(s:a.length<6)(k:n<6)(o:n∉a):qB (.dict (I5 0 a)) (.str (nm n)) (.int ((a.length+1:Nat):Int))=Ab (.dict (I5 0 (a++[n]))):=by
 have w:(6:Nat)<=BX:=by decide+kernel
 show(if(I5 0 a).length<BX then Ab (PV.dict (E7 (I5 0 a) (nm n) (.int ((a.length+1:Nat):Int)))) else Ah)=_;rw[if_pos (by rw[Uf];exact Ao ‹_<_› ‹_<=_›),Ug,Cs];unfold E7;rw[if_neg];rw[Uh h k 0];simpa using o
theorem ZW (x:PV)(h:List PV):ET (.list (x::h)) (.int 0)=Ab x:=by
 refine(N1 (x::h) 0).trans ?_;rw[if_pos (by decide+kernel),MD (DN _)];rfl
theorem XS.l7 (S:XS W V z N Z X s O)(e:Ei ks O=a):XS W V z N Z X s a:=e▸S.aw EL
theorem uW:∀i<6,A9 (nm i)=Ag/\(nm i).length<=BX:=by decide+kernel
section
theorem T9 {c:List Nat}{f:Nat->List Nat}(k:∀x∈c,x<6):((c.map nm).filter λ a=>((c.map nm).filter λ b=>decide (gF f a b>0)).isEmpty)=(Lc f c).map nm:=by
 refine Hi.trans ?_;congr 1;refine Cr λ n o=>?_;show((c.map nm).filter λ b=>decide (gF f (nm n) b>0)).isEmpty=_;rw[BH,De,DL,AQ];constructor
 ·intro q m h;have:=q (nm m) (DR h);rw[fA,GH n (k n o),GH m (k m h)] at this;simpa using this
 ·intro q b s;obtain⟨m,h,rfl⟩:=AF.mp s;rw[fA,GH n (k n o),GH m (k m h)];simpa using q m h
theorem P8 {a:List Nat}(h:i<a.length):(a.map nm).getD i Ca=nm (a.getD i 6):=by
 rw[Am,Bk,Am,AA h];rfl
theorem Vi {a:List Nat}{f:Nat->List Nat}{p:List Nat}(h:H6 (a.map nm).length (rG f a) p):(p.map λ i=>(a.map nm).getD i Ca).take ((Lc f a).map nm).length=(Lc f a).map nm:=by
 rw[Aj] at h;have e:(p.map λ i=>(a.map nm).getD i Ca)=(p.map λ i=>a.getD i 6).map nm:=by
  rw[Bd];exact EK λ i k=>P8 (As.mp ((h.1.mem_iff).mp k))
 rw[e,Aj,<-Hg,Sk h]
theorem cF {a:List Nat}{f:Nat->List Nat}(s:∀x∈a,x<6):∀i j,i<(a.map nm).length->j<(a.map nm).length->rG f a i j=decide (gF f ((a.map nm).getD i Ca) ((a.map nm).getD j Ca)<0):=λ i j h o=>by
 simp only[Aj] at h o;have k:∀i,i<a.length->a.getD i 6∈a:=λ i h=>by rw[Am,AA h];exact Dg h
 rw[rY,P8 h,P8 o,GH _ (s _ (k i h)),GH _ (s _ (k j o))];rfl
end
section
variable {o:List Nat}
theorem bQ {e:Bc->Option Ae}{b:Nat->Nat->Bool}(I:GN w h)(T:Top j c e mg mb h)(b4:Cm j=Ag)(d0:iW g b)(he:∃n,z=B4 (Fa w 173) n 173)(hd:o.Nodup)(ho:∀x∈o,x<6)(hl:o.length<6)(hm:Hv b o=m::d)(hA:CX 4 A)(B:Ko w h 173 z N):
 FY (W1 w h) A (Fa w 173).scope z N (execs Fj z) (yL g o) (.next (yN g (o++[m]))):=.mk' λ Z X Q E s T'=>by
 have G:∀k,EY (W1 w h) C0 k mg mb:=λ k=>ZF I T b4;have O:=hA.ai (AY _);have S:=hA.ai (Bo _);have R:∀x∈Ez b o,x<6:=λ x hx=>(HT.mp hx).1;have fl:(Ez b o).length<=6:=Aa (AW _ _) (by exact An _);have b5:=Vz (Xe b o) R;have ml:m∈Ez b o:=PP (hm▸Ad);have b6:=VM ho hl (R m ml) (HT.mp ml).2.1;have lf:=T9 (f:=D5 b o) R;simp only[<-Ry,hm] at lf;have ev:=qR (C:=C0) (f:=D5 b o) R;have b7:=cF (f:=D5 b o) R;have U:=λ p(gp:H6 ((Ez b o).map nm).length (rG (D5 b o) (Ez b o)) p)=>Vi gp;rw[<-Ry,hm] at U;have b8:KI ((Ez b o).map nm).length (rG (D5 b o) (Ez b o)):=by rw[Aj];exact rF _ _
 have V:∀a∈(Ez b o).map nm,A9 a=Ag/\a.length<=BX:=λ a ha=>by
  obtain⟨i,hi,rfl⟩:=AF.mp ha;exact uW i (R i hi)
 have b9:((m::d).map nm).length<=BX:=by
  rw[Aj,<-hm];exact Aa (AW _ _) (Aa fl (by decide+kernel))
 have c0:=bU d0 ho (G 0) O B;have c3:=Yd d0 hd ho hl (G 0) O B;rw[(by kernel_rfl:Fj=[Fj.getD 0 (.Pass default),Fj.getD 1 (.Pass default),Fj.getD 2 (.Pass default),Fj.getD 3 (.Pass default),Fj.getD 4 (.Pass default),Fj.getD 5 (.Pass default),Fj.getD 6 (.Pass default)])];generalize Ez b o=fr at*;generalize D5 b o=f at*;refine Ax (c0.go Z X s _ _ T'.S λ Y q a0 r a1=>Ax (c3.go Z X {s with heap:=Y,toks:=q} _ _ a0 λ d1 c4 a2 t a3=>Ax ?_));obtain⟨oc,c5,c6,c1,c2⟩:=(V0 I T).obj
 conv in Fj.getD 2 _=>whnf
 refine dH (G 0) hA B a2 (vU I T (G 0)) ((Eh I T _).trans (by kernel_rfl)) ⟨oc,_,c5,c6,c1,c2⟩ T.nolimit (Pd I T he (by kernel_rfl)) rfl V ev (by kernel_rfl) (by kernel_rfl) λ d2 c7 K cc fa W u a4 v=>Ax ?_
 conv in Fj.getD 3 _=>whnf
 refine Yz (G 3) S B W (v.cz (G 0) (Pd I T he (by kernel_rfl)) W.F rfl T.nolimit V ev) T.nolimit b5 (by rw[Aj];exact Aa fl (of_decide_eq_true (_root_.id (Cx Ag)))) (by kernel_rfl) (by kernel_rfl) (by decide+kernel) (by kernel_rfl) (by kernel_rfl) (by kernel_rfl) (by kernel_rfl) (hw:=by rfl) λ is d3 c8 d4 ir C l y a5=>Ax ?_
 replace v:=v.keep C
 conv in Fj.getD 4 _=>whnf
 refine VJ (G 3) S B l (v.cz (G 0) (Pd I T he (by kernel_rfl)) l.F rfl T.nolimit V ev) ir T.nolimit (by rw[Aj];exact Aa fl (of_decide_eq_true (_root_.id (Cx Ag)))) (by kernel_rfl) (by kernel_rfl) (by kernel_rfl) (by decide+kernel) (by kernel_rfl) (by kernel_rfl) (by kernel_rfl) (by kernel_rfl) (λ a=>by kernel_rfl) (λ a=>by kernel_rfl) (λ a=>by kernel_rfl) (by decide+kernel) (by decide+kernel) (by kernel_rfl) (hw:=by rfl) λ d5 c9 C H D a6=>Ax ?_
 replace v:=v.keep C
 simp only[lf] at H
 conv in Fj.getD 5 _=>whnf
 refine YJ (G 0) hA O B H (v.cz (G 0) (Pd I T he (by kernel_rfl)) H.F rfl T.nolimit V ev) T.nolimit (by kernel_rfl) (by kernel_rfl) (by rw[Aj];exact Bt ‹_›) b8 b7 (by kernel_rfl) (by kernel_rfl) (by kernel_rfl) b9 U λ a7 J a8 a9 b0=>Ax ?_
 conv in Fj.getD 6 _=>whnf
 refine(WF (G 0) O B (by kernel_rfl) (.aa (by kernel_rfl)) (.sub (b:=Bi ((m::d).map nm)) (.aa (by kernel_rfl)) .int (λ _ _=>rfl) (ZW _ _)) b6 (by rfl)).go Z X {s with heap:=a7,toks:=J} _ _ a9 λ b1 L b2 M b3=>BL ?_;refine T'.q b1 L (b2.l7 (ks:=["names","nexts","labels"]) (by kernel_rfl)) (r.trans (t.trans (u.trans (y.trans (D.trans (a8.ap.trans M)))))) (Aa a1 (Aa a3 (Aa a4 (Aa a5 (Aa a6 (Aa b0 b3))))))
end
theorem sD {f:List Str}(m:Gm W a fd f c){g:List PV->Option PV}(V:∀args d,g args=Ab d->args.length=f.length/\∀A h H,(∃n,h=B4 fd n a)->CX k A->XB W fd.scope h H->Tk W A fd.scope h H c (f.zip (args.map Ds.aa)) d):Gn W (k+1) a g:=
 λ A s X args Z d i G p r e Q E q=>
  F8 m i G p (MT.gw r) ((Aj _).trans (V args d e).1) λ h j N t B l w S=>
   ((V args d e).2 _ h _ ⟨_,t⟩ (i.down h) B).go _ _ _ _ _ S λ v z o O C u=>q v z o O (Aa w C) (u.ai λ b H=>AK.mpr (.inr H))
theorem bR {r:Nat->Nat->Bool}(P:PO r)(o:i<6):∃m h,Hv (EA r) (Hu (EA r) i)=m::h/\Hu (EA r) (i+1)=Hu (EA r) i++[m]:=by
 have k:=LH P (i+1) o;have e:Hu (EA r) (i+1)=Hu (EA r) i++(Hv (EA r) (Hu (EA r) i)).take 1:=rfl;rw[e] at k ⊢;cases q:Hv (EA r) (Hu (EA r) i) with
 |nil=>rw[q,AP,(LH P i (AX o))] at k;simp at k
 |cons m h=>exact⟨m,h,rfl,rfl⟩
section
theorem bT {c:Bc->Option Ae}{r:Nat->Nat->Bool}(I:GN w h)(T:Top d a c mg mb h)(s:Cm d=Ag)(P:PO r)(E:iW b (EA r))(H:∃n,z=B4 (Fa w 173) n 173)(O:CX 4 A)(B:Ko w h 173 z N)(q:Pos):∀(n i:Nat),i+n=6->
 H7 (W1 w h) A (Fa w 173).scope z N (.Name "label" q) Fj [] ((List.range' i n).map λ(j:Nat)=>PV.int ((j+1:Nat):Int)) (yN b (Hu (EA r) i)) (.next (yN b (Hu (EA r) 6))):=by
 intro n;induction n with
 |zero=>
  intro i o;obtain rfl:i=6:=o;exact .nil FO
 |succ n Q=>
  intro i o;have k:=Ao (HD (DN n)) (Az o);obtain⟨m,Z,V,W⟩:=bR P k;have C:=bS P i (AX k);have len:=LH P i (AX k);have t:=bQ I T s E H C.nd C.lt (Ay (Az len) k) V O B;rw[<-W] at t;rw[List.range'_succ,Bu];refine .next (ρb:=yL b (Hu (EA r) i)) ?_ t (Q (i+1) ((Cg i 1 n).trans o));unfold yL;rw[len];kernel_rfl
theorem V3 {c:Bc->Option Ae}{r:Nat->Nat->Bool}(I:GN w h)(T:Top f b c mg mb h)(k:Cm f=Ag)(P:PO r)(z:iW a (EA r)):Gn (W1 w h) 5 173 (JI [Bi Gh,Hb (ZB a)] (.dict (I5 0 (Hu (EA r) 6)))):=by
 refine sD (OD I T) λ args d e=>?_;obtain⟨rfl,rfl⟩:args=[Bi Gh,Hb (ZB a)]/\d=.dict (I5 0 (Hu (EA r) 6)):=by
  unfold JI at e;by_cases q:args=[Bi Gh,Hb (ZB a)]
  ·rw[if_pos q] at e;exact⟨q,(AN e).symm⟩
  ·rw[if_neg q] at e;cases e
 refine⟨rfl,λ A C V E o B=>?_⟩;have s:EY (W1 w h) C0 4 mg mb:=ZF I T k;have H:=λ q=>bT I T k P z E o B q 6 0 rfl;have N:BE P1 40=[J5.getD 0 (.Pass default),J5.getD 1 (.Pass default),J5.getD 2 (.Pass default)]:=rfl;rw[N];generalize Hu (EA r) 6=O at*
 conv in J5.getD 0 _=>whnf
 refine R9 s o B .dict rfl ?_ (by rfl);have Q:Bs ((["names","nexts"]:List Str).zip (([Bi Gh,Hb (ZB a)]:List PV).map Ds.aa)) "labels" (.own (.dict []))=yN a (Hu (EA r) 0):=rfl;rw[Q]
 conv in J5.getD 1 _=>whnf
 refine K3 (J4 s o B (.range rfl (.cons .int (.cons .int .nil rfl) rfl) rfl) (H _)) ?_
 conv in J5.getD 2 _=>whnf
 exact Jn (G8 s o B (.own rfl))
end
structure MB (L:List Str)(rows:List (List Str)):Prop where
 nd:L.Nodup
 sub:∀r∈rows,r.Sublist L
 mq:∀i p q,L[i]? =Ab p->L[i+1]? =Ab q->∃r∈rows,[p,q].Sublist r
 mem:∀x∈L,∃r∈rows,x∈r
theorem fG {all:List (List Str)}{x:Str}(E:IV all x=Ag):∀{k:List (List Str)},(∀r∈k,∀y,r.head? =Ab y->y=x\/IV all y=Au)->(∃r∈k,r.head? =Ab x)->Ej all k=Ab x:=by
 intro k;induction k with
 |nil=>exact λ _ h=>by obtain⟨r,o,_⟩:=h;contradiction
 |cons H s A=>
 cases H with
 |nil=>
  intro w z;refine A (λ r o=>w r (Af _ o)) ?_;obtain⟨r,o,e⟩:=z;rcases Al.mp o with rfl |o
  ·contradiction
  ·exact⟨r,o,e⟩
 |cons y t=>
  intro w z;show(if IV all y then Ab y else Ej all s)=_;by_cases e:y=x
  ·subst e;exact(if_pos E)
  ·have:=(w _ Ad y rfl).resolve_left e;rw[this,if_neg Bv];refine A (λ r o=>w r (Af _ o)) ?_;obtain⟨r,o,C⟩:=z;rcases Al.mp o with rfl |o
   ·exact absurd (AN C) e
   ·exact⟨r,o,C⟩
theorem MB.head (h:MB (x::L) a){r:List Str}(k:r∈a)(o:x∈r):r.head? =Ab x:=by
 have s:=h.sub r k;cases s with
 |cons _ s=>exact absurd (s.subset o) (Bz.mp h.nd).1
 |cons_cons _ s=>rfl
theorem MB.step {b:List (List Str)}(k:MB (x::L) b):MB L (b.map (IS x)) where
 nd:=(Bz.mp k.nd).2
 sub:=λ H w=>by
  obtain⟨r,o,rfl⟩:=AF.mp w;have s:=k.sub r o;unfold IS;cases s with
  |cons _ s=>
   rw[if_neg]
   ·exact s
   ·intro e;cases r with
    |nil=>contradiction
    |cons a t=>cases e;exact(Bz.mp k.nd).1 (s.subset Ad)
  |cons_cons _ s=>rw[if_pos rfl];exact s
 mq:=λ i p q z C=>by
  obtain⟨r,o,s⟩:=k.mq (i+1) p q z C;refine⟨IS x r,DR o,?_⟩;have E:p≠x:=λ e=>(Bz.mp k.nd).1 (e▸Cp z);unfold IS;split
  ·rename_i e;cases r with
   |nil=>cases e
   |cons a t=>
    cases e
    cases s with
    |cons _ s=>exact s
    |cons_cons _ s=>exact absurd rfl E
  ·exact s
 mem:=λ y A=>by
  obtain⟨r,o,h⟩:=k.mem y (Af _ A);refine⟨IS x r,DR o,?_⟩;unfold IS;split
  ·rename_i e;cases r with
   |nil=>cases e
   |cons a t=>cases e;exact(Al.mp h).resolve_left (λ e=>(Bz.mp k.nd).1 (e▸A))
  ·exact h
theorem IU:r∈HO a↔r∈a/\r≠[]:=by
 unfold HO;cases r<;>simp
theorem MB.jc (k:MB (x::L) b):Ej (HO b) (HO b)=Ab x:=by
 have z:=Bz.mp k.nd;refine fG ?_ (λ r o y A=>?_) ?_
 ·unfold IV;rw[AQ];intro r o;have s:=k.sub r (IU.mp o).1;have:x∉r.tail:=λ h=>by
   cases s with
   |cons _ s=>exact z.1 (s.subset (List.mem_of_mem_tail h))
   |cons_cons _ s=>exact z.1 (s.subset h)
  simpa using this
 ·by_cases e:y=x
  ·exact .inl e
  refine .inr ?_;have w:y∈r:=by
   cases r with
   |nil=>cases A
   |cons a t=>cases A;exact Ad
  have yL:y∈L:=(Al.mp ((k.sub r (IU.mp o).1).subset w)).resolve_left e;obtain⟨i,C⟩:=Ix.mp yL;obtain⟨p,E⟩:∃p,(x::L)[i]? =Ab p:=by
   cases h:(x::L)[i]? with
   |some p=>exact⟨p,rfl⟩
   |none=>
    have:=List.getElem?_eq_none_iff.mp h;obtain⟨H,_⟩:=Cn.mp C;simp at this;exact Hj (Mu this H)
  obtain⟨t,N,s⟩:=k.mq i p y E C;unfold IV;rw[List.all_eq_false];refine⟨t,IU.mpr ⟨N,λ q=>by subst q;cases s⟩,?_⟩;have:y∈t.tail:=by
   cases t with
   |nil=>cases s
   |cons a t=>
    cases s with
    |cons _ s=>exact s.subset (by simp)
    |cons_cons _ s=>exact s.subset (by simp)
  simpa using this
 ·obtain⟨r,o,h⟩:=k.mem x Ad;exact⟨r,IU.mpr ⟨o,λ q=>by subst q;cases h⟩,k.head o h⟩
theorem gR:∀(L:List Str)(k:List (List Str))(s:List Str)(n:Nat),L.length<n->MB L k->∃o,Qs n k s=Ab (Ab (s++L),o):=by
 intro L;induction L with
 |nil=>
  intro k s n z A;cases n with
  |zero=>exact absurd z (Hl _)
  |succ n=>?_
  refine⟨k,?_⟩;rw[RT,if_pos,DV];rw[De,List.eq_nil_iff_forall_not_mem];intro r w;have:=A.sub r (IU.mp w).1;exact(IU.mp w).2 (List.sublist_nil.mp this)
 |cons x L C=>
  intro k s n h A;cases n with
  |zero=>exact absurd h (Hl _)
  |succ n=>?_
  obtain⟨o,e⟩:=C (k.map (IS x)) (s++[x]) n (DO h) A.step;refine⟨o,?_⟩;rw[RT,if_neg,A.jc]
  ·show Qs n (k.map (IS x)) (s++[x])=_;rw[e,BQ];rfl
  ·obtain⟨r,w,h⟩:=A.mem x Ad;rw[De];intro q;have:=IU.mpr ⟨w,λ q=>by subst q;cases h⟩
   replace this:=(q)▸this;cases this
section
variable {o:List Nat}
noncomputable def pA (h:List Nat)(i j:Nat):Bool:=decide (((h.idxOf j+1:Nat):Int)-((h.idxOf i+1:Nat):Int)<0)
theorem WU:pA o i j=Ag↔o.idxOf j<o.idxOf i:=by unfold pA;rw[decide_eq_true_iff];exact⟨λ h=>DO (BM.mp (Int.lt_of_sub_neg h)),λ h=>Int.sub_neg_of_lt (BM.mpr (IK h))⟩
theorem Oe:pA o i j=Au↔o.idxOf i<=o.idxOf j:=by rw[Bool.eq_false_iff,ne_eq,WU];exact B6
theorem rB (k:List Nat)(n:Nat):KI n (pA k) where
 jh:=λ i j _ _ h=>by rw[WU] at h;rw[Oe];exact AX ‹_›
 trans:=λ i j l _ _ _ o s=>by rw[Oe] at*;exact Aa s o
theorem bZ {a:Type}{l:List a}(h:l.Nodup):l.reverse.Nodup:=(List.pairwise_reverse).mpr (h.imp λ q e=>q e.symm)
theorem D6.et {r:Nat->Nat->Bool}(k:D6 r o)(s:o.length=6):x∈o↔x<6:=by
 refine⟨k.lt x,λ w=>?_⟩;obtain⟨p,z,rfl⟩:=k.all s w;obtain⟨_,h,e⟩:=k.sg s z;rw[e];exact Dg h
theorem lO {r:Nat->Nat->Bool}(k:D6 r o)(E:o.length=6)(z:H6 6 (pA o) p):p=o.reverse:=by
 have A:∀a∈o,∀b∈o,o.idxOf a=o.idxOf b->a=b:=λ a s b C e=>by
  rw[<-Ed (CY s),<-Ed (CY C)];simp only[e]
 have H:∀{a},a∈p->a∈o:=λ{a} s=>(k.et E).mpr (As.mp ((z.1.mem_iff).mp s));have w:=(z.1.nodup_iff).mpr ID;refine GM (le:=λ a b=>o.idxOf b<o.idxOf a) (λ a b _ _ N O=>absurd N (Mu O)) ?_ ?_ ?_
 ·refine I3 (λ{a b} s C h=>?_) (List.Pairwise.and z.2 w);exact JZ (Oe.mp h.1.1) λ e=>h.2 (A a (H s) b (H C) e.symm)
 ·rw[List.pairwise_reverse];refine GY.mpr λ i j Q V h=>?_;rw[GF k.nd,GF k.nd];exact h
 ·refine(List.perm_ext_iff_of_nodup w (bZ k.nd)).mpr λ a=>?_;rw[EX,k.et E,<-As];exact z.1.mem_iff
theorem Nl {i j:Nat}{c:Type}{l:List c}{a b:c}(h:i<j)(k:l[i]? =Ab a)(o:l[j]? =Ab b):[a,b].Sublist l:=by
 induction l generalizing i j with
 |nil=>contradiction
 |cons x t s=>
  cases j with
  |zero=>cases h
  |succ j=>
   cases i with
   |zero=>
    cases k
    exact .cons_cons _ (List.singleton_sublist.mpr (Cp o))
   |succ i=>exact .cons _ (s (DO h) k o)
noncomputable def Ng (L:List Str)(h:List (Nat×Nat)):List (List Str):=[L.drop 4,(L.take 5).drop 2,L.take 3]++h.map λ(p:Nat×Nat)=>[nm p.1,nm p.2]
theorem tB {L:List Str}(C:L.length=6)(E:L.Nodup)(H:∀p∈a,[nm p.1,nm p.2].Sublist L):MB L (Ng L a) where
 nd:=E
 sub:=λ r N=>by
  rcases AK.mp N with q |q
  ·simp only[Al,BG,or_false] at q;rcases q with rfl |rfl |rfl
   ·exact List.drop_sublist _ _
   ·exact(List.drop_sublist _ _).trans (List.take_sublist _ _)
   ·exact List.take_sublist _ _
  ·obtain⟨p,o,rfl⟩:=AF.mp q;exact H p o
 mq:=λ i p q o w=>by
  have z:L.drop 4∈Ng L a:=A8 _ Ad;have O:(L.take 5).drop 2∈Ng L a:=A8 _ (Af _ Ad);have A:L.take 3∈Ng L a:=A8 _ (Af _ (Af _ Ad));have s:=C▸(Cn.mp w).1;by_cases h:i<2
  ·exact⟨_,A,Nl (CH i) (by rw[Dt (BC ‹_›)];exact o) (by refine Eq.trans (Dt (Bt ‹_›)) ?_;exact w)⟩
  by_cases k:i<4
  ·refine⟨_,O,Nl (FE (By h) (An _)) ?_ ?_⟩
   ·rw[FZ,EE (By h),Dt (A7 ‹_›)];exact o
   ·rw[FZ,(Nat.succ_add 1 (i-1)).trans (congrArg BZ (EE (CM (By h)))),Dt (Bt ‹_›)];exact w
  ·refine⟨_,z,Nl (FE (By k) (An _)) ?_ ?_⟩
   ·rw[FZ,EE (By k)];exact o
   ·rw[FZ,(Nat.succ_add 3 (i-3)).trans (congrArg BZ (EE (CM (By k))))];exact w
 mem:=λ x Q=>by
  have z:L.drop 4∈Ng L a:=A8 _ Ad;have A:L.take 3∈Ng L a:=A8 _ (Af _ (Af _ Ad));obtain⟨i,s⟩:=Ix.mp Q;have V:i<6:=C▸(Cn.mp s).1;by_cases h:i<3
  ·exact⟨_,A,Cp (i:=i) (by rw[Dt h];exact s)⟩
  by_cases k:i<5
  ·exact⟨_,(A8 _ (Af _ Ad)),Cp (i:=i-2) (by rw[FZ,EE (CM (By h)),Dt k];exact s)⟩
  ·exact⟨_,z,Cp (i:=i-4) (by rw[FZ,EE (CM (By k))];exact s)⟩
theorem Vm {r:Nat->Nat->Bool}(P:PO r)(X:iW a (EA r))(s:D6 r o)(z:o.length=6):MB (o.reverse.map nm) (Ng (o.reverse.map nm) a):=by
 refine tB (by rw[Aj,Fy,z]) (Vz (bZ s.nd) λ x H=>s.lt x (EX.mp H)) λ p A=>?_;have C:=X.six p A;have E:=CY ((s.et z).mpr C.1);have:=(s.at_ E).2.2 p.2 C.2 (by rw[Ed];exact((X.jn p.1 p.2).mp A));obtain⟨j,w⟩:=Ix.mp this;have k:j<o.idxOf p.1:=by
  obtain⟨h,_⟩:=Cn.mp w;simp only[Dd] at h;exact Ao h (EH _ _)
 replace w:=Eq.trans (Eq.symm (Dt k)) w
 have:=((Nl k w (by rw[AA E,Ed])).reverse).map nm;exact this
end
noncomputable def K6 (h:List Nat):List Nat:=Hu (EA (rI h)) 6
noncomputable def PX (h:List Nat):PV:=.dict (I5 0 (K6 h))
noncomputable def tE (h:List Nat):A5:=[("names",.aa (Bi Gh)),("pairs",.aa (Iy (Gy h))),("nexts",.aa (Hb (Oa h))),("labels",.aa (PX h))]
theorem Je (h:List Nat):(K6 h).length=6:=LH (Rk h) 6 (An _)
theorem MG (h:List Nat):D6 (rI h) (K6 h):=bS (Rk h) 6 (An _)
theorem Vx (k:List Nat):iW (QO k) (EA (rI k)) where
 jn:=λ a b=>Sz
 nd:=by
  refine List.pairwise_flatMap.mpr ⟨λ a z=>?_,List.nodup_range.imp λ{a b} h x o y s e=>?_⟩
  ·exact Od (KA _ (iC k a)) λ x _ y _ e=>congrArg Prod.snd e
  ·obtain⟨A,_,rfl⟩:=AF.mp o;obtain⟨C,_,rfl⟩:=AF.mp s;exact h (congrArg Prod.fst e)
 six:=λ p w=>(Rk k).six _ _ (Ok (Sz.mp w))
 len:=O9 k
noncomputable def mO (h:List Nat):List PV->Option PV:=JI [Bi Gh,Hb (ZB (QO h))] (PX h)
noncomputable def CN (h:List Nat):GE:=⟨λ x=>if x="_law_numbered" then Ab (mO h) else Ah,rX,λ _=>Ah⟩
theorem Q? {b:Bc->Option Ae}(I:GN w h)(T:Top d a b mg mb h)(k:Cm d=Ag):EY (W1 w h) (CN c) 5 mg mb:=mM I T k rfl (by exact λ _=>rfl) λ x g e=>
 Ld e (Lk (OD I T) ((Eh I T _).trans rfl) (V3 I T k (Rk c) (Vx c))) λ e=>(by contradiction)
theorem G! (o:EY (W1 w h) (CN a) k mg mb)(s:CX k A)(B:Ko w h 188 z N):QH w h A z N (exec (EZ 19) z) (zO a) (.next (tE a)):=by
 have e:tE a=Bs (zO a) "labels" (.aa (PX a)):=rfl;have C:(CN a).fn "_law_numbered"=Ab (mO a):=by
  show(if("_law_numbered":Str)="_law_numbered" then Ab (mO a) else Ah)=_;exact if_pos rfl
 have E:mO a [Bi Gh,Hb (Oa a)]=Ab (PX a):=MI _ _;rw[e]
 conv in EZ 19=>whnf
 exact Bw o s B (x:="labels") (d:=PX a) (.fn rfl C (.cons (.aa (d:=Bi Gh) rfl) (.cons (.aa (d:=Hb (Oa a)) rfl) .nil rfl) rfl) E) rfl (by rfl)
theorem KW.je {b:List (Str×PV)}(h:O.lookup x=Ab (.aa (.dict b)))(o:b.length≠0):KW C V O (.Compare (.Name x d) [.Eq] [.Dict [] [] f] g) Au:=λ c=>.mk λ Q E s S=>
 DA (S.F.name h λ v w=>iG.dict c s S.F S.G _ _ λ D n p q k l z=>by
  obtain⟨a,A,rfl,H,r,N,t,W,u⟩:=(w).ae k |>.aj;obtain⟨y,Z,i,_,j,B⟩:=z;have m:A.length=b.length:=by simpa using congrArg BP W
  refine keq_eq (r:=Au) N i H Z (Ao (Ay (AR _ _) c.hA.units) (AM rfl)) (λ e=>absurd (m.symm.trans (e.trans (by simpa using congrArg BP j))) o) ?_;rw[H8];exact CA ((S.aq k l).out rfl)) (Iz rfl)
theorem F? (o:GW w h C k mg mb)(s:CX k A)(B:Ko w h 188 z N):QH w h A z N (exec (EZ 20) z) (tE a) (.next (tE a)):=by
 conv in EZ 20=>whnf
 exact Gu o s B (.je rfl (by rw[Uf,Je];decide)) FO
noncomputable def HP (h:List Nat):List Str:=(K6 h).reverse.map nm
noncomputable def ZH (h:List Nat):A5:=[("names",.aa (Bi Gh)),("pairs",.aa (Iy (Gy h))),("nexts",.aa (Hb (Oa h))),("labels",.aa (PX h)),("line",.aa (Bi (HP h)))]
noncomputable def mQ (h:List Nat)(a b:Str):Int:=((h.idxOf (Kd b)+1:Nat):Int)-((h.idxOf (Kd a)+1:Nat):Int)
theorem WS:∀a∈Gh,∃i∈Ap 6,a=nm i:=by decide+kernel
theorem SW:∀i<6,Gh.getD i Ca=nm i:=by decide+kernel
theorem cV {b:Bf}{g:Bc->Option Ae}{φ:A5}(I:GN w h)(T:Top i e g mg mb h)(L:LE w h A z N)(o:(f,("law.<locals>.<lambda>":Str))∈tW)(d:∀z,defaultsOf a z=([],[]))(t:Zu a c b ps)(s:(b.names.map (·.1)).Nodup)
 (C:b.names.all (λ p=>!(p.2== .free)||(Fa w 188).scope.names.lookup p.1==Ab .cell)=Ag) (E:∀x k,φ.lookup x=Ab k->b.names.lookup x=Ab .free/\D1 x=Ag/\O.lookup x=Ab k/\∃d,k=.aa d):Mw (W1 w h) mg (Fa w 188).scope z O a c b f ps φ:=by
 obtain⟨n,rfl⟩:=L.he;refine⟨⟨187,185,tW,"law.<locals>.<lambda>",u9,by decide,Xu I T (by decide),by kernel_rfl,o,by kernel_rfl⟩,d _,t,s,λ p H Q=>?_,E⟩;have:=AQ.mp C p H;rw[Q] at this;exact BO (this)
theorem W2 (h:List Nat)(k:i<6):ET (PX h) (.str (nm i))=Ab (.int (((K6 h).idxOf i+1:Nat):Int)):=by
 have:=RD (o:=K6 h) (MG h).lt k ((D6.et (MG h) (Je h)).mpr k) 0;rw[Cs] at this;exact this
theorem lM:∀a∈Gh,∀b∈Gh,Dc C PU.2.2.1 ((["one","other"]:List Str).zip [Ds.aa (.str a),.aa (.str b)]++([("labels",Ds.aa (PX c))]:A5)) PU.2.1 (.int (mQ (K6 c) a b)):=λ a o b s=>by
 obtain⟨i,h,rfl⟩:=WS a o;obtain⟨j,k,rfl⟩:=WS b s;have h:=As.mp h;have k:=As.mp k;unfold mQ;rw[GH i h,GH j k];have w:=W2 c h;have z:=W2 c k;generalize PX c=d at*
 conv in PU.2.1=>whnf
 exact .am (.sub (.aa rfl) (.aa rfl) (λ _ _=>rfl) z) (.sub (.aa rfl) (.aa rfl) (λ _ _=>rfl) w) (Vg _ _)
theorem dB:Zu PU.1 PU.2.1 PU.2.2.1 ["one","other"]:=by
 refine⟨rfl,rfl,rfl,?_,?_,by decide,λ h k w z A o s=>?_⟩
 ·decide+kernel
 ·decide+kernel
 ·obtain⟨a,b,rfl⟩:=Nu s
  conv in PU.1=>whnf
  rfl
theorem K' {c:Bc->Option Ae}(I:GN w h)(T:Top d b c mg mb h)(l:Cm d=Ag)(L:LE w h A z N)(D:U1 w h A z N r (ZH a)):U1 w h A z N (EZ 21::r) (tE a):=.mk λ s Q E S G=>by
 have b1:=Kx;have B:EY (W1 w h) C0 2 mg mb:=ZF I T l;obtain⟨o,J,m,M,R⟩:=(V0 I T).obj;have U:=dB;have Y:(PU.2.2.1.names.map (·.1)).Nodup:=by decide+kernel
 have n:PU.2.2.1.names.lookup ("labels":Str)=Ab .free:=rfl;have hp:(PU.2.2.2,("law.<locals>.<lambda>":Str))∈tW:=Ad;have t:∀p,H6 6 (pA (K6 a)) p->(p.map λ i=>Gh.getD i Ca)=HP a:=λ p u=>by
  rw[lO (MG a) (Je a) u];exact EK λ i O=>SW i ((MG a).lt i (EX.mp O))
 have v:∀i j,i<Gh.length->j<Gh.length->pA (K6 a) i j=decide (mQ (K6 a) (Gh.getD i Ca) (Gh.getD j Ca)<0):=λ i j O f=>by
  have O:i<6:=O;have f:j<6:=f;unfold mQ pA;rw[SW i O,SW j f,GH i O,GH j f]
 have eZ:ZH a=Ei ["names","pairs","nexts","labels","line"] (Bs (tE a) "line" (.aa (.list ((HP a).map .str)))):=rfl;have hZ:(tE a).lookup ("labels":Str)=Ab (.aa (PX a)):=rfl
 conv in EZ 21=>whnf
 refine Ax (Ys B (L.hA.ai (by omega)) L.B S (vU I T B) ((Eh I T _).trans rfl) ⟨o,_,J,m,M,R⟩ T.nolimit (cV I T L (ps:=["one","other"]) (φ:=[("labels",.aa (PX a))]) hp (λ _=>rfl) U Y rfl λ x sl g=>?_) rfl (ns:=Gh) rfl (by decide) (rB (K6 a) 6) (lM) v rfl rfl rfl λ p u V C k kd W=>?_)
 ·replace g:=J7.symm.trans g
  split at g
  ·rename_i q;subst q;cases g;exact⟨n,by decide+kernel,hZ,_,rfl⟩
  ·contradiction
 ·simp only[t p u] at k;exact D.go {s with heap:=V,toks:=C} Q E (k.aw (by rw[eZ];exact EL)) λ Z H y e=>G Z H y (Aa W e)
theorem uM (U:EY W C k mg mb)(Y:CX k A)(F:FI W V z Z X s.heap O)(G:Gd W s)(n1:Ck c=Ag)(n2:Ck b=Ag)(n3:Ck a=Ag)(f1:HE C V O c d)(f2:HE C V O b e)(f3:HE C V O a f)
 (hQ:∀R tk v S,BA W s.heap R->s.toks<=tk->S.Nodup->(∀r∈S,s.heap.get? r=Ah)->FD W X R S [d,e,f]->Rp W X R v (.list (Ht S))->Q v {s with heap:=R,toks:=tk}):Av W.M A (eval (.List [c,b,a] p) z) Q E s:=by
 rw[Mq,Bj p z _ (by show(Ck c&&(Ck b&&(Ck a&&Ag)))=Ag;rw[n1,n2,n3];rfl)];refine Ac (AZ (Ac ?_));refine AE (f1 ⟨W,A,z,Z,X,_,mg,mb,U,Y⟩ s F G _ _ λ r1 i u d1 w j a1=>?_);have l:=F.ae w;have m:=G.step w j;refine AE (f2 ⟨W,A,z,Z,X,_,mg,mb,U,Y⟩ {s with heap:=i,toks:=u} l m _ _ λ T g x d2 h n a2=>?_);have t:=l.ae h;refine AE (f3 ⟨W,A,z,Z,X,_,mg,mb,U,Y⟩ {s with heap:=g,toks:=x} t (m.step h n) _ _ λ r3 D y d3 H I a3=>A6 ?_);have J:BA W s.heap g:=w.trans h;have o1:∃o,i.get? r1=Ab o:=by obtain⟨o,ho,_⟩:=a1.some;exact⟨o,ho⟩
 have o2:∃o,g.get? T=Ab o:=by obtain⟨o,ho,_⟩:=a2.some;exact⟨o,ho⟩
 refine Dp.newList (X:=X) (s:={s with heap:=D,toks:=y}) (t.ae H).an (PA [r1,T,r3]) (by show 3<=BX;decide+kernel) _ _ λ v L B N M rv=>?_;have b:s.heap.get? T=Ah:=Hp w d2;have a:s.heap.get? r3=Ah:=Hp J d3;refine hQ L B v [r1,T,r3] ((J.trans H).trans N) (Aa j (Aa n (Aa I M))) ?_ (λ r hr=>?_) ?_ rv
 ·simp[(λ q=>DJ d2 o1 q),(λ q=>DJ d3 (BJ h o1) q),(λ q=>DJ d3 o2 q)]
 ·simp only[Al,BG,or_false] at hr;rcases hr with rfl |rfl |rfl
  ·exact d1
  ·exact b
  ·exact a
 ·refine .cons (DC G.ao d1) (λ q=>DJ d1 (F.an _ q) rfl) (a1.bg (h.trans (H.trans N))) (.cons (DC G.ao b) (λ q=>DJ b (F.an _ q) rfl) (a2.bg (H.trans N)) (.cons (DC G.ao a) (λ q=>DJ a (F.an _ q) rfl) (a3.bg N) .nil))
theorem XS.drop (S:XS W V z N (Y++Z) (Y++X) s O)(h:∀y d,O.lookup y≠Ab (.own d))(o:∀a∈AV z,a∈Z)(w:∀a∈Z,a∈X)(A:∀a∈Y,a∉X):XS W V z N Z X s O:=by
 have less:∀b∈X,b∈Y++X:=λ b N=>AU _ N;refine⟨S.F.re o w (λ a k=>S.F.alive a (less a k)) (λ _ _=>rfl) (λ y C E=>?_) (λ y c d e H f=>absurd H (h y d)),S.le,S.tk,λ a k Q=>S.fr a (less a k) λ q=>?_,S.fc⟩
 ·refine⟨C,E,λ v g r=>?_⟩;cases C with
  |aa d=>exact Rp.ai less r
  |av u=>exact r
  |cg u d=>exact⟨r.1,Rp.ai less r.2⟩
  |own d=>exact absurd E (h y d)
 ·rcases AK.mp q with q |q
  ·exact A a q k
  ·exact Q q
theorem vW (Gk:EY W C k mg mb)(B:XB W V z N)(g3:Zw W A z N u)(S:XS W V z N Z X s O){i:Nat->Pos}{Kc:Nat->Nat}(fo:Gm W x fd ["sequences"] (Qt L i Kc))(d4:mg "_c3_merge"=Ab (.ref x))(T:XI fd.scope L i)
 (d5:∀n,Dk [.Name "sequences" (i 23)] (.ListComp (.Name "s" (i 24)) [⟨.Name "s" (i 25),.Name "sequences" (i 26),[.Name "s" (i 27)],0⟩] L (i 28)) (i 29).line (B4 fd n x)=pure Ag) (d6:mg "RuntimeError"=Ah/\mb "RuntimeError"=Ab (.type "RuntimeError")) (hA:CX (k+1) A)
 (b2:∀y d,O.lookup y≠Ab (.own d)) (b8:∀a∈AV z,a∈Z) (b9:∀a∈Z,a∈X)
  (n1:Ck m=Ag) (n2:Ck p=Ag) (n3:Ck D=Ag) (f1:HE C V O m M) (f2:HE C V O p R) (f3:HE C V O D U)
  {G:List (List Str)} (g:t4 WO V O l Y t it I G) (hz:3+G.length<=BX) (hf:fuel<=BX) {f:List Str} (e:Qs fuel ([M,R,U]++G) []=Ab (Ab f,j))
  (hl:O.lookup lx=Ab (.aa (.list (f.map .str)))) (d7:NW (.list (f.map .str)) (.list (f.map .str))=Ab Ag) (g1:CW V "_c3_merge"=Ag) {J:FB->Aq->Prop}
 (hQ:∀h' tk,XS W V z N Z X {s with heap:=h',toks:=tk} O->s.toks<=tk->J .next {s with heap:=h',toks:=tk}):
 Av W.M A (exec (.If (.Compare (.Call (.Name "_c3_merge" q1) [.BinOp (.List [m,p,D] q2) .Add (.ListComp Y [⟨t,it,I,0⟩] l q3) q4] [] q5) [.NotEq] [.Name lx q6] q7) bd [] q8) z) J E s:=by
 have c0:=hA.ai (Bo _);obtain⟨of,d8,d9,c4,c5⟩:=fo.obj;refine KR (DA ?_ (Iz rfl));refine B3 (CF Gk S.F (S.gd B) g1 (.inl d4) ?_);refine Dm (by rfl) ?_;refine Ci (o:=of) (fd:=fd) (Be (AE (LX (uM Gk c0 S.F (S.gd B) n1 n2 n3 f1 f2 f3 λ c6 e0 v1 H a6 a7 e4 e5 R1 ra=>?_))));have a3:=S.ae a6 a7;refine Qb Gk c0 g a3.F (a3.gd B) λ D2 a1 a8 h m2 e6 Q a9 p e7 c7 R2=>?_;have c8:=a3.ae Q a9;have b3:D2∉X:=λ q=>by obtain⟨o,ho⟩:=a3.F.an D2 q;exact Dn e6 ho
 have Nu:=R2.len;have QR:=R1.len;have rb:Rp W X a1 (.ref D2) (.list (Ht h)):=.list p b3 (by show(h.map BI).length<=BX;rw[Aj,Nu];exact Aa (Ak _ 3) hz) (by
  exact PA h)
 have b4:GC .Add (.list (Ht H)) (.list (Ht h))=Ab (.list (Ht (H++h))):=by
  show(if(Ht H).length+(Ht h).length<=BX then Ab (PV.list (Ht H++Ht h)) else Ah)=_;rw[if_pos (by rw[Aj,Aj,QR,Nu];exact hz),<-TT]
 refine Qx (s:={s with heap:=a1,toks:=a8}) ⟨_,rfl⟩ (ra.ae Q) rb b4 _ _ λ v b0 b7 a2 b5 rv=>A6 ?_;obtain⟨rfl,vs,e8,e9,z3,rl⟩:=rv;have f0:vs=((H++h).map BI).toArray:=by rw[<-WI rl]
 (try clear z3;try clear rl;try clear e8;try clear v;try clear rv;try clear b4;try clear rb;try clear g5;try clear b3;try clear c8;try clear a8;try clear m2)
 subst f0;have a4:=a6.trans (Q.trans a2);have U0:∀r∈H,∃o,c6.get? r=Ab o:=λ r hr=>by obtain⟨_,_,c,rc⟩:=R1.mem r hr;obtain⟨o,ho,_⟩:=rc.some;exact⟨o,ho⟩
 have c9:∀r∈h,∃o,a1.get? r=Ab o:=λ r hr=>by obtain⟨_,_,c,rc⟩:=R2.mem r hr;obtain⟨o,ho,_⟩:=rc.some;exact⟨o,ho⟩
 have dd:∀r∈H++h,s.heap.get? r=Ah/\∃o,b0.get? r=Ab o:=λ r hr=>by
  rcases AK.mp hr with q |q
  ·exact⟨e5 r q,BJ (Q.trans a2) (U0 r q)⟩
  ·exact⟨Hp a6 (c7 r q),BJ a2 (c9 r q)⟩
 have nd:(H++h).Nodup:=by
  rw[HW];refine⟨e4,e7,λ a ha b N q=>?_⟩;obtain⟨o,ho⟩:=U0 a ha;simp only[q,(c7 b N)] at ho;contradiction
 have f4:a1.objs.size∉H++h:=λ q=>by
  have fr:=Ch a1;rcases AK.mp q with q |q
  ·obtain⟨o,ho⟩:=BJ Q (U0 _ q);exact Dn fr ho
  ·obtain⟨o,ho⟩:=c9 _ q;exact Dn fr ho
 obtain⟨c,hc,d0⟩:=((R1.bi λ b o e n hd=>⟨D3 (Q.trans a2) e hd,n⟩).append (R2.bi λ b o e n hd=>⟨D3 a2 e hd,n⟩)).fn nd;have a5:XS W V z N ((H++h)++Z) ((H++h)++X) {s with heap:=b0,toks:=b7} O:=
  ⟨S.F.ee (S.gd B).ao a4 dd,S.le.trans a4,Aa S.tk (Aa a7 (Aa a9 b5)),λ a ha hz=>by
    rcases AK.mp ha with q |q
    ·exact absurd (A8 _ q) hz
    ·exact S.fr a q λ q'=>hz (AU _ q'),S.fc.bg a4⟩
 have nX:∀r∈H++h,r∉X:=λ r hr q=>DJ (dd r hr).1 (S.F.an r q) rfl;have f5:∀r∈H++h,∀o vs,b0.get? r=Ab o->o.data≠.fields vs:=λ r hr o vs e=>by
  obtain⟨us,n,m,_⟩:=d0 r hr;obtain rfl:=A4 m e;simp
 refine⟨⟨(B.ao.trans a5.le).keep d8 c4 c5,d9⟩,?_⟩;refine nR Gk fo T d5 d6 hA g3.fr (g3.stack a5) (a5.gd B) e9 f4 nd (by rw[AP,QR,Nu];exact hz) (λ r hr=>⟨DC (S.gd B).ao (dd r hr).1,d0 r hr⟩) hf (by rw[hc];exact e) (λ g4 ho a d1 f6 ha d2 b1 f7 d3=>?_) λ ho=>(by contradiction);cases ho;have f8:∀r∈H++h,∃o,d1.get? r=Ab o:=λ r hr=>by obtain⟨c',_,h2⟩:=d3;obtain⟨o,ho,_⟩:=(h2 r hr).some;exact⟨o,ho⟩
 have b6:=XS.drop (a5.over (λ r hr=>⟨A8 _ hr,λ q=>nX r hr (b9 _ (b8 _ q)),Hp S.le (dd r hr).1,f5 r hr⟩) d2 f8 b2 b1) b2 b8 b9 nX;have aX:a∉X:=λ q=>DJ (Hp a4 ha) (S.F.an a q) rfl;refine FI.name b6.F hl λ w rw=>?_;refine Dp.of (P:=λ v' _=>v'=.bool Au) (λ J E hQ=>Hy (op:=.NotEq) (Ay (AR _ _) hA.units) (f7.rp aX) (.inl rw) (show(NW (.list (f.map .str)) (.list (f.map .str))).map (!·)=Ab Au by rw[d7];rfl) λ f9=>hQ _ _ f9 (.refl _) rfl) _ _ λ v' h5 g0 k5 l5 e=>?_
 subst e;refine CA (BL ?_);exact hQ h5 g0 (b6.ae k5 l5) (Aa a7 (Aa a9 (Aa b5 (Aa b1 l5))))
section
theorem X7 {kk:Nat}{M:List PV}{ps:List Str}(Gk:EY W C k mg mb)(hA:CX (k+2) A)(B:XB W V z N)(f4:Zw W A z N I)(S:XS W V z N Z X s O)(R:XA W mg mb Y)(d0:mg "reduce"=Ab (.ref Y))(b7:W.h0.NoLimit)
 (L:Mw W mg V z O j c u m ps φ) (d3:ps.length=2) (b8:Dc C V O p (.list M)) (d4:Ck p=Ag) (n1:Ck D=Ag) (n2:Ck G=Ag) (h1:Dc C V O D d1) (h2:Dc C V O G d2)
 {st:Nat->PV} (d5:st 0=.ba [d1,d2]) (d6:∀i x,M[i]? =Ab x->Dc C u (ps.zip [.aa (st i),.aa x]++φ) c (st (i+1))) (d7:W5 y=Ag) (d8:GB V y (st M.length) O=Ab T) (g1:CW V "reduce"=Ag)
  (hw:Dk [y] (.Call (.Name "reduce" q2) [.Lambda j c u m,p,.Tuple [D,G] kk q7] [] q8) U.line z=pure Au) (d9:swappedStores [y] (.Call (.Name "reduce" q2) [.Lambda j c u m,p,.Tuple [D,G] kk q7] [] q8) z=pure Ah) {a0:FB->Aq->Prop} (hQ:Ky W V z N Z X s (.next T) a0):
 Av W.M A (exec (.Assign [y] (.Call (.Name "reduce" q2) [.Lambda j c u m,p,.Tuple [D,G] kk q7] [] q8) U) z) a0 E s:=by
 have b3:=hA.ai (AR k 2);have R0:=R;obtain⟨e0,_,_,b9⟩:=R0;obtain⟨e3,c0,e4,c1,c2⟩:=b9.obj;refine Cz d7 hw d9 (B3 (CF Gk S.F (S.gd B) g1 (.inl d0) ?_));refine Dm (by show(Ag&&(Ck p&&(Ag&&Ag)))=Ag;rw[d4];rfl) ?_;refine Ci (o:=e3) (fd:=e0) (Be (AE (Uc Gk L S.F (S.gd B) λ c3 b4 f a6 a7 a8 cX e5=>?_)));have a2:=S.ae a7 a8;refine AE (b8 ⟨W,A,z,Z,X,_,mg,mb,Gk,b3⟩ {s with heap:=c3,toks:=b4} a2.F (a2.gd B) _ _ λ tv f5 e6 a3 a9 rt=>?_);have Q:=a2.ae a3 a9;refine AE (YY Gk b3 Q.F (Q.gd B) n1 n2 h1 h2 λ b0 e7 t a1 b1 ht rT=>?_);have w:=Q.ae a1 b1;refine A6 ⟨⟨((B.ao.trans Q.le).trans a1).keep c0 c1 c2,e4⟩,?_⟩;have a4:=((e5 X λ a ha=>ha).ae a3).ae a1;obtain⟨c4,pr,pm,cd,ct,e8,_⟩:=a4.obj;have St:QD W (k+1) Ah X (.ref f) M (Ir b0 Ah) (λ i v h=>Rp W X h v (st i)):=by
  refine⟨λ i v h h' hk r=>r.bi λ b o e n hd=>⟨hk b o e hd,n⟩,λ i v h _ B q=>(nomatch q),⟨f,VL "<lambda>" c4 pr c u a6 pm cd ct,rfl,λ h H=>⟨_,H.keep e8 (by simp) (by simp),rfl⟩⟩,λ A' s' i v e x l e9 f6 f7 G' H' f0 hJ rx Q' E' f1=>?_⟩;have c5:=H';have up:∀{v d},Rp W X s'.heap v d->Rp W (a6.map (·.2)++X) s'.heap v d:=λ r=>r.ai λ a ha=>(AK.mp ha).elim (cX a) id
  refine Ud Gk (a4.ae c5) b7 e9 G' (λ b N=>⟨(w.F.alive b N).1,BJ c5 (w.F.alive b N).2⟩) (.aa (up hJ) (.aa (up rx) .nil)) d3.symm (d6 i x f0) _ _ λ v' h' tk k l' r=>?_;exact f1 v' h' tk k l' (r.ai λ a ha=>AU _ ha)
 have f2:=hA;refine Ou (ob:=Ah) Gk R f2 (w.gd B) w.F.alive (rt.ae a1) (λ B' q=>nomatch q) f4.fr (f4.stack w) ⟨DC (Q.gd B).ao ht,(by obtain⟨_,_,_,e,g,_⟩:=rT.aj;cases e;exact⟨_,g⟩:∃o,b0.get? t=Ab o)⟩ St (by rw[d5];exact rT) λ f8 f3 v c6 b2 J=>?_;have a5:=c6;refine GR b3.handled B (w.ae a5 b2) d8 J λ c7 b5 c8 b6 c9=>?_;exact hQ c7 b5 c8 ((a7.trans (a3.trans (a1.trans a5))).ap.trans (b6.ap λ a ha=>S.F.br ha)) (Aa a8 (Aa a9 (Aa b1 (Aa b2 c9))))
end
noncomputable def EV.comp (l:EV):Expr×FM×Bf:=(l.x 0,l.gs.getD 0 default,l.sc)
noncomputable def Yc:Expr×FM×Bf:=(((((Ip (EZ 22)).e 0).e 0).e 1).e 1).comp
theorem t4.all {c:Type}{l:List c}{g:c->PV}(f:c->List Str)(k:OK C V O e (l.map g))(o:Eg V b=Ag)(s:(FN t).all (λ x=>((Bp b O).lookup x).isNone)=Ag)
 (w:∀a∈l,∃h,Hf b t (g a) (Bp b O)=Ab h/\HE C b h d (f a)) (z:l.length<=BX):t4 C V O b d t e [] (l.map f):=
 ⟨c,l,g,λ _=>Ag,f,by rw[Qg],o,k,s,λ a A=>by obtain⟨r,x,y⟩:=w a A;exact⟨r,x,.nil,λ _=>y⟩,z⟩
theorem K! {a:List PV}(h:a.length=6):En (.list a) (Ab 4) Ah Ah=Ab (.list (a.drop 4))/\En (.list a) (Ab 2) (Ab 5) Ah=Ab (.list ((a.take 5).drop 2))/\En (.list a) Ah (Ab 3) Ah=Ab (.list (a.take 3)):=by
 exact u5 (P:=λ a=>En (.list a) (Ab 4) Ah Ah=Ab (.list (a.drop 4))/\En (.list a) (Ab 2) (Ab 5) Ah=Ab (.list ((a.take 5).drop 2))/\En (.list a) Ah (Ab 3) Ah=Ab (.list (a.take 3))) (λ _ _ _ _ _ _=>⟨by kernel_rfl,rfl,rfl⟩) a h
theorem J? {c:Bc->Option Ae}(I:GN w h)(T:Top d b c mg mb h)(Z:Cm d=Ag)(L:LE w h A z N)(m:U1 w h A z N r (ZH a)):U1 w h A z N (EZ 22::r) (ZH a):=.mk λ s Q E S n=>by
 have B:=Kx;have q:EY (W1 w h) C0 2 mg mb:=ZF I T Z;have f:=nS;have l:=vI I T;simp only[f] at l;obtain⟨i,e⟩:=gR (HP a) (Ng (HP a) (QO a)) [] 7 (by unfold HP;rw[Aj,Fy,Je];decide) (Vm (Rk a) (Vx a) (MG a) (Je a));rw[DU] at e;have t:((HP a).map PV.str).length=6:=by unfold HP;rw[Aj,Aj,Fy,Je]
 obtain⟨u,v,x⟩:=K! t;have y:=O9 a;have g:t4 WO (Fa w 188).scope (ZH a) Yc.2.2 Yc.1 Yc.2.1.target Yc.2.1.iter [] ((QO a).map λ(p:Nat×Nat)=>[nm p.1,nm p.2]):=by
  refine .all (g:=λ(p:Nat×Nat)=>bH (nm p.1,nm p.2)) (λ(p:Nat×Nat)=>[nm p.1,nm p.2]) ?_ rfl rfl (λ p D=>?_) (Aa y (of_decide_eq_true (_root_.id (Cx Ag))))
  ·conv in Yc.2.1.iter=>whnf
   refine .list (.aa ?_) rfl;have:Hb (Oa a)=.list ((QO a).map λ(p:Nat×Nat)=>bH (nm p.1,nm p.2)):=by unfold Hb Oa;rw[Bd];rfl
   rw[<-this];kernel_rfl
  ·refine⟨[("b",.aa (.str (nm p.2))),("a",.aa (.str (nm p.1)))],rfl,?_⟩
   conv in Yc.1=>whnf
   exact .own (.list (.cons (.aa rfl) (.cons (.aa rfl) .nil rfl) rfl) (by show 2<=BX;omega))
 conv in EZ 22=>whnf
 unfold Ng at e;refine Ax (vW q L.B L.O S l ((Eh I T _).trans rfl) zJ vV ⟨(Eh I T _).trans rfl,PI T (by decide+kernel) rfl⟩ (L.hA.ai (by omega)) (SS rfl) (λ _ h=>h) (λ _ h=>h) rfl rfl rfl
  (.slice (.aa rfl) (.int .int) .no .no (u.trans (by rw[List.map_drop]))) (.slice (.aa rfl) (.int .int) (.int .int) .no (v.trans (by rw[List.map_drop,Hg]))) (.slice (.aa rfl) .no (.int .int) .no (x.trans (by rw[Hg]))) g (by rw[Aj];omega) (fuel:=7) (by omega) e (lx:="line") rfl (NF _) rfl λ C k H O=>?_)
 exact m.go {s with heap:=C,toks:=k} Q E H λ V o j W=>n V o j (Aa O W)
variable {i:Nat} in
noncomputable def iR (h:List (Str×Str))(p:List PV×List Str):Nat->List PV×List Str
 |0=>p
 |i+1=>Ks h (iR h p i)
section
theorem eO (p:List PV×List Str)(i:Nat):iR a (Ks a p) i=iR a p (i+1):=by
 induction i with
 |zero=>rfl
 |succ i h=>show Ks a _=Ks a _;rw[h]
theorem Yu (l:List Str):(WY a l).length<=l.length:=AW _ _
theorem Xa (p:List PV×List Str)(i:Nat):(iR nx p i).1.length<=p.1.length+i/\(iR nx p i).2.length<=p.2.length:=by
 induction i with
 |zero=>exact⟨An _,An _⟩
 |succ i h=>
  refine⟨?_,Aa (Yu _) h.2⟩;show(if _ then _ else _:List PV).length<=_;split
  ·exact BC h.1
  ·rw[AP];exact Bt h.1
noncomputable def iQ (h:List (Str×Str))(a b:Str):Bool:=decide ((a,b)∈h)
theorem ZL (l:List Str)(n:Str):(ZM b l).any (·==n)=l.any λ a=>iQ b a n:=by
 rw[BH,B8,B8];constructor
 ·rintro⟨x,o,e⟩;obtain⟨p,s,rfl⟩:=AF.mp o;obtain⟨w,z⟩:=Aw.mp s;obtain⟨a,h,k⟩:=B8.mp z;have k:=BO k;have e:=BO e;subst k;subst e;exact⟨_,h,decide_eq_true w⟩
 ·rintro⟨a,h,e⟩;exact⟨n,AF.mpr ⟨(a,n),Aw.mpr ⟨of_decide_eq_true e,B8.mpr ⟨a,h,beq_self_eq_true _⟩⟩,rfl⟩,beq_self_eq_true _⟩
theorem Ul (l:List Str):OA a l=F7 (iQ a) l:=by
 delta OA F7
 simp only[ZL]
theorem cN (l:List Str):WY a l=F6 (iQ a) l:=by
 delta WY F6
 rw[Ul];refine Cr λ x _=>?_;congr 1;rw[BH,B8,E5];exact⟨λ⟨y,k,e⟩=>BO e▸k,λ h=>⟨x,h,beq_self_eq_true _⟩⟩
theorem YL (i:Nat):∀p:List PV×List Str,(iR nx p i).1.length=p.1.length+(DT (iQ nx) i p.2).1/\(iR nx p i).2=(DT (iQ nx) i p.2).2:=by
 induction i with
 |zero=>exact λ p=>⟨rfl,rfl⟩
 |succ i o=>
  intro p;obtain⟨h,k⟩:=o (Ks nx p);rw[eO] at h k;have e:(Ks nx p).2=F6 (iQ nx) p.2:=cN _;rw[e] at h k;refine⟨h.trans ?_,k⟩;show(if(OA nx p.2).isEmpty then p.1 else p.1++[Bi (OA nx p.2)]).length+_=p.1.length+(if(F7 (iQ nx) p.2).isEmpty then _ else _);rw[Ul];split
  ·rfl
  ·rw[AP];exact(Et _ _ _).trans (congrArg (p.1.length+·) (DQ 1 _))
end
theorem kG (k:List Nat)(w:a<6)(z:b<6):iQ (Oa k) (nm a) (nm b)=EA (rI k) a b:=by
 rw[BH];unfold iQ;rw[decide_eq_true_iff,<-Sz];unfold Oa;constructor
 ·intro h;obtain⟨⟨x,y⟩,o,e⟩:=AF.mp h;have s:=(Vx k).six _ o;injection e with A C;obtain rfl:=K8 s.1 w A;obtain rfl:=K8 s.2 z C;exact o
 ·exact λ h=>AF.mpr ⟨(a,b),h,rfl⟩
theorem VR (k:List Nat):(iR (Oa k) ([],(K6 k).reverse.map nm) 6).1.length=(Gc (Dv (Gy k)) 64).getD 63 0/\(iR (Oa k) ([],(K6 k).reverse.map nm) 6).2=[]:=by
 have o:∀x∈(K6 k).reverse,x<6:=λ x C=>(MG k).lt x (EX.mp C);have h:=YL (nx:=Oa k) 6 ([],(K6 k).reverse.map nm);have b:=(MG k).kf (Rk k) (Je k) (bX k);generalize (Gc (Dv (Gy k)) 64).getD 63 0=t at*;have m:=RI (nx:=iQ (Oa k)) 6 (K6 k).reverse λ a s b w=>K8 (o a s) (o b w);simp only[Oz 6 (K6 k).reverse λ a s b w=>kG k (o a s) (o b w),b] at m;have z:=h.1;have A:=h.2;dsimp only at z A;rw[m] at z A;exact⟨z.trans (Cs _),A⟩
noncomputable def Tr (h:List Nat)(i:Nat):List PV×List Str:=iR (Oa h) ([],HP h) i
noncomputable def wL (h:List Nat):A5:=[("pairs",.aa (Iy (Gy h))),("hours",.aa (.list (Tr h 6).1)),("left",.aa (Bi (Tr h 6).2))]
theorem Yt (h:List Nat):(HP h).length=6:=by unfold HP;rw[Aj,Fy,Je]
theorem dA:Zu Nv.1 Nv.2.1 Nv.2.2.1 ["state","turn"]:=by
 refine⟨rfl,rfl,rfl,?_,?_,by decide,λ h k w z A o s=>?_⟩
 ·decide+kernel
 ·decide+kernel
 ·obtain⟨a,b,rfl⟩:=Nu s
  conv in Nv.1=>whnf
  rfl
theorem mF (p:List PV×List Str)(h:p.1.length<=100)(k:p.2.length<=100)(x:PV):Dc (CL (Nf a)) Nv.2.2.1 ((["state","turn"]:List Str).zip [Ds.aa (Rc p),.aa x]++([("nexts",Ds.aa (Hb (Oa a)))]:A5)) Nv.2.1 (Rc (Ks (Oa a) p)):=by
 have o:(CL (Nf a)).fn "_law_hour"=Ab (RN (Oa a)):=by
  show YP (Nf a) "_law_hour"=_;unfold YP;simp;rfl
 conv in Nv.2.1=>whnf
 exact .fn rfl o (.cons (.aa (d:=Rc p) rfl) (.cons (.aa (d:=Hb (Oa a)) rfl) .nil rfl) rfl) (mG (nx:=Oa a) h k)
theorem J! {c:Bc->Option Ae}(I:GN w h)(T:Top d b c mg mb h)(g:Cm d=Ag)(L:LE w h A z N)(G:U1 w h A z N r (wL a)):U1 w h A z N (EZ 23::r) (ZH a):=.mk λ s Q E S J=>by
 have b1:=Kx;have M:EY (W1 w h) (CL (Nf a)) 2 mg mb:=yK (k:=0) I T g (aQ a);have R:=dA;have U:(Nv.2.2.1.names.map (·.1)).Nodup:=by decide+kernel
 have Y:Nv.2.2.1.names.all (λ p=>!(p.2== .free)||(Fa w 188).scope.names.lookup p.1==Ab .cell)=Ag:=rfl;have j:Nv.2.2.1.names.lookup ("nexts":Str)=Ab .free:=rfl;have hp:(Nv.2.2.2,("law.<locals>.<lambda>":Str))∈tW:=Af _ Ad;have l6:=Yt a;have bd:∀i≤6,(Tr a i).1.length<=100/\(Tr a i).2.length<=100:=λ i Z=>by
  obtain⟨l,m⟩:=Xa (nx:=Oa a) ([],HP a) i;exact⟨Aa l (Aa (Az (Cs _)) (Aa Z (by decide))),Aa m (Aa (Az l6) (by decide))⟩
 have B:((HP a).map PV.str).length=6:=by rw[Aj,l6]
 have n:∀i x,((HP a).map PV.str)[i]? =Ab x->Dc (CL (Nf a)) Nv.2.2.1 ((["state","turn"]:List Str).zip [Ds.aa (Rc (Tr a i)),.aa x]++([("nexts",Ds.aa (Hb (Oa a)))]:A5)) Nv.2.1 (Rc (Tr a (i+1))):=λ i x e=>by
  have Z:=(Cn.mp e).1;rw[B] at Z;obtain⟨l,m⟩:=bd i (AX Z);exact mF (Tr a i) l m x
 have hZ:(ZH a).lookup ("nexts":Str)=Ab (.aa (Hb (Oa a))):=rfl;have D:∀q,Dc (CL (Nf a)) (Fa w 188).scope (ZH a) (.Name "line" q) (.list ((HP a).map PV.str)):=λ q=>.aa rfl;have z0:∀q,Dc (CL (Nf a)) (Fa w 188).scope (ZH a) (.List [] q) (.list []):=λ q=>.list .nil (AY _);have t:Rc (Tr a 0)=.ba [.list [],.list ((HP a).map PV.str)]:=rfl;have u:∀q1 q2 q3,GB (Fa w 188).scope (.Tuple [.Name "hours" q1,.Name "left" q2] 0 q3) (Rc (Tr a 6)) (ZH a)=Ab (Bs (Bs (ZH a) "hours" (.aa (.list (Tr a 6).1))) "left" (.aa (Bi (Tr a 6).2))):=λ _ _ _=>rfl;have v:wL a=Ei ["pairs","hours","left"] (Bs (Bs (ZH a) "hours" (.aa (.list (Tr a 6).1))) "left" (.aa (Bi (Tr a 6).2))):=rfl
 conv in EZ 23=>whnf
 refine Ax (X7 M (L.hA.ai (by omega)) L.B L.O S (uO I T) ((Eh I T _).trans rfl) T.nolimit (cV I T L (ps:=["state","turn"]) (φ:=[("nexts",.aa (Hb (Oa a)))]) hp (λ _=>rfl) R U Y λ x sl f=>?_) rfl (D _) rfl rfl rfl (z0 _) (D _) (st:=λ i=>Rc (Tr a i)) t n rfl (by rw[B];exact u _ _ _) rfl (by rfl) (by rfl) λ C k H kd O=>?_)
 ·rw[J7] at f;split at f
  ·rename_i q;subst q;cases f;exact⟨j,by decide+kernel,hZ,_,rfl⟩
  ·cases f
 ·exact G.go {s with heap:=C,toks:=k} Q E (H.aw (by rw[v];exact EL)) λ V o y W=>J V o y (Aa O W)
theorem Dc.kg (W:Dc C V O a (.bool Ag))(Z:Dc C V O b (.bool Ag)):Dc C V O (.BoolOp .And [a,b] p) (.bool Ag):=λ c=>.mk λ Q E s S=>by
 refine S.cr λ Q E w=>iA (λ Q E w=>W c s S.F S.G Q E λ v z A k l r=>w v z A k l r.aj) (λ _ H o h N=>?_) _ _ λ v z A k l e=>w v z A k l (by rw[e];exact .bool _);exact λ Q E w=>Z c {s with heap:=H,toks:=o} (S.F.ae h) (S.G.step h N) Q E λ v z A k l r=>w v z A k l r.aj
theorem F! (s:EY (W1 w h) (CL (Nf a)) k mg mb)(C:CX k A)(B:Ko w h 188 z N):QH w h A z N (exec (EZ 24) z) (wL a) (.ret (.bool Ag)):=by
 have W:=Kx;have E:(CL (Nf a)).fn "_law_fewest"=Ab (JI [Iy (Gy a)] (.int (((Gc (Dv (Gy a)) 64).getD 63 0:Nat):Int))):=by
  show YP (Nf a) "_law_fewest"=_;unfold YP;simp;rfl
 have H:=MI [Iy (Gy a)] (.int (((Gc (Dv (Gy a)) 64).getD 63 0:Nat):Int));obtain⟨O,Q⟩:=VR a;have Z:(Tr a 6).1.length<=6:=Aa (Xa ([],HP a) 6).1 (by simp);generalize (Gc (Dv (Gy a)) 64).getD 63 0=o at*;have ez:wL a=([("pairs",.aa (Iy (Gy a))),("hours",.aa (.list (Tr a 6).1)),("left",.aa (.list []))]:A5):=by
  unfold wL;rw[Q];rfl
 have V:Q0 .len [.list (Tr a 6).1]=Ab (.int o):=by
  rw[<-O];rfl
 rw[ez];generalize (Tr a 6).1=b at*
 conv in EZ 24=>whnf
 refine G8 s C B (.bn (.kg (.au (.aa rfl) (.list .nil (AY _)) rfl rfl) (.au (.blt rfl rfl (.cons (.aa rfl) .nil rfl) V) (.fn rfl E (.cons (.aa rfl) .nil rfl) H) rfl ?_)));rw[ZG];simp
theorem cT:Pc=[EZ 0,EZ 1,EZ 2,EZ 3,EZ 4,EZ 5,EZ 6,EZ 7,EZ 8,EZ 9,EZ 10,EZ 11,EZ 12,EZ 13,EZ 14,EZ 15,EZ 16,EZ 17,EZ 18,EZ 19,EZ 20,EZ 21,EZ 22,EZ 23,EZ 24]:=by kernel_rfl
theorem cU {c:Bc->Option Ae}(k:Cm d=Ag)(I:GN w h)(T:Top d a c mg mb h)(L:LE w h A z N){b:List Int}(H:b.length<=BX):U1 w h A z N Pc (Y0 b):=by
 rw[cT];refine t0 (ZF I T k:EY (W1 w h) C0 2 mg mb) L (by omega) H ?_;generalize PD (b.take 60)=C;have o:EY (W1 w h) (CL (Nf C)) 2 mg mb:=yK (k:=0) I T k (aQ C);have s:CX 2 A:=L.hA.ai (by omega);have B:=L.B;have E:zS C=Ei ["names","rights"] (w9 C):=by kernel_rfl
 exact t1 I T k L (Ho (I? o s B) (Ho (I! o s B) (Pp E (Ho (I' o s B) (Ho (H? o s B) (Ho (H! o s B) (Ho (G? o s B) (Ho (G! (Q? I T k) (L.hA.ai (by exact Ak _ _)) B) (Ho (F? o s B) (K' I T k L (J? I T k L (J! I T k L (pU (F! o s B))))))))))))))
theorem Qr:CX 13 callerA:=⟨rfl,by show 1+claimMargin+10*13<900;decide+kernel,by show 4+100*13<9000;decide⟩
theorem t8:∀q l X(d:DefRec) k,Cm q=Ag->d.name=("law":Str)->WalkO q l X (kmHook hk.1 hk.2.1 (λ _=>by kernel_rfl) [16,170,185]).says (OpenLaw.row PySem.Challenge.rw_oy0180_02).toRowW d k λ f v=>call f v:=λ _ _ _ _ _ O c=>qF c λ w s p t V a I g T i v r Q E j=>by
 have m:i.length<=BX:=by
  obtain⟨_,_,_,_,e,n,z,l⟩:=r.aj;have:=l.length;simp only[DM,Aj] at this;exact this▸z
 have W:=sE I T;refine Yw (k:=12) W (by kernel_rfl) Qr (.refl _) (XU I g) r λ h C o N B S=>?_;have L:LE w s.heap (callerA.deeper h) h s.heap:=⟨B,Qr.down h,⟨rfl,by rw[N];show(Fa w 188).scope.kind≠_;rw[W.kind];simp,by rw[N]<;>rfl,trivial,rfl⟩,by rw[N];exact fB W.names _ _,⟨_,N⟩⟩;exact(cU O I T L m).go {s with heap:=C,toks:=o} _ _ S λ H A Z b=>j H A Z
theorem holds2.tw9841220219391796086:True:=trivial
theorem holds2.tw16463812534879964731:True:=trivial
theorem holds2.tw7898789944990446398:True:=trivial
theorem holds2.tw5538311330986586492:True:=trivial
theorem holds2.tw1096132330445636691:True:=trivial
theorem holds2.tw8457092177296701508:True:=trivial
theorem holds2.tw10748551539838037586:True:=trivial
theorem holds2.tw14350671579296989519:True:=trivial
theorem holds2.tw14396302231635698566:True:=trivial
theorem holds2.tw3751607680437103778:True:=trivial
theorem holds2.tw3940033223963938415:True:=trivial
theorem holds2.tw749044318469649426:True:=trivial
theorem holds2.tw4711387853647248737:True:=trivial
theorem holds2.tw10736648861694685830:True:=trivial
theorem holds2.tw9409093223280850331:True:=trivial
theorem holds2.tw3887889549693514967:True:=trivial
theorem holds2.tw10258525514413171621:True:=trivial
theorem holds2.tw16004677229718636170:True:=trivial
theorem holds2.tw7234050155932716342:True:=trivial
theorem holds2.tw2758241545572931466:True:=trivial
theorem holds2.tw3249783178552804888:True:=trivial
theorem holds2.tw5714164617061283974:True:=trivial
theorem holds2.tw1375480318061802285:True:=trivial
theorem holds2.tw6530274973760512313:True:=trivial
theorem holds2.tw7468118089793545136:True:=trivial
theorem holds2.tw16844206709685894484:True:=trivial
theorem holds2.tw15832984399505329199:True:=trivial
theorem holds2.tw15259348283762490336:True:=trivial
theorem holds2.tw17559178184360285856:True:=trivial
theorem holds2.tw16204205365925010202:True:=trivial
theorem holds2.tw10541874661636800932:True:=trivial
theorem holds2.tw123351286650413590:True:=trivial
theorem holds2.tw10008039608717428645:True:=trivial
theorem holds2.tw3946673196280863423:True:=trivial
theorem holds2.tw15918400209723202716:True:=trivial
theorem holds2.tw2620746649278526064:True:=trivial
theorem holds2.tw7562441958909266574:True:=trivial
theorem holds2.tw3584430569689640129:True:=trivial
theorem holds2.tw13592916185908309416:True:=trivial
theorem holds2.tw11995673510999836856:True:=trivial
theorem holds2.tw16245935016768020767:True:=trivial
theorem holds2.tw2165153028840040828:True:=trivial
theorem holds2.tw7554171052340202981:True:=trivial
theorem holds2.tw7486311497160414052:True:=trivial
theorem holds2.tw16534113342203198601:True:=trivial
theorem holds2.tw14514996853120130799:True:=trivial
theorem holds2.tw4409555611400327214:True:=trivial
theorem holds2.tw4036022671705554193:True:=trivial
theorem holds2.tw17040052187789276382:True:=trivial
theorem holds2.tw17303049178160288960:True:=trivial
theorem holds2.tw1338893418316276918:True:=trivial
theorem holds2.tw11905306754465202865:True:=trivial
theorem holds2.tw3259073567608679305:True:=trivial
theorem holds2.tw14249228290333365127:True:=trivial
theorem holds2.tw3744045633890732752:True:=trivial
theorem holds2.tw18243138536528033256:True:=trivial
theorem holds2.tw1671287920431555779:True:=trivial
theorem holds2.tw13934765135214457357:True:=trivial
theorem holds2.tw10106791493851981683:True:=trivial
theorem holds2.tw8513968734966791559:True:=trivial
theorem holds2.tw12829347206380451327:True:=trivial
theorem holds2.tw3195841313215818676:True:=trivial
theorem holds2.tw14307511296891064112:True:=trivial
theorem holds2.tw17412194348689742377:True:=trivial
theorem holds2.tw15065817354073919674:True:=trivial
theorem holds2.tw15036418280847670017:True:=trivial
theorem holds2.tw16553575663181140944:True:=trivial
theorem holds2.tw2405693849731512785:True:=trivial
theorem holds2.tw5570730253689391894:True:=trivial
theorem holds2.tw8416694087092913159:True:=trivial
theorem holds2.tw6886867133794050521:True:=trivial
theorem holds2.tw5946886173678348291:True:=trivial
theorem holds2.tw371564207148792419:True:=trivial
theorem holds2.tw7260173400999269984:True:=trivial
theorem holds2.tw7582952491785815679:True:=trivial
theorem holds2.tw10642832896659052892:True:=trivial
theorem holds2.tw12706230712072791952:True:=trivial
theorem holds2.tw1497025814184064929:True:=trivial
theorem holds2.tw16305484260208991058:True:=trivial
theorem holds2.tw4660274137581950534:True:=trivial
theorem holds2.tw6470751281483851456:True:=trivial
theorem holds2.tw3273948514163044671:True:=trivial
theorem holds2.tw9704488602052689957:True:=trivial
theorem holds2.tw4098647931815193294:True:=trivial
theorem holds2.tw10917294295690899990:True:=trivial
theorem holds2.tw10066398627358089225:True:=trivial
theorem holds2.tw6723674783376961503:True:=trivial
theorem holds2.tw4546292566427648870:True:=trivial
theorem holds2.tw18432844781865108980:True:=trivial
theorem holds2.tw4083610661930713457:True:=trivial
theorem holds2.tw981346261192460977:True:=trivial
theorem holds2.tw9643554045684457298:True:=trivial
theorem holds2.tw3600384936787351846:True:=trivial
theorem holds2.tw17727924899855989048:True:=trivial
theorem holds2.tw7434744568853794098:True:=trivial
theorem holds2.tw12846630788444474832:True:=trivial
theorem holds2.tw8668504498368040830:True:=trivial
theorem holds2.tw12919953842215791929:True:=trivial
theorem holds2.tw12405734837584832333:True:=trivial
theorem holds2.tw2491606074742956222:True:=trivial
theorem holds2.tw8181303327880946099:True:=trivial
theorem holds2.tw9381876830724287723:True:=trivial
theorem holds2.tw11732432248227208449:True:=trivial
theorem holds2.tw6783630104334965078:True:=trivial
theorem holds2.tw14837813771056953702:True:=trivial
theorem holds2.tw7768120470618220393:True:=trivial
theorem holds2.tw5842786635099085250:True:=trivial
theorem holds2.tw3587074100592783098:True:=trivial
theorem holds2.tw15124672647970523304:True:=trivial
theorem holds2.tw2048913636709199625:True:=trivial
theorem holds2.tw12437125808019150097:True:=trivial
theorem holds2.tw17571320149253225256:True:=trivial
theorem holds2.tw6606720526951128164:True:=trivial
theorem holds2.tw13795908423971136331:True:=trivial
theorem holds2.tw2085395159791932024:True:=trivial
theorem holds2.tw1604971351436918898:True:=trivial
theorem holds2.tw13076663445972401142:True:=trivial
theorem holds2.tw18436849995025068223:True:=trivial
theorem holds2.tw1833497058632236990:True:=trivial
theorem holds2.tw5714235954285754485:True:=trivial
theorem holds2.tw13846961764995374786:True:=trivial
theorem holds2.tw10241433876968535864:True:=trivial
theorem holds2.tw2953924708134558591:True:=trivial
theorem holds2.tw15207039257646820783:True:=trivial
theorem holds2.tw14637347359017071732:True:=trivial
theorem holds2.tw7942503939883684579:True:=trivial
theorem holds2.tw8210540626169644811:True:=trivial
theorem holds2.tw4869617404680236115:True:=trivial
theorem holds2.tw1247190295429077549:True:=trivial
theorem holds2.tw5544219102520475815:True:=trivial
theorem holds2.tw12603962534469907352:True:=trivial
theorem holds2.tw17962194051795899985:True:=trivial
theorem holds2.tw459790434132459464:True:=trivial
theorem holds2.tw5400935671310040032:True:=trivial
theorem holds2.tw9909795252630298412:True:=trivial
theorem holds2.tw15511537021553817297:True:=trivial
theorem holds2.tw14480249953465753576:True:=trivial
theorem holds2.tw186640071578631123:True:=trivial
theorem holds2.tw12918611035007954073:True:=trivial
theorem holds2.tw14202645885940448412:True:=trivial
theorem holds2.tw8457450266812620304:True:=trivial
theorem holds2.tw15919969014481006953:True:=trivial
theorem holds2.tw17168815702718424863:True:=trivial
theorem holds2.tw9127295582768622813:True:=trivial
theorem holds2.tw9532992850360990971:True:=trivial
theorem holds2.tw15567822491219202711:True:=trivial
theorem holds2.tw7677256949157042998:True:=trivial
theorem holds2.tw6964109225151321999:True:=trivial
theorem holds2.tw16540165634302168050:True:=trivial
theorem holds2.tw2776012051493159545:True:=trivial
theorem holds2.tw15018034304434179615:True:=trivial
theorem holds2.tw5317361403271262298:True:=trivial
theorem holds2.tw11734184374450932817:True:=trivial
theorem holds2.tw3269343583344560313:True:=trivial
theorem holds2.tw15937234456717557304:True:=trivial
theorem holds2.tw528654697579846172:True:=trivial
theorem holds2.tw12982566210494272:True:=trivial
theorem holds2.tw1746943939231425790:True:=trivial
theorem holds2.tw3687532545918627499:True:=trivial
theorem holds2.tw12156396884124422530:True:=trivial
theorem holds2.tw8394356481365537545:True:=trivial
theorem holds2.tw9071667045096245714:True:=trivial
theorem holds2.tw7197685998488594955:True:=trivial
theorem holds2.tw7458732290726068199:True:=trivial
theorem holds2.tw3632233672916711603:True:=trivial
theorem holds2.tw12231879003427140603:True:=trivial
theorem holds2.tw1508498212538435967:True:=trivial
theorem holds2.tw11745445730209819403:True:=trivial
theorem holds2.tw2417657719225332339:True:=trivial
theorem holds2.tw11060440426239479765:True:=trivial
theorem holds2.tw15366728792871400825:True:=trivial
theorem holds2.tw3529777913436947598:True:=trivial
theorem holds2.tw7886793056388224190:True:=trivial
theorem holds2.tw11849110156099345590:True:=trivial
theorem holds2.tw4502385165063216213:True:=trivial
theorem holds2.tw11303181857069957749:True:=trivial
theorem holds2.tw3783386487564767895:True:=trivial
theorem holds2.tw10882875028243481570:True:=trivial
theorem holds2.tw1478772545986026842:True:=trivial
theorem holds2.tw1552633862865485778:True:=trivial
theorem holds2.tw1150673111279255929:True:=trivial
theorem holds2.tw13470822530825563399:True:=trivial
theorem holds2.tw5425364179145508180:True:=trivial
theorem holds2.tw12152761812997003944:True:=trivial
set_option Elab.async true in
theorem holds2:PySem.Challenge.rw_oy0180_02.Holds:=by
 w_on;o_law;o_head (kmHook hk.1 hk.2.1 (λ _=>by kernel_rfl) [16,170,185])
 case hw=>w_witness2
 case hc=>exact t8 _ _ _ _ _ (by kernel_rfl) (by kernel_rfl)
end Mine.Internal
theorem PySem.Challenge.cw_oy0180_02_holds : PySem.Challenge.rw_oy0180_02.Holds :=
  Mine.Internal.holds2
